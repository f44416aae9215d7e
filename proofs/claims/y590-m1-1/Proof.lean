import JvmDerived
import JvmDerived.Pilot.@@N@@Statement
import JvmDerived.Pilot.@@N@@Code
set_option linter.unusedVariables false
set_option linter.unusedSimpArgs false
namespace Jvm.RoadKit
open Sem ClassFile Op Lib Jvm.Stand Jvm.Free Jvm.LawKit
section New
variable {p : Program} {l : Launch} {e : Env} {R : Room} {s : State} {m : MethodId} {args : Array Value} {below : List Frame} {meth : Method} {c : Code} {T : State} {locs : List Loc} {cells slots : Nat}
theorem retI (X : Stand p l e R s m args below meth c T locs cells slots) (hx : p.tables.exec = Jvm.exec) {pc : Nat} {Ls : Array Slot} {z : Int32} {rest : List Value} (hret : meth.sig.returnType = some .int) (hd : decode c.code pc = .ok (.ireturn, 1)) {fs : List Frame}
    (hl : ∀ (f : JFrame) (acts : List Action), f.method = m → f.locked = none → f.entered = [] → (doReturn e (T.setTop f) acts (some (.int z))).1 = T.setFrames fs) : Steps p.tables e below (T.setTop (mkF m pc Ls (.int z :: rest))) (T.setFrames fs) :=
  retOut X hx hret rfl (Or.inl ⟨rfl, Or.inl rfl, _, rfl⟩) hd hl
end New
end Jvm.RoadKit
namespace Jvm.Pilot.@@N@@
open Jvm Jvm.ClassFile Sem Op Lib Jvm.Free Jvm.Stand Jvm.LawKit Jvm.RoadKit Bundle Jvm.Pilot.@@N@@.Jvm.D
theorem own_sub {p : Program} {l : Launch} {e : Env} {R : Room} {s : State} {m : MethodId} {args : Array Value} {below : List Frame} {meth : Method} {c : Code} {T : State} {L L' : List Loc} {k k' n n' : Nat} (X : Stand p l e R s m args below meth c T L k n) (hl : L = L') (hk : k = k') (hn : n = n') : Stand p l e R s m args below meth c T L' k' n' := by
  subst hl hk hn
  exact X
abbrev own_m0 : MethodName := ⟨"com/example/tallywire/tallywire/wire/FieldType", "holdsSeveral", "()Z"⟩
abbrev own_m1 : MethodName := ⟨"java/lang/String", "length", "()I"⟩
abbrev own_m2 : MethodName := ⟨"jdk/internal/util/Preconditions", "checkIndex", "(IILjava/util/function/BiFunction;)I"⟩
abbrev own_m3 : MethodName := ⟨"com/example/tallywire/tallywire/wire/FieldType", "hasForm", "(Ljava/lang/String;)Z"⟩
abbrev own_m4 : MethodName := ⟨"java/lang/String", "charAt", "(I)C"⟩
abbrev own_m5 : MethodName := ⟨"java/lang/StringUTF16", "compress", "([CII)[B"⟩
abbrev own_m6 : MethodName := ⟨"java/lang/String", "<init>", "([CIILjava/lang/Void;)V"⟩
abbrev own_m7 : MethodName := ⟨"java/lang/String", "<init>", "([C)V"⟩
abbrev own_m8 : MethodName := ⟨"java/lang/Enum", "ordinal", "()I"⟩
abbrev own_m9 : MethodName := ⟨"java/lang/String", "checkIndex", "(II)V"⟩
abbrev own_m10 : MethodName := ⟨"java/lang/StringLatin1", "charAt", "([BI)C"⟩
abbrev own_m11 : MethodName := ⟨"com/example/tallywire/tallywire/wire/FieldTypeHoldsSeveralPinLaw", "nonSpace", "(I)C"⟩
abbrev own_m12 : MethodName := ⟨"java/lang/String", "isLatin1", "()Z"⟩
abbrev own_m13 : MethodName := ⟨"java/lang/StringUTF16", "compress", "([CI[BII)I"⟩
abbrev own_m14 : MethodName := ⟨"java/lang/StringUTF16", "coderFromArrayLen", "([BI)B"⟩
abbrev own_m15 : MethodName := ⟨"java/lang/String", "coder", "()B"⟩
abbrev own_m16 : MethodName := ⟨"com/example/tallywire/tallywire/wire/FieldType", "ordinal", "()I"⟩
abbrev own_m17 : MethodName := ⟨"com/example/tallywire/tallywire/wire/FieldType", "isCharacterList", "(Ljava/lang/String;)Z"⟩
/-- what a body that writes nothing leaves: its value, no place written, the heap as it was -/
def PQ (w : Option Value) (h0 : Heap) (n0 : Nat) (v : Option Value) (h : Heap) (L : List Loc) : Prop := v = w ∧ Fr n0 L ∧ h = h0
def LQ (n0 : Nat) (v : Option Value) (h : Heap) (L : List Loc) : Prop := v = some (.int (1 : Int32)) ∧ Fr n0 L ∧ True
theorem own_pd0 : parseMethodDescriptor "()Z" = some ⟨[], some .boolean⟩ := by decide +kernel
theorem own_pd1 : parseMethodDescriptor "(I)C" = some ⟨[.int], some .char⟩ := by decide +kernel
theorem own_pd2 : parseMethodDescriptor "([CI[BII)I" = some ⟨[(.array .char), .int, (.array .byte), .int, .int], some .int⟩ := by decide +kernel
theorem own_pd3 : parseMethodDescriptor "([CII)[B" = some ⟨[(.array .char), .int, .int], some (.array .byte)⟩ := by decide +kernel
theorem own_pd4 : parseMethodDescriptor "([BI)B" = some ⟨[(.array .byte), .int], some .byte⟩ := by decide +kernel
theorem own_pd5 : parseMethodDescriptor "([CIILjava/lang/Void;)V" = some ⟨[(.array .char), .int, .int, (.object "java/lang/Void")], none⟩ := by decide +kernel
theorem own_pd6 : parseMethodDescriptor "([C)V" = some ⟨[(.array .char)], none⟩ := by decide +kernel
theorem own_pd7 : parseMethodDescriptor "()B" = some ⟨[], some .byte⟩ := by decide +kernel
theorem own_pd8 : parseMethodDescriptor "()I" = some ⟨[], some .int⟩ := by decide +kernel
theorem own_pd9 : parseMethodDescriptor "(Ljava/lang/String;)Z" = some ⟨[(.object "java/lang/String")], some .boolean⟩ := by decide +kernel
theorem own_pd10 : parseMethodDescriptor "(IILjava/util/function/BiFunction;)I" = some ⟨[.int, .int, (.object "java/util/function/BiFunction")], some .int⟩ := by decide +kernel
theorem own_pd11 : parseMethodDescriptor "(II)V" = some ⟨[.int, .int], none⟩ := by decide +kernel
theorem own_pd12 : parseMethodDescriptor "([BI)C" = some ⟨[(.array .byte), .int], some .char⟩ := by decide +kernel
theorem own_k (p : Int32) : ∃ n, n < 28 ∧ ((p &&& (2147483647 : Int32)) % (28 : Int32)) = Int32.ofNat n := by
  have q0 := c_and p 2147483647 (by decide)
  have q := (c_irem (p &&& (2147483647 : Int32)) (28 : Int32) 28 rfl).1 q0.1
  refine ⟨((p &&& (2147483647 : Int32)).toInt % 28).toNat, by omega, ?_⟩
  rw [← Int32.toInt_inj, q, Int32.toInt_ofNat_small (by omega)]
  omega
theorem own_eqv {s : State} {args : Array Value} {t u : Term} {w : Value} (hu : u.eval args s none [] s = some w) (h : (Cond.eq t u).value args s none s [] = some true) (hk : (match w with | .retAddr _ => false | .float _ => false | .double _ => false | _ => true) = true := by rfl) : t.eval args s none [] s = some w := by
  obtain ⟨x, y, e1, e2, -, -⟩ := cmp_v (Or.inl h)
  cases hu.symm.trans e2
  rw [e1]
  simp only [Cond.value, e1, hu] at h
  cases x <;> cases w <;> simp at h hk ⊢ <;> exact h
theorem own_fld {s : State} {args : Array Value} {t : Term} {C n d : String} {a : Addr} {v : Value} (ht : t.eval args s none [] s = some (.ref a)) (h : (Term.field t C n d).eval args s none [] s = some v) : Fld s s.heap a C n d v := Fld.start ((fld_at ht).symm.trans h)
theorem own_len {s : State} {args : Array Value} {t : Term} {ty : FieldType} {a : Addr} {n : Int32} (ht : t.eval args s none [] s = some (.ref a)) (ha : (Cond.arrayOf t ty).value args s none s [] = some true) (hl : (Cond.eq (.length t) (.int n)).value args s none s [] = some true) (hn : ¬ n < 0) :
    ∃ c : Cell, Arr s s.heap a c ty ∧ c.slots.size < 2 ^ 31 ∧ c.slots.size.toInt32 = n := by
  obtain ⟨c, A⟩ := Arr.start ht ha
  have e := own_eqv (Term.int_eval n) hl
  have A2 := A.fin (Vm.Alike.refl _)
  obtain ⟨x, c2, e1, e2, e3⟩ := Term.length_spec e
  cases ht.symm.trans e1
  cases A2.symm.trans e2
  have h31 := SBG.length_lt ht A2 e
  refine ⟨c, A, h31, ?_⟩
  have := len_f ht A2 h31
  rw [e] at this
  simpa using (Option.some.inj this).symm
theorem own_elem {s : State} {args : Array Value} {t : Term} {ty : FieldType} {a : Addr} {c : Cell} {j : Int32} {v : Value} (ht : t.eval args s none [] s = some (.ref a)) (A : Arr s s.heap a c ty) (h : (Term.elem t (.int j)).eval args s none [] s = some v) : c.slots[j.toNatClampNeg]? = some v := (elem_in h ht (Term.int_eval j) A.1).2
theorem own_all0 {s : State} {args : Array Value} {t : Term} {ty : FieldType} {a : Addr} {c : Cell} {k n : Int32} (ht : ∀ idx, t.eval args s none idx s = some (.ref a)) (A : Arr s s.heap a c ty) (h31 : c.slots.size < 2 ^ 31) (hn : c.slots.size.toInt32 = n)
    (h : (Cond.all t (.or (.lt (.index 0) (.int k)) (.eq (.elem t (.index 0)) (.int 0)))).value args s none s [] = some true) (j : Nat) (hj : j < n.toNatClampNeg) (hk : ¬ j.toInt32 < k) : c.slots[j]? = some (.int 0) := by
  have A2 := A.fin (Vm.Alike.refl _)
  have hsz : n.toNatClampNeg = c.slots.size := by rw [← hn]; simp only [Int32.toNatClampNeg, len_toInt h31]; rfl
  have hj2 : j < c.slots.size := hsz ▸ hj
  have q := Cond.all_elim (ht []) A2 h j hj2
  have e1 : (Term.index 0).eval args s none [j] s = some (.int j.toInt32) := rfl
  have l1 : (Cond.lt (.index 0) (.int k)).value args s none s [j] = some false := by
    simp [Cond.value, e1, Term.int_eval, hk]
  have q2 : (Cond.eq (.elem t (.index 0)) (.int 0)).value args s none s [j] = some true := by
    have q3 : (match (Cond.lt (.index 0) (.int k)).value args s none s [j] with | some false => (Cond.eq (.elem t (.index 0)) (.int 0)).value args s none s [j] | x => x) = some true := q
    rw [l1] at q3
    exact q3
  obtain ⟨x, y, e2, e3, -, -⟩ := cmp_v (Or.inl q2)
  cases (Term.int_eval (args := args) (first := s) (o := none) (idx := [j]) (s := s) 0).symm.trans e3
  have e4 : (Term.elem t (.index 0)).eval args s none [j] s = some (.int 0) := by
    simp only [Cond.value, e2, e3] at q2
    rw [e2]; cases x <;> simp at q2 ⊢; exact q2
  have e5 := elem_in e4 (ht [j]) e1 A.1
  have e6 : (Nat.toInt32 j).toNatClampNeg = j := by simp only [Int32.toNatClampNeg, len_toInt (Nat.lt_trans hj2 h31)]; rfl
  rw [e6] at e5
  exact e5.2
theorem own_csne {s : State} {args : Array Value} {t : Term} {v : Int32} (e : t.eval args s none [] s = some (.int v)) (h : (Cond.not (.eq t (.int 0))).value args s none s [] = some true) : ¬ (v = (0 : Int32)) := by
  have q := not_v h
  intro hv
  subst hv
  have q2 := Cond.eq_ints e (Term.int_eval (args := args) (first := s) (o := none) (idx := []) (s := s) 0)
  rw [q2] at q
  simp at q
theorem own_orref {s : State} {args : Array Value} {C f d : String} (h : (Cond.isRef (.static C f d)).value args s none s [] = some true) (hi : (Cond.initializedFor C f d).before args s = true ∨ ((Cond.initialized C).before args s = true ∧ (Cond.laysStatic C f d).before args s = true)) : (Sta s s.heap C f d .null) ∨ (∃ a, Sta s s.heap C f d (.ref a)) := by
  obtain ⟨x, e, hr⟩ := isR_v h
  rcases ref_cases hr with rfl | ⟨a, rfl⟩
  · exact Or.inl (Sta.start e hi)
  · exact Or.inr ⟨a, Sta.start e hi⟩
def own_St (Z : State) (A : Nat → Addr) (K : Nat → ClassId) (cs : Int32) : Prop := ((Sta Z Z.heap "com/example/tallywire/tallywire/wire/FieldType" "INT" "Lcom/example/tallywire/tallywire/wire/FieldType;" (.ref (A 0))) ∧ (Exa Z Z.heap (A 0) "com/example/tallywire/tallywire/wire/FieldType") ∧ (Sta Z Z.heap "com/example/tallywire/tallywire/wire/FieldType" "SEQNUM" "Lcom/example/tallywire/tallywire/wire/FieldType;" (.ref (A 1))) ∧ (Exa Z Z.heap (A 1) "com/example/tallywire/tallywire/wire/FieldType") ∧ (Sta Z Z.heap "com/example/tallywire/tallywire/wire/FieldType" "LENGTH" "Lcom/example/tallywire/tallywire/wire/FieldType;" (.ref (A 2))) ∧ (Exa Z Z.heap (A 2) "com/example/tallywire/tallywire/wire/FieldType") ∧ (Sta Z Z.heap "com/example/tallywire/tallywire/wire/FieldType" "NUMINGROUP" "Lcom/example/tallywire/tallywire/wire/FieldType;" (.ref (A 3))) ∧ (Exa Z Z.heap (A 3) "com/example/tallywire/tallywire/wire/FieldType") ∧ True) ∧ ((Sta Z Z.heap "com/example/tallywire/tallywire/wire/FieldType" "FLOAT" "Lcom/example/tallywire/tallywire/wire/FieldType;" (.ref (A 4))) ∧ (Exa Z Z.heap (A 4) "com/example/tallywire/tallywire/wire/FieldType") ∧ (Sta Z Z.heap "com/example/tallywire/tallywire/wire/FieldType" "QTY" "Lcom/example/tallywire/tallywire/wire/FieldType;" (.ref (A 5))) ∧ (Exa Z Z.heap (A 5) "com/example/tallywire/tallywire/wire/FieldType") ∧ (Sta Z Z.heap "com/example/tallywire/tallywire/wire/FieldType" "PRICE" "Lcom/example/tallywire/tallywire/wire/FieldType;" (.ref (A 6))) ∧ (Exa Z Z.heap (A 6) "com/example/tallywire/tallywire/wire/FieldType") ∧ (Sta Z Z.heap "com/example/tallywire/tallywire/wire/FieldType" "AMT" "Lcom/example/tallywire/tallywire/wire/FieldType;" (.ref (A 7))) ∧ (Exa Z Z.heap (A 7) "com/example/tallywire/tallywire/wire/FieldType") ∧ True) ∧ ((Sta Z Z.heap "com/example/tallywire/tallywire/wire/FieldType" "PERCENTAGE" "Lcom/example/tallywire/tallywire/wire/FieldType;" (.ref (A 8))) ∧ (Exa Z Z.heap (A 8) "com/example/tallywire/tallywire/wire/FieldType") ∧ (Sta Z Z.heap "com/example/tallywire/tallywire/wire/FieldType" "PRICEOFFSET" "Lcom/example/tallywire/tallywire/wire/FieldType;" (.ref (A 9))) ∧ (Exa Z Z.heap (A 9) "com/example/tallywire/tallywire/wire/FieldType") ∧ (Sta Z Z.heap "com/example/tallywire/tallywire/wire/FieldType" "CHAR" "Lcom/example/tallywire/tallywire/wire/FieldType;" (.ref (A 10))) ∧ (Exa Z Z.heap (A 10) "com/example/tallywire/tallywire/wire/FieldType") ∧ (Sta Z Z.heap "com/example/tallywire/tallywire/wire/FieldType" "BOOLEAN" "Lcom/example/tallywire/tallywire/wire/FieldType;" (.ref (A 11))) ∧ (Exa Z Z.heap (A 11) "com/example/tallywire/tallywire/wire/FieldType") ∧ True) ∧ ((Sta Z Z.heap "com/example/tallywire/tallywire/wire/FieldType" "STRING" "Lcom/example/tallywire/tallywire/wire/FieldType;" (.ref (A 12))) ∧ (Exa Z Z.heap (A 12) "com/example/tallywire/tallywire/wire/FieldType") ∧ (Sta Z Z.heap "com/example/tallywire/tallywire/wire/FieldType" "MULTIPLEVALUESTRING" "Lcom/example/tallywire/tallywire/wire/FieldType;" (.ref (A 13))) ∧ (Exa Z Z.heap (A 13) "com/example/tallywire/tallywire/wire/FieldType") ∧ (Sta Z Z.heap "com/example/tallywire/tallywire/wire/FieldType" "MULTIPLESTRINGVALUE" "Lcom/example/tallywire/tallywire/wire/FieldType;" (.ref (A 14))) ∧ (Exa Z Z.heap (A 14) "com/example/tallywire/tallywire/wire/FieldType") ∧ (Sta Z Z.heap "com/example/tallywire/tallywire/wire/FieldType" "MULTIPLECHARVALUE" "Lcom/example/tallywire/tallywire/wire/FieldType;" (.ref (A 15))) ∧ (Exa Z Z.heap (A 15) "com/example/tallywire/tallywire/wire/FieldType") ∧ True) ∧ ((Sta Z Z.heap "com/example/tallywire/tallywire/wire/FieldType" "EXCHANGE" "Lcom/example/tallywire/tallywire/wire/FieldType;" (.ref (A 16))) ∧ (Exa Z Z.heap (A 16) "com/example/tallywire/tallywire/wire/FieldType") ∧ (Sta Z Z.heap "com/example/tallywire/tallywire/wire/FieldType" "CURRENCY" "Lcom/example/tallywire/tallywire/wire/FieldType;" (.ref (A 17))) ∧ (Exa Z Z.heap (A 17) "com/example/tallywire/tallywire/wire/FieldType") ∧ (Sta Z Z.heap "com/example/tallywire/tallywire/wire/FieldType" "COUNTRY" "Lcom/example/tallywire/tallywire/wire/FieldType;" (.ref (A 18))) ∧ (Exa Z Z.heap (A 18) "com/example/tallywire/tallywire/wire/FieldType") ∧ (Sta Z Z.heap "com/example/tallywire/tallywire/wire/FieldType" "LOCALMKTDATE" "Lcom/example/tallywire/tallywire/wire/FieldType;" (.ref (A 19))) ∧ (Exa Z Z.heap (A 19) "com/example/tallywire/tallywire/wire/FieldType") ∧ True) ∧ ((Sta Z Z.heap "com/example/tallywire/tallywire/wire/FieldType" "UTCDATEONLY" "Lcom/example/tallywire/tallywire/wire/FieldType;" (.ref (A 20))) ∧ (Exa Z Z.heap (A 20) "com/example/tallywire/tallywire/wire/FieldType") ∧ (Sta Z Z.heap "com/example/tallywire/tallywire/wire/FieldType" "MONTHYEAR" "Lcom/example/tallywire/tallywire/wire/FieldType;" (.ref (A 21))) ∧ (Exa Z Z.heap (A 21) "com/example/tallywire/tallywire/wire/FieldType") ∧ (Sta Z Z.heap "com/example/tallywire/tallywire/wire/FieldType" "UTCTIMESTAMP" "Lcom/example/tallywire/tallywire/wire/FieldType;" (.ref (A 22))) ∧ (Exa Z Z.heap (A 22) "com/example/tallywire/tallywire/wire/FieldType") ∧ (Sta Z Z.heap "com/example/tallywire/tallywire/wire/FieldType" "UTCTIMEONLY" "Lcom/example/tallywire/tallywire/wire/FieldType;" (.ref (A 23))) ∧ (Exa Z Z.heap (A 23) "com/example/tallywire/tallywire/wire/FieldType") ∧ True) ∧ ((Sta Z Z.heap "com/example/tallywire/tallywire/wire/FieldType" "TZTIMEONLY" "Lcom/example/tallywire/tallywire/wire/FieldType;" (.ref (A 24))) ∧ (Exa Z Z.heap (A 24) "com/example/tallywire/tallywire/wire/FieldType") ∧ (Sta Z Z.heap "com/example/tallywire/tallywire/wire/FieldType" "TZTIMESTAMP" "Lcom/example/tallywire/tallywire/wire/FieldType;" (.ref (A 25))) ∧ (Exa Z Z.heap (A 25) "com/example/tallywire/tallywire/wire/FieldType") ∧ (Sta Z Z.heap "com/example/tallywire/tallywire/wire/FieldType" "DATA" "Lcom/example/tallywire/tallywire/wire/FieldType;" (.ref (A 26))) ∧ (Exa Z Z.heap (A 26) "com/example/tallywire/tallywire/wire/FieldType") ∧ (Sta Z Z.heap "com/example/tallywire/tallywire/wire/FieldType" "XMLDATA" "Lcom/example/tallywire/tallywire/wire/FieldType;" (.ref (A 27))) ∧ (Exa Z Z.heap (A 27) "com/example/tallywire/tallywire/wire/FieldType") ∧ True) ∧ ((Sta Z Z.heap "java/lang/String" "COMPACT_STRINGS" "Z" (.int cs)) ∧ (¬ (cs = (0 : Int32))) ∧ ((Sta Z Z.heap "jdk/internal/util/Preconditions" "SIOOBE_FORMATTER" "Ljava/util/function/BiFunction;" .null) ∨ (∃ a, Sta Z Z.heap "jdk/internal/util/Preconditions" "SIOOBE_FORMATTER" "Ljava/util/function/BiFunction;" (.ref a))) ∧ (Fld Z Z.heap (A 0) "java/lang/Enum" "ordinal" "I" (.int (0 : Int32))) ∧ (Fld Z Z.heap (A 13) "java/lang/Enum" "ordinal" "I" (.int (13 : Int32))) ∧ (Fld Z Z.heap (A 14) "java/lang/Enum" "ordinal" "I" (.int (14 : Int32))) ∧ (Fld Z Z.heap (A 15) "java/lang/Enum" "ordinal" "I" (.int (15 : Int32))) ∧ (Fld Z Z.heap (A 1) "java/lang/Enum" "ordinal" "I" (.int (1 : Int32))) ∧ True) ∧ ((Fld Z Z.heap (A 24) "java/lang/Enum" "ordinal" "I" (.int (24 : Int32))) ∧ (Fld Z Z.heap (A 19) "java/lang/Enum" "ordinal" "I" (.int (19 : Int32))) ∧ (Fld Z Z.heap (A 8) "java/lang/Enum" "ordinal" "I" (.int (8 : Int32))) ∧ (Fld Z Z.heap (A 2) "java/lang/Enum" "ordinal" "I" (.int (2 : Int32))) ∧ (Fld Z Z.heap (A 3) "java/lang/Enum" "ordinal" "I" (.int (3 : Int32))) ∧ (Fld Z Z.heap (A 10) "java/lang/Enum" "ordinal" "I" (.int (10 : Int32))) ∧ (Fld Z Z.heap (A 16) "java/lang/Enum" "ordinal" "I" (.int (16 : Int32))) ∧ (Fld Z Z.heap (A 17) "java/lang/Enum" "ordinal" "I" (.int (17 : Int32))) ∧ True) ∧ ((Fld Z Z.heap (A 25) "java/lang/Enum" "ordinal" "I" (.int (25 : Int32))) ∧ (Fld Z Z.heap (A 11) "java/lang/Enum" "ordinal" "I" (.int (11 : Int32))) ∧ (Fld Z Z.heap (A 22) "java/lang/Enum" "ordinal" "I" (.int (22 : Int32))) ∧ (Fld Z Z.heap (A 9) "java/lang/Enum" "ordinal" "I" (.int (9 : Int32))) ∧ (Fld Z Z.heap (A 5) "java/lang/Enum" "ordinal" "I" (.int (5 : Int32))) ∧ (Fld Z Z.heap (A 4) "java/lang/Enum" "ordinal" "I" (.int (4 : Int32))) ∧ (Fld Z Z.heap (A 18) "java/lang/Enum" "ordinal" "I" (.int (18 : Int32))) ∧ (Fld Z Z.heap (A 7) "java/lang/Enum" "ordinal" "I" (.int (7 : Int32))) ∧ True) ∧ ((Fld Z Z.heap (A 6) "java/lang/Enum" "ordinal" "I" (.int (6 : Int32))) ∧ (Fld Z Z.heap (A 21) "java/lang/Enum" "ordinal" "I" (.int (21 : Int32))) ∧ (Fld Z Z.heap (A 27) "java/lang/Enum" "ordinal" "I" (.int (27 : Int32))) ∧ (Fld Z Z.heap (A 20) "java/lang/Enum" "ordinal" "I" (.int (20 : Int32))) ∧ (Fld Z Z.heap (A 12) "java/lang/Enum" "ordinal" "I" (.int (12 : Int32))) ∧ (Fld Z Z.heap (A 26) "java/lang/Enum" "ordinal" "I" (.int (26 : Int32))) ∧ (Fld Z Z.heap (A 23) "java/lang/Enum" "ordinal" "I" (.int (23 : Int32))) ∧ True) ∧ True
theorem own_d_method_2_code_0 : decode method_2_code 0 = .ok (.iload_n 0, 1) := by decide +kernel
theorem own_d_method_2_code_1 : decode method_2_code 1 = .ok (.sipush 255, 3) := by decide +kernel
theorem own_d_method_2_code_4 : decode method_2_code 4 = .ok (.iand, 1) := by decide +kernel
theorem own_d_method_2_code_5 : decode method_2_code 5 = .ok (.i2c, 1) := by decide +kernel
theorem own_d_method_2_code_6 : decode method_2_code 6 = .ok (.istore_n 1, 1) := by decide +kernel
theorem own_d_method_2_code_7 : decode method_2_code 7 = .ok (.iload_n 1, 1) := by decide +kernel
theorem own_d_method_2_code_8 : decode method_2_code 8 = .ok (.bipush 32, 2) := by decide +kernel
theorem own_d_method_2_code_10 : decode method_2_code 10 = .ok (.if_icmp .ne 8, 3) := by decide +kernel
theorem own_d_method_2_code_13 : decode method_2_code 13 = .ok (.bipush 120, 2) := by decide +kernel
theorem own_d_method_2_code_15 : decode method_2_code 15 = .ok (.goto 4, 3) := by decide +kernel
theorem own_d_method_2_code_18 : decode method_2_code 18 = .ok (.iload_n 1, 1) := by decide +kernel
theorem own_d_method_2_code_19 : decode method_2_code 19 = .ok (.ireturn, 1) := by decide +kernel
theorem own_pn0 : plainName "com/example/tallywire/tallywire/wire/FieldTypeHoldsSeveralPinLaw" = true := by first | (simp [plainName, overriddenIn]; done) | decide +kernel
theorem own_ef_rmN (m : MethodId) (q1 : Int32)  : entryFrame m #[(.int q1)] 2 = mkF m 0 #[.val (.int q1), .unset] [] := by first | (simp [entryFrame, mkF, argsToLocals, Value.category, maxLocals]; done) | rfl
def own_f_rmN (q1 : Int32) : Int32 := if ((q1 &&& (255 : Int32)).toUInt32.toUInt16.toUInt32.toInt32) = (32 : Int32) then (120 : Int32)
  else (nar .char ((q1 &&& (255 : Int32)).toUInt32.toUInt16.toUInt32.toInt32))
set_option maxRecDepth 65536 in
set_option maxHeartbeats 40000000 in
theorem rmN (l : Launch) (Z : State) (a0 : Array Value) (hw : ∀ d ∈ tables_1, d.before a0 Z = true) (ws : List Jvm.Cond) (h0 : Heap) (n0 : Nat) (q1 : Int32)  (OL0 : Old Z n0 h0) :
    MetFree l own_m11 (head1 (Jvm.Cond.code own_m11 method_2_code 2 (some .char) :: ws) ({ frames := 0, cells := 0, slots := 0, locals := 0 } : Room)) (fun a U => a = #[(.int q1)] ∧ Z.Warmed39 U.vm ∧ U.heap = h0) (fun _ _ _ _ _ => True) (fun _ U o U' => ∃ v L, o = .returned v ∧ (PQ (some (.int (own_f_rmN q1))) h0 n0) v U'.heap L ∧ FrameEnd U o U' L ({ frames := 0, cells := 0, slots := 0, locals := 0 } : Room).cells ({ frames := 0, cells := 0, slots := 0, locals := 0 } : Room).slots) := by
  refine MetFree.of_bodySF (plainFor_of_name own_pn0) hisR ?_
  intro p e s m args below meth c s₁ Bd hml0 hP hK
  obtain ⟨rfl, hZ, hh⟩ := hP
  have hx := Bd.exec
  have hby := Bd.bytes
  have hml : c.maxLocals = 2 := hml0
  have hown : s.vm.findClass "com/example/tallywire/tallywire/wire/FieldTypeHoldsSeveralPinLaw" = some m.cls := findClass_of_methodNamed Bd.named
  have hnm := (name_of_methodNamed Bd.named Bd.method).1
  have X0 : Stand p l e ({ frames := 0, cells := 0, slots := 0, locals := 0 } : Room) s m #[(.int q1)] below meth c s₁ [] 0 0 := Stand.of_body Bd
  have e0 : s₁.heap = h0 := by rw [← hh, Bd.state]; rfl
  have N0 := Fr.nil n0
  have pre0 : ∀ t, Steps p.tables e below (s₁.setTop (mkF m 0 #[.val (.int q1), .unset] [])) t → Steps p.tables e below (s₁.setTop (entryFrame m #[(.int q1)] 2)) t := fun t k => castTop (own_ef_rmN m q1 ) k
  have KK0 : Keep h0 h0 [] := Keep.refl _ _
  have pre1 : ∀ t, Steps p.tables e below (s₁.setTop (mkF m 10 #[.val (.int q1), .val (.int ((q1 &&& (255 : Int32)).toUInt32.toUInt16.toUInt32.toInt32))] [(.int (32 : Int32)), (.int ((q1 &&& (255 : Int32)).toUInt32.toUInt16.toUInt32.toInt32))])) t → Steps p.tables e below (s₁.setTop (entryFrame m #[(.int q1)] 2)) t := fun t k => pre0 t (by
    show Steps p.tables e below (s₁.setTop (mkF m 0 #[.val (.int q1), .unset] [])) _
    refine XS.iloadN X0.here hx rfl (hb hby own_d_method_2_code_0) rfl ?_
    refine XS.sipush X0.here hx rfl (hb hby own_d_method_2_code_1) ?_
    refine XS.iand X0.here hx rfl (hb hby own_d_method_2_code_4) rfl ?_
    show Steps p.tables e below (s₁.setTop (mkF m 5 #[.val (.int q1), .unset] [(.int (q1 &&& (255 : Int32)))])) _
    refine XS.i2c X0.here hx rfl (hb hby own_d_method_2_code_5) rfl ?_
    show Steps p.tables e below (s₁.setTop (mkF m 6 #[.val (.int q1), .unset] [(.int ((q1 &&& (255 : Int32)).toUInt32.toUInt16.toUInt32.toInt32))])) _
    refine XS.istoreN X0.here hx rfl (hb hby own_d_method_2_code_6) rfl (l' := #[.val (.int q1), .val (.int ((q1 &&& (255 : Int32)).toUInt32.toUInt16.toUInt32.toInt32))]) rfl ?_
    refine XS.iloadN X0.here hx rfl (hb hby own_d_method_2_code_7) rfl ?_
    refine XS.bipush X0.here hx rfl (hb hby own_d_method_2_code_8) ?_
    exact k)
  by_cases hc10_2 : ((q1 &&& (255 : Int32)).toUInt32.toUInt16.toUInt32.toInt32) = (32 : Int32)
  · obtain ⟨fs, hr, hrun, hended, hW, hsame⟩ := X0.leave (v := some (.int (120 : Int32))) (fun h => by rw [Bd.returns] at h; cases h)
    refine ⟨_, _, pre1 _ ?_, hrun, hended, _, _, rfl, ?_, ⟨_, rfl⟩, hW, hsame.mono (by decide) (by decide)⟩
    · show Steps p.tables e below (s₁.setTop (mkF m 10 #[.val (.int q1), .val (.int ((q1 &&& (255 : Int32)).toUInt32.toUInt16.toUInt32.toInt32))] [(.int (32 : Int32)), (.int ((q1 &&& (255 : Int32)).toUInt32.toUInt16.toUInt32.toInt32))])) _
      refine XS.icmpNo X0.here hx rfl (hb hby own_d_method_2_code_10) rfl (teq hc10_2).2 ?_
      show Steps p.tables e below (s₁.setTop (mkF m 13 #[.val (.int q1), .val (.int ((q1 &&& (255 : Int32)).toUInt32.toUInt16.toUInt32.toInt32))] [])) _
      refine XS.bipush X0.here hx rfl (hb hby own_d_method_2_code_13) ?_
      refine XS.goto X0.here hx rfl (pc0 := 15) (pc' := 19) rfl (hb hby own_d_method_2_code_15) (by decide) (by decide) ?_
      exact retN X0 hx (t := .char) Bd.returns (by simp) (hb hby own_d_method_2_code_19) hr
    · show PQ (some (.int (own_f_rmN q1))) h0 n0 _ s₁.heap _
      rw [e0]
      exact ⟨congrArg (fun z => some (Value.int z)) (by unfold own_f_rmN; rw [if_pos hc10_2]), N0, rfl⟩
  · obtain ⟨fs, hr, hrun, hended, hW, hsame⟩ := X0.leave (v := some (.int (nar .char ((q1 &&& (255 : Int32)).toUInt32.toUInt16.toUInt32.toInt32)))) (fun h => by rw [Bd.returns] at h; cases h)
    refine ⟨_, _, pre1 _ ?_, hrun, hended, _, _, rfl, ?_, ⟨_, rfl⟩, hW, hsame.mono (by decide) (by decide)⟩
    · show Steps p.tables e below (s₁.setTop (mkF m 10 #[.val (.int q1), .val (.int ((q1 &&& (255 : Int32)).toUInt32.toUInt16.toUInt32.toInt32))] [(.int (32 : Int32)), (.int ((q1 &&& (255 : Int32)).toUInt32.toUInt16.toUInt32.toInt32))])) _
      refine XS.icmpYes X0.here hx rfl (pc0 := 10) (pc' := 18) rfl (hb hby own_d_method_2_code_10) rfl (feq hc10_2).2 (by decide) (by decide) ?_
      show Steps p.tables e below (s₁.setTop (mkF m 18 #[.val (.int q1), .val (.int ((q1 &&& (255 : Int32)).toUInt32.toUInt16.toUInt32.toInt32))] [])) _
      refine XS.iloadN X0.here hx rfl (hb hby own_d_method_2_code_18) rfl ?_
      exact retN X0 hx (t := .char) Bd.returns (by simp) (hb hby own_d_method_2_code_19) hr
    · show PQ (some (.int (own_f_rmN q1))) h0 n0 _ s₁.heap _
      rw [e0]
      exact ⟨congrArg (fun z => some (Value.int z)) (by unfold own_f_rmN; rw [if_neg hc10_2]), N0, rfl⟩
def own_C (q1 : Int32) : Int32 := own_f_rmN q1
theorem own_Cn (q : Int32) : ∃ n, n < 256 ∧ n ≠ 32 ∧ own_C q = Int32.ofNat n := by
  have k := c_mask q 255 8 (by decide) (by decide)
  obtain ⟨u, hu, e⟩ : ∃ u, u < 256 ∧ (q &&& (255 : Int32)) = Int32.ofNat u := by
    refine ⟨(q.toInt % 256).toNat, by omega, ?_⟩
    apply Int32.toInt_inj.mp
    rw [k, Int32.toInt_ofNat_small (by omega)]
    omega
  unfold own_C own_f_rmN
  rw [e]
  have t : ∀ u : Nat, u < 256 → ∃ n, n < 256 ∧ n ≠ 32 ∧ (if ((Int32.ofNat u).toUInt32.toUInt16.toUInt32.toInt32) = (32 : Int32) then (120 : Int32)
  else (nar .char ((Int32.ofNat u).toUInt32.toUInt16.toUInt32.toInt32))) = Int32.ofNat n := by
    intro u hu
    by_cases h : u = 32
    · subst h; exact ⟨120, by decide, by decide, by decide⟩
    · refine ⟨u, hu, h, ?_⟩
      have z : ∀ u : Nat, u < 256 → u ≠ 32 → (if ((Int32.ofNat u).toUInt32.toUInt16.toUInt32.toInt32) = (32 : Int32) then (120 : Int32)
  else (nar .char ((Int32.ofNat u).toUInt32.toUInt16.toUInt32.toInt32))) = Int32.ofNat u := by decide +kernel
      exact z u hu h
  exact t u hu
theorem own_c255 (p : Int32) : ¬ ((255 : Int32) < (nar .char (own_C p))) := by
  obtain ⟨n, h1, h2, e⟩ := own_Cn p
  rw [e]
  have z : ∀ n : Nat, n < 256 → ¬ ((255 : Int32) < (nar .char (Int32.ofNat n))) := by decide +kernel
  exact z n h1
theorem own_c32 (p : Int32) : ¬ ((nar .char (nar .char (((nar .byte ((nar .char (own_C p)).toInt8.toInt32)) &&& (255 : Int32)).toUInt32.toUInt16.toUInt32.toInt32))) = (32 : Int32)) := by
  obtain ⟨n, h1, h2, e⟩ := own_Cn p
  rw [e]
  have z : ∀ n : Nat, n < 256 → n ≠ 32 → ¬ ((nar .char (nar .char (((nar .byte ((nar .char (Int32.ofNat n)).toInt8.toInt32)) &&& (255 : Int32)).toUInt32.toUInt16.toUInt32.toInt32))) = (32 : Int32)) := by decide +kernel
  exact z n h1 h2
theorem own_d_prog_40_method_6_code_0 : decode prog_40_method_6_code 0 = .ok (.aload_n 0, 1) := by decide +kernel
theorem own_d_prog_40_method_6_code_1 : decode prog_40_method_6_code 1 = .ok (.getstatic 43, 3) := by decide +kernel
theorem own_d_prog_40_method_6_code_4 : decode prog_40_method_6_code 4 = .ok (.if_acmp .eq 17, 3) := by decide +kernel
theorem own_d_prog_40_method_6_code_7 : decode prog_40_method_6_code 7 = .ok (.aload_n 0, 1) := by decide +kernel
theorem own_d_prog_40_method_6_code_8 : decode prog_40_method_6_code 8 = .ok (.getstatic 46, 3) := by decide +kernel
theorem own_d_prog_40_method_6_code_11 : decode prog_40_method_6_code 11 = .ok (.if_acmp .eq 10, 3) := by decide +kernel
theorem own_d_prog_40_method_6_code_14 : decode prog_40_method_6_code 14 = .ok (.aload_n 0, 1) := by decide +kernel
theorem own_d_prog_40_method_6_code_15 : decode prog_40_method_6_code 15 = .ok (.getstatic 49, 3) := by decide +kernel
theorem own_d_prog_40_method_6_code_18 : decode prog_40_method_6_code 18 = .ok (.if_acmp .ne 7, 3) := by decide +kernel
theorem own_d_prog_40_method_6_code_25 : decode prog_40_method_6_code 25 = .ok (.iconst 0, 1) := by decide +kernel
theorem own_d_prog_40_method_6_code_26 : decode prog_40_method_6_code 26 = .ok (.ireturn, 1) := by decide +kernel
theorem own_pn1 : plainName "com/example/tallywire/tallywire/wire/FieldType" = true := by first | (simp [plainName, overriddenIn]; done) | decide +kernel
theorem own_ef_rm1 (m : MethodId) (p1 : Int32) (p2 : Int32) (p3 : Int32) (A : Nat → Addr) (K : Nat → ClassId) (cs : Int32)  : entryFrame m #[(.ref (A 0))] 1 = mkF m 0 #[.val (.ref (A 0))] [] := by first | (simp [entryFrame, mkF, argsToLocals, Value.category, maxLocals]; done) | rfl
set_option maxRecDepth 65536 in
set_option maxHeartbeats 40000000 in
theorem rm1 (l : Launch) (Z : State) (a0 : Array Value) (hw : ∀ d ∈ tables_1, d.before a0 Z = true) (ws : List Jvm.Cond) (h0 : Heap) (n0 : Nat) (p1 : Int32) (p2 : Int32) (p3 : Int32) (A : Nat → Addr) (K : Nat → ClassId) (cs : Int32)  (EN : own_St Z A K cs) (OL0 : Old Z n0 h0) :
    MetFree l own_m0 (head1 (Jvm.Cond.code own_m0 prog_40_method_6_code 1 (some .boolean) :: ws) ({ frames := 0, cells := 0, slots := 0, locals := 0 } : Room)) (fun a U => a = #[(.ref (A 0))] ∧ Z.Warmed39 U.vm ∧ U.heap = h0) (fun _ _ _ _ _ => True) (fun _ U o U' => ∃ v L, o = .returned v ∧ (PQ (some (.int (0 : Int32))) h0 n0) v U'.heap L ∧ FrameEnd U o U' L ({ frames := 0, cells := 0, slots := 0, locals := 0 } : Room).cells ({ frames := 0, cells := 0, slots := 0, locals := 0 } : Room).slots) := by
  refine MetFree.of_bodySF (plainFor_of_name own_pn1) hisR ?_
  intro p e s m args below meth c s₁ Bd hml0 hP hK
  obtain ⟨rfl, hZ, hh⟩ := hP
  have hx := Bd.exec
  have hby := Bd.bytes
  have hml : c.maxLocals = 1 := hml0
  have hown : s.vm.findClass "com/example/tallywire/tallywire/wire/FieldType" = some m.cls := findClass_of_methodNamed Bd.named
  have hnm := (name_of_methodNamed Bd.named Bd.method).1
  have X0 : Stand p l e ({ frames := 0, cells := 0, slots := 0, locals := 0 } : Room) s m #[(.ref (A 0))] below meth c s₁ [] 0 0 := Stand.of_body Bd
  have e0 : s₁.heap = h0 := by rw [← hh, Bd.state]; rfl
  have N0 := Fr.nil n0
  have pre0 : ∀ t, Steps p.tables e below (s₁.setTop (mkF m 0 #[.val (.ref (A 0))] [])) t → Steps p.tables e below (s₁.setTop (entryFrame m #[(.ref (A 0))] 1)) t := fun t k => castTop (own_ef_rm1 m p1 p2 p3 A K cs ) k
  have KK0 : Keep h0 h0 [] := Keep.refl _ _
  obtain ⟨T91, X91, e91, st91⟩ := getS2 X0 hx hZ hown (host := "") (Or.inl (hw _ (List.mem_of_getElem? (i := 66) rfl))) Via.refl e0 (EN.2.2.2.1.2.2.1.ext OL0.2) (g := (mkF m 1 #[.val (.ref (A 0))] [(.ref (A 0))])) rfl (hb hby own_d_prog_40_method_6_code_1)
  obtain ⟨T92, X92, e92, st92⟩ := getS2 X91 hx hZ hown (host := "") (Or.inl (hw _ (List.mem_of_getElem? (i := 67) rfl))) Via.refl e91 (EN.2.2.2.1.2.2.2.2.1.ext OL0.2) (g := (mkF m 8 #[.val (.ref (A 0))] [(.ref (A 0))])) rfl (hb hby own_d_prog_40_method_6_code_8)
  obtain ⟨T93, X93, e93, st93⟩ := getS2 X92 hx hZ hown (host := "") (Or.inl (hw _ (List.mem_of_getElem? (i := 68) rfl))) Via.refl e92 (EN.2.2.2.1.2.2.2.2.2.2.1.ext OL0.2) (g := (mkF m 15 #[.val (.ref (A 0))] [(.ref (A 0))])) rfl (hb hby own_d_prog_40_method_6_code_15)
  obtain ⟨fs, hr, hrun, hended, hW, hsame⟩ := X93.leave (v := some (.int (0 : Int32))) (fun h => by rw [Bd.returns] at h; cases h)
  refine ⟨_, _, pre0 _ ?_, hrun, hended, _, _, rfl, ?_, ⟨_, rfl⟩, hW, hsame.mono (by decide) (by decide)⟩
  · show Steps p.tables e below (s₁.setTop (mkF m 0 #[.val (.ref (A 0))] [])) _
    refine XS.aloadN X0.here hx rfl (hb hby own_d_prog_40_method_6_code_0) rfl rfl ?_
    refine st91 _ ?_
    show Steps p.tables e below (T91.setTop (mkF m 4 #[.val (.ref (A 0))] [(.ref (A 13)), (.ref (A 0))])) _
    refine Jvm.RoadKit.acmp (g := (mkF m 4 #[.val (.ref (A 0))] [(.ref (A 13)), (.ref (A 0))])) X91 hx rfl rfl rfl (pc0 := 4) (pc' := 7) (same := false) rfl (hb hby own_d_prog_40_method_6_code_4) rfl (decide_eq_false fun q => (Fld.ne EN.2.2.2.2.2.2.2.1.2.2.2.1 EN.2.2.2.2.2.2.2.1.2.2.2.2.1 (fun h => by injection h with h; exact absurd h (by decide))) (Value.ref.inj q)) (by decide) (by decide) ?_
    show Steps p.tables e below (T91.setTop (mkF m 7 #[.val (.ref (A 0))] [])) _
    refine XS.aloadN X91.here hx rfl (hb hby own_d_prog_40_method_6_code_7) rfl rfl ?_
    refine st92 _ ?_
    show Steps p.tables e below (T92.setTop (mkF m 11 #[.val (.ref (A 0))] [(.ref (A 14)), (.ref (A 0))])) _
    refine Jvm.RoadKit.acmp (g := (mkF m 11 #[.val (.ref (A 0))] [(.ref (A 14)), (.ref (A 0))])) X92 hx rfl rfl rfl (pc0 := 11) (pc' := 14) (same := false) rfl (hb hby own_d_prog_40_method_6_code_11) rfl (decide_eq_false fun q => (Fld.ne EN.2.2.2.2.2.2.2.1.2.2.2.1 EN.2.2.2.2.2.2.2.1.2.2.2.2.2.1 (fun h => by injection h with h; exact absurd h (by decide))) (Value.ref.inj q)) (by decide) (by decide) ?_
    show Steps p.tables e below (T92.setTop (mkF m 14 #[.val (.ref (A 0))] [])) _
    refine XS.aloadN X92.here hx rfl (hb hby own_d_prog_40_method_6_code_14) rfl rfl ?_
    refine st93 _ ?_
    show Steps p.tables e below (T93.setTop (mkF m 18 #[.val (.ref (A 0))] [(.ref (A 15)), (.ref (A 0))])) _
    refine Jvm.RoadKit.acmp (g := (mkF m 18 #[.val (.ref (A 0))] [(.ref (A 15)), (.ref (A 0))])) X93 hx rfl rfl rfl (pc0 := 18) (pc' := 25) (same := false) rfl (hb hby own_d_prog_40_method_6_code_18) rfl (decide_eq_false fun q => (Fld.ne EN.2.2.2.2.2.2.2.1.2.2.2.1 EN.2.2.2.2.2.2.2.1.2.2.2.2.2.2.1 (fun h => by injection h with h; exact absurd h (by decide))) (Value.ref.inj q)) (by decide) (by decide) ?_
    show Steps p.tables e below (T93.setTop (mkF m 25 #[.val (.ref (A 0))] [])) _
    refine XS.iconst X93.here hx rfl (hb hby own_d_prog_40_method_6_code_25) ?_
    exact retN X93 hx (t := .boolean) Bd.returns (by simp) (hb hby own_d_prog_40_method_6_code_26) hr
  · show PQ (some (.int (0 : Int32))) h0 n0 _ T93.heap _
    rw [e93]
    exact ⟨rfl, N0, rfl⟩
theorem own_ef_rm2 (m : MethodId) (p1 : Int32) (p2 : Int32) (p3 : Int32) (A : Nat → Addr) (K : Nat → ClassId) (cs : Int32)  : entryFrame m #[(.ref (A 1))] 1 = mkF m 0 #[.val (.ref (A 1))] [] := by first | (simp [entryFrame, mkF, argsToLocals, Value.category, maxLocals]; done) | rfl
set_option maxRecDepth 65536 in
set_option maxHeartbeats 40000000 in
theorem rm2 (l : Launch) (Z : State) (a0 : Array Value) (hw : ∀ d ∈ tables_1, d.before a0 Z = true) (ws : List Jvm.Cond) (h0 : Heap) (n0 : Nat) (p1 : Int32) (p2 : Int32) (p3 : Int32) (A : Nat → Addr) (K : Nat → ClassId) (cs : Int32)  (EN : own_St Z A K cs) (OL0 : Old Z n0 h0) :
    MetFree l own_m0 (head1 (Jvm.Cond.code own_m0 prog_40_method_6_code 1 (some .boolean) :: ws) ({ frames := 0, cells := 0, slots := 0, locals := 0 } : Room)) (fun a U => a = #[(.ref (A 1))] ∧ Z.Warmed39 U.vm ∧ U.heap = h0) (fun _ _ _ _ _ => True) (fun _ U o U' => ∃ v L, o = .returned v ∧ (PQ (some (.int (0 : Int32))) h0 n0) v U'.heap L ∧ FrameEnd U o U' L ({ frames := 0, cells := 0, slots := 0, locals := 0 } : Room).cells ({ frames := 0, cells := 0, slots := 0, locals := 0 } : Room).slots) := by
  refine MetFree.of_bodySF (plainFor_of_name own_pn1) hisR ?_
  intro p e s m args below meth c s₁ Bd hml0 hP hK
  obtain ⟨rfl, hZ, hh⟩ := hP
  have hx := Bd.exec
  have hby := Bd.bytes
  have hml : c.maxLocals = 1 := hml0
  have hown : s.vm.findClass "com/example/tallywire/tallywire/wire/FieldType" = some m.cls := findClass_of_methodNamed Bd.named
  have hnm := (name_of_methodNamed Bd.named Bd.method).1
  have X0 : Stand p l e ({ frames := 0, cells := 0, slots := 0, locals := 0 } : Room) s m #[(.ref (A 1))] below meth c s₁ [] 0 0 := Stand.of_body Bd
  have e0 : s₁.heap = h0 := by rw [← hh, Bd.state]; rfl
  have N0 := Fr.nil n0
  have pre0 : ∀ t, Steps p.tables e below (s₁.setTop (mkF m 0 #[.val (.ref (A 1))] [])) t → Steps p.tables e below (s₁.setTop (entryFrame m #[(.ref (A 1))] 1)) t := fun t k => castTop (own_ef_rm2 m p1 p2 p3 A K cs ) k
  have KK0 : Keep h0 h0 [] := Keep.refl _ _
  obtain ⟨T96, X96, e96, st96⟩ := getS2 X0 hx hZ hown (host := "") (Or.inl (hw _ (List.mem_of_getElem? (i := 66) rfl))) Via.refl e0 (EN.2.2.2.1.2.2.1.ext OL0.2) (g := (mkF m 1 #[.val (.ref (A 1))] [(.ref (A 1))])) rfl (hb hby own_d_prog_40_method_6_code_1)
  obtain ⟨T97, X97, e97, st97⟩ := getS2 X96 hx hZ hown (host := "") (Or.inl (hw _ (List.mem_of_getElem? (i := 67) rfl))) Via.refl e96 (EN.2.2.2.1.2.2.2.2.1.ext OL0.2) (g := (mkF m 8 #[.val (.ref (A 1))] [(.ref (A 1))])) rfl (hb hby own_d_prog_40_method_6_code_8)
  obtain ⟨T98, X98, e98, st98⟩ := getS2 X97 hx hZ hown (host := "") (Or.inl (hw _ (List.mem_of_getElem? (i := 68) rfl))) Via.refl e97 (EN.2.2.2.1.2.2.2.2.2.2.1.ext OL0.2) (g := (mkF m 15 #[.val (.ref (A 1))] [(.ref (A 1))])) rfl (hb hby own_d_prog_40_method_6_code_15)
  obtain ⟨fs, hr, hrun, hended, hW, hsame⟩ := X98.leave (v := some (.int (0 : Int32))) (fun h => by rw [Bd.returns] at h; cases h)
  refine ⟨_, _, pre0 _ ?_, hrun, hended, _, _, rfl, ?_, ⟨_, rfl⟩, hW, hsame.mono (by decide) (by decide)⟩
  · show Steps p.tables e below (s₁.setTop (mkF m 0 #[.val (.ref (A 1))] [])) _
    refine XS.aloadN X0.here hx rfl (hb hby own_d_prog_40_method_6_code_0) rfl rfl ?_
    refine st96 _ ?_
    show Steps p.tables e below (T96.setTop (mkF m 4 #[.val (.ref (A 1))] [(.ref (A 13)), (.ref (A 1))])) _
    refine Jvm.RoadKit.acmp (g := (mkF m 4 #[.val (.ref (A 1))] [(.ref (A 13)), (.ref (A 1))])) X96 hx rfl rfl rfl (pc0 := 4) (pc' := 7) (same := false) rfl (hb hby own_d_prog_40_method_6_code_4) rfl (decide_eq_false fun q => (Fld.ne EN.2.2.2.2.2.2.2.1.2.2.2.2.2.2.2.1 EN.2.2.2.2.2.2.2.1.2.2.2.2.1 (fun h => by injection h with h; exact absurd h (by decide))) (Value.ref.inj q)) (by decide) (by decide) ?_
    show Steps p.tables e below (T96.setTop (mkF m 7 #[.val (.ref (A 1))] [])) _
    refine XS.aloadN X96.here hx rfl (hb hby own_d_prog_40_method_6_code_7) rfl rfl ?_
    refine st97 _ ?_
    show Steps p.tables e below (T97.setTop (mkF m 11 #[.val (.ref (A 1))] [(.ref (A 14)), (.ref (A 1))])) _
    refine Jvm.RoadKit.acmp (g := (mkF m 11 #[.val (.ref (A 1))] [(.ref (A 14)), (.ref (A 1))])) X97 hx rfl rfl rfl (pc0 := 11) (pc' := 14) (same := false) rfl (hb hby own_d_prog_40_method_6_code_11) rfl (decide_eq_false fun q => (Fld.ne EN.2.2.2.2.2.2.2.1.2.2.2.2.2.2.2.1 EN.2.2.2.2.2.2.2.1.2.2.2.2.2.1 (fun h => by injection h with h; exact absurd h (by decide))) (Value.ref.inj q)) (by decide) (by decide) ?_
    show Steps p.tables e below (T97.setTop (mkF m 14 #[.val (.ref (A 1))] [])) _
    refine XS.aloadN X97.here hx rfl (hb hby own_d_prog_40_method_6_code_14) rfl rfl ?_
    refine st98 _ ?_
    show Steps p.tables e below (T98.setTop (mkF m 18 #[.val (.ref (A 1))] [(.ref (A 15)), (.ref (A 1))])) _
    refine Jvm.RoadKit.acmp (g := (mkF m 18 #[.val (.ref (A 1))] [(.ref (A 15)), (.ref (A 1))])) X98 hx rfl rfl rfl (pc0 := 18) (pc' := 25) (same := false) rfl (hb hby own_d_prog_40_method_6_code_18) rfl (decide_eq_false fun q => (Fld.ne EN.2.2.2.2.2.2.2.1.2.2.2.2.2.2.2.1 EN.2.2.2.2.2.2.2.1.2.2.2.2.2.2.1 (fun h => by injection h with h; exact absurd h (by decide))) (Value.ref.inj q)) (by decide) (by decide) ?_
    show Steps p.tables e below (T98.setTop (mkF m 25 #[.val (.ref (A 1))] [])) _
    refine XS.iconst X98.here hx rfl (hb hby own_d_prog_40_method_6_code_25) ?_
    exact retN X98 hx (t := .boolean) Bd.returns (by simp) (hb hby own_d_prog_40_method_6_code_26) hr
  · show PQ (some (.int (0 : Int32))) h0 n0 _ T98.heap _
    rw [e98]
    exact ⟨rfl, N0, rfl⟩
theorem own_ef_rm3 (m : MethodId) (p1 : Int32) (p2 : Int32) (p3 : Int32) (A : Nat → Addr) (K : Nat → ClassId) (cs : Int32)  : entryFrame m #[(.ref (A 2))] 1 = mkF m 0 #[.val (.ref (A 2))] [] := by first | (simp [entryFrame, mkF, argsToLocals, Value.category, maxLocals]; done) | rfl
set_option maxRecDepth 65536 in
set_option maxHeartbeats 40000000 in
theorem rm3 (l : Launch) (Z : State) (a0 : Array Value) (hw : ∀ d ∈ tables_1, d.before a0 Z = true) (ws : List Jvm.Cond) (h0 : Heap) (n0 : Nat) (p1 : Int32) (p2 : Int32) (p3 : Int32) (A : Nat → Addr) (K : Nat → ClassId) (cs : Int32)  (EN : own_St Z A K cs) (OL0 : Old Z n0 h0) :
    MetFree l own_m0 (head1 (Jvm.Cond.code own_m0 prog_40_method_6_code 1 (some .boolean) :: ws) ({ frames := 0, cells := 0, slots := 0, locals := 0 } : Room)) (fun a U => a = #[(.ref (A 2))] ∧ Z.Warmed39 U.vm ∧ U.heap = h0) (fun _ _ _ _ _ => True) (fun _ U o U' => ∃ v L, o = .returned v ∧ (PQ (some (.int (0 : Int32))) h0 n0) v U'.heap L ∧ FrameEnd U o U' L ({ frames := 0, cells := 0, slots := 0, locals := 0 } : Room).cells ({ frames := 0, cells := 0, slots := 0, locals := 0 } : Room).slots) := by
  refine MetFree.of_bodySF (plainFor_of_name own_pn1) hisR ?_
  intro p e s m args below meth c s₁ Bd hml0 hP hK
  obtain ⟨rfl, hZ, hh⟩ := hP
  have hx := Bd.exec
  have hby := Bd.bytes
  have hml : c.maxLocals = 1 := hml0
  have hown : s.vm.findClass "com/example/tallywire/tallywire/wire/FieldType" = some m.cls := findClass_of_methodNamed Bd.named
  have hnm := (name_of_methodNamed Bd.named Bd.method).1
  have X0 : Stand p l e ({ frames := 0, cells := 0, slots := 0, locals := 0 } : Room) s m #[(.ref (A 2))] below meth c s₁ [] 0 0 := Stand.of_body Bd
  have e0 : s₁.heap = h0 := by rw [← hh, Bd.state]; rfl
  have N0 := Fr.nil n0
  have pre0 : ∀ t, Steps p.tables e below (s₁.setTop (mkF m 0 #[.val (.ref (A 2))] [])) t → Steps p.tables e below (s₁.setTop (entryFrame m #[(.ref (A 2))] 1)) t := fun t k => castTop (own_ef_rm3 m p1 p2 p3 A K cs ) k
  have KK0 : Keep h0 h0 [] := Keep.refl _ _
  obtain ⟨T101, X101, e101, st101⟩ := getS2 X0 hx hZ hown (host := "") (Or.inl (hw _ (List.mem_of_getElem? (i := 66) rfl))) Via.refl e0 (EN.2.2.2.1.2.2.1.ext OL0.2) (g := (mkF m 1 #[.val (.ref (A 2))] [(.ref (A 2))])) rfl (hb hby own_d_prog_40_method_6_code_1)
  obtain ⟨T102, X102, e102, st102⟩ := getS2 X101 hx hZ hown (host := "") (Or.inl (hw _ (List.mem_of_getElem? (i := 67) rfl))) Via.refl e101 (EN.2.2.2.1.2.2.2.2.1.ext OL0.2) (g := (mkF m 8 #[.val (.ref (A 2))] [(.ref (A 2))])) rfl (hb hby own_d_prog_40_method_6_code_8)
  obtain ⟨T103, X103, e103, st103⟩ := getS2 X102 hx hZ hown (host := "") (Or.inl (hw _ (List.mem_of_getElem? (i := 68) rfl))) Via.refl e102 (EN.2.2.2.1.2.2.2.2.2.2.1.ext OL0.2) (g := (mkF m 15 #[.val (.ref (A 2))] [(.ref (A 2))])) rfl (hb hby own_d_prog_40_method_6_code_15)
  obtain ⟨fs, hr, hrun, hended, hW, hsame⟩ := X103.leave (v := some (.int (0 : Int32))) (fun h => by rw [Bd.returns] at h; cases h)
  refine ⟨_, _, pre0 _ ?_, hrun, hended, _, _, rfl, ?_, ⟨_, rfl⟩, hW, hsame.mono (by decide) (by decide)⟩
  · show Steps p.tables e below (s₁.setTop (mkF m 0 #[.val (.ref (A 2))] [])) _
    refine XS.aloadN X0.here hx rfl (hb hby own_d_prog_40_method_6_code_0) rfl rfl ?_
    refine st101 _ ?_
    show Steps p.tables e below (T101.setTop (mkF m 4 #[.val (.ref (A 2))] [(.ref (A 13)), (.ref (A 2))])) _
    refine Jvm.RoadKit.acmp (g := (mkF m 4 #[.val (.ref (A 2))] [(.ref (A 13)), (.ref (A 2))])) X101 hx rfl rfl rfl (pc0 := 4) (pc' := 7) (same := false) rfl (hb hby own_d_prog_40_method_6_code_4) rfl (decide_eq_false fun q => (Fld.ne EN.2.2.2.2.2.2.2.2.1.2.2.2.1 EN.2.2.2.2.2.2.2.1.2.2.2.2.1 (fun h => by injection h with h; exact absurd h (by decide))) (Value.ref.inj q)) (by decide) (by decide) ?_
    show Steps p.tables e below (T101.setTop (mkF m 7 #[.val (.ref (A 2))] [])) _
    refine XS.aloadN X101.here hx rfl (hb hby own_d_prog_40_method_6_code_7) rfl rfl ?_
    refine st102 _ ?_
    show Steps p.tables e below (T102.setTop (mkF m 11 #[.val (.ref (A 2))] [(.ref (A 14)), (.ref (A 2))])) _
    refine Jvm.RoadKit.acmp (g := (mkF m 11 #[.val (.ref (A 2))] [(.ref (A 14)), (.ref (A 2))])) X102 hx rfl rfl rfl (pc0 := 11) (pc' := 14) (same := false) rfl (hb hby own_d_prog_40_method_6_code_11) rfl (decide_eq_false fun q => (Fld.ne EN.2.2.2.2.2.2.2.2.1.2.2.2.1 EN.2.2.2.2.2.2.2.1.2.2.2.2.2.1 (fun h => by injection h with h; exact absurd h (by decide))) (Value.ref.inj q)) (by decide) (by decide) ?_
    show Steps p.tables e below (T102.setTop (mkF m 14 #[.val (.ref (A 2))] [])) _
    refine XS.aloadN X102.here hx rfl (hb hby own_d_prog_40_method_6_code_14) rfl rfl ?_
    refine st103 _ ?_
    show Steps p.tables e below (T103.setTop (mkF m 18 #[.val (.ref (A 2))] [(.ref (A 15)), (.ref (A 2))])) _
    refine Jvm.RoadKit.acmp (g := (mkF m 18 #[.val (.ref (A 2))] [(.ref (A 15)), (.ref (A 2))])) X103 hx rfl rfl rfl (pc0 := 18) (pc' := 25) (same := false) rfl (hb hby own_d_prog_40_method_6_code_18) rfl (decide_eq_false fun q => (Fld.ne EN.2.2.2.2.2.2.2.2.1.2.2.2.1 EN.2.2.2.2.2.2.2.1.2.2.2.2.2.2.1 (fun h => by injection h with h; exact absurd h (by decide))) (Value.ref.inj q)) (by decide) (by decide) ?_
    show Steps p.tables e below (T103.setTop (mkF m 25 #[.val (.ref (A 2))] [])) _
    refine XS.iconst X103.here hx rfl (hb hby own_d_prog_40_method_6_code_25) ?_
    exact retN X103 hx (t := .boolean) Bd.returns (by simp) (hb hby own_d_prog_40_method_6_code_26) hr
  · show PQ (some (.int (0 : Int32))) h0 n0 _ T103.heap _
    rw [e103]
    exact ⟨rfl, N0, rfl⟩
theorem own_ef_rm4 (m : MethodId) (p1 : Int32) (p2 : Int32) (p3 : Int32) (A : Nat → Addr) (K : Nat → ClassId) (cs : Int32)  : entryFrame m #[(.ref (A 3))] 1 = mkF m 0 #[.val (.ref (A 3))] [] := by first | (simp [entryFrame, mkF, argsToLocals, Value.category, maxLocals]; done) | rfl
set_option maxRecDepth 65536 in
set_option maxHeartbeats 40000000 in
theorem rm4 (l : Launch) (Z : State) (a0 : Array Value) (hw : ∀ d ∈ tables_1, d.before a0 Z = true) (ws : List Jvm.Cond) (h0 : Heap) (n0 : Nat) (p1 : Int32) (p2 : Int32) (p3 : Int32) (A : Nat → Addr) (K : Nat → ClassId) (cs : Int32)  (EN : own_St Z A K cs) (OL0 : Old Z n0 h0) :
    MetFree l own_m0 (head1 (Jvm.Cond.code own_m0 prog_40_method_6_code 1 (some .boolean) :: ws) ({ frames := 0, cells := 0, slots := 0, locals := 0 } : Room)) (fun a U => a = #[(.ref (A 3))] ∧ Z.Warmed39 U.vm ∧ U.heap = h0) (fun _ _ _ _ _ => True) (fun _ U o U' => ∃ v L, o = .returned v ∧ (PQ (some (.int (0 : Int32))) h0 n0) v U'.heap L ∧ FrameEnd U o U' L ({ frames := 0, cells := 0, slots := 0, locals := 0 } : Room).cells ({ frames := 0, cells := 0, slots := 0, locals := 0 } : Room).slots) := by
  refine MetFree.of_bodySF (plainFor_of_name own_pn1) hisR ?_
  intro p e s m args below meth c s₁ Bd hml0 hP hK
  obtain ⟨rfl, hZ, hh⟩ := hP
  have hx := Bd.exec
  have hby := Bd.bytes
  have hml : c.maxLocals = 1 := hml0
  have hown : s.vm.findClass "com/example/tallywire/tallywire/wire/FieldType" = some m.cls := findClass_of_methodNamed Bd.named
  have hnm := (name_of_methodNamed Bd.named Bd.method).1
  have X0 : Stand p l e ({ frames := 0, cells := 0, slots := 0, locals := 0 } : Room) s m #[(.ref (A 3))] below meth c s₁ [] 0 0 := Stand.of_body Bd
  have e0 : s₁.heap = h0 := by rw [← hh, Bd.state]; rfl
  have N0 := Fr.nil n0
  have pre0 : ∀ t, Steps p.tables e below (s₁.setTop (mkF m 0 #[.val (.ref (A 3))] [])) t → Steps p.tables e below (s₁.setTop (entryFrame m #[(.ref (A 3))] 1)) t := fun t k => castTop (own_ef_rm4 m p1 p2 p3 A K cs ) k
  have KK0 : Keep h0 h0 [] := Keep.refl _ _
  obtain ⟨T106, X106, e106, st106⟩ := getS2 X0 hx hZ hown (host := "") (Or.inl (hw _ (List.mem_of_getElem? (i := 66) rfl))) Via.refl e0 (EN.2.2.2.1.2.2.1.ext OL0.2) (g := (mkF m 1 #[.val (.ref (A 3))] [(.ref (A 3))])) rfl (hb hby own_d_prog_40_method_6_code_1)
  obtain ⟨T107, X107, e107, st107⟩ := getS2 X106 hx hZ hown (host := "") (Or.inl (hw _ (List.mem_of_getElem? (i := 67) rfl))) Via.refl e106 (EN.2.2.2.1.2.2.2.2.1.ext OL0.2) (g := (mkF m 8 #[.val (.ref (A 3))] [(.ref (A 3))])) rfl (hb hby own_d_prog_40_method_6_code_8)
  obtain ⟨T108, X108, e108, st108⟩ := getS2 X107 hx hZ hown (host := "") (Or.inl (hw _ (List.mem_of_getElem? (i := 68) rfl))) Via.refl e107 (EN.2.2.2.1.2.2.2.2.2.2.1.ext OL0.2) (g := (mkF m 15 #[.val (.ref (A 3))] [(.ref (A 3))])) rfl (hb hby own_d_prog_40_method_6_code_15)
  obtain ⟨fs, hr, hrun, hended, hW, hsame⟩ := X108.leave (v := some (.int (0 : Int32))) (fun h => by rw [Bd.returns] at h; cases h)
  refine ⟨_, _, pre0 _ ?_, hrun, hended, _, _, rfl, ?_, ⟨_, rfl⟩, hW, hsame.mono (by decide) (by decide)⟩
  · show Steps p.tables e below (s₁.setTop (mkF m 0 #[.val (.ref (A 3))] [])) _
    refine XS.aloadN X0.here hx rfl (hb hby own_d_prog_40_method_6_code_0) rfl rfl ?_
    refine st106 _ ?_
    show Steps p.tables e below (T106.setTop (mkF m 4 #[.val (.ref (A 3))] [(.ref (A 13)), (.ref (A 3))])) _
    refine Jvm.RoadKit.acmp (g := (mkF m 4 #[.val (.ref (A 3))] [(.ref (A 13)), (.ref (A 3))])) X106 hx rfl rfl rfl (pc0 := 4) (pc' := 7) (same := false) rfl (hb hby own_d_prog_40_method_6_code_4) rfl (decide_eq_false fun q => (Fld.ne EN.2.2.2.2.2.2.2.2.1.2.2.2.2.1 EN.2.2.2.2.2.2.2.1.2.2.2.2.1 (fun h => by injection h with h; exact absurd h (by decide))) (Value.ref.inj q)) (by decide) (by decide) ?_
    show Steps p.tables e below (T106.setTop (mkF m 7 #[.val (.ref (A 3))] [])) _
    refine XS.aloadN X106.here hx rfl (hb hby own_d_prog_40_method_6_code_7) rfl rfl ?_
    refine st107 _ ?_
    show Steps p.tables e below (T107.setTop (mkF m 11 #[.val (.ref (A 3))] [(.ref (A 14)), (.ref (A 3))])) _
    refine Jvm.RoadKit.acmp (g := (mkF m 11 #[.val (.ref (A 3))] [(.ref (A 14)), (.ref (A 3))])) X107 hx rfl rfl rfl (pc0 := 11) (pc' := 14) (same := false) rfl (hb hby own_d_prog_40_method_6_code_11) rfl (decide_eq_false fun q => (Fld.ne EN.2.2.2.2.2.2.2.2.1.2.2.2.2.1 EN.2.2.2.2.2.2.2.1.2.2.2.2.2.1 (fun h => by injection h with h; exact absurd h (by decide))) (Value.ref.inj q)) (by decide) (by decide) ?_
    show Steps p.tables e below (T107.setTop (mkF m 14 #[.val (.ref (A 3))] [])) _
    refine XS.aloadN X107.here hx rfl (hb hby own_d_prog_40_method_6_code_14) rfl rfl ?_
    refine st108 _ ?_
    show Steps p.tables e below (T108.setTop (mkF m 18 #[.val (.ref (A 3))] [(.ref (A 15)), (.ref (A 3))])) _
    refine Jvm.RoadKit.acmp (g := (mkF m 18 #[.val (.ref (A 3))] [(.ref (A 15)), (.ref (A 3))])) X108 hx rfl rfl rfl (pc0 := 18) (pc' := 25) (same := false) rfl (hb hby own_d_prog_40_method_6_code_18) rfl (decide_eq_false fun q => (Fld.ne EN.2.2.2.2.2.2.2.2.1.2.2.2.2.1 EN.2.2.2.2.2.2.2.1.2.2.2.2.2.2.1 (fun h => by injection h with h; exact absurd h (by decide))) (Value.ref.inj q)) (by decide) (by decide) ?_
    show Steps p.tables e below (T108.setTop (mkF m 25 #[.val (.ref (A 3))] [])) _
    refine XS.iconst X108.here hx rfl (hb hby own_d_prog_40_method_6_code_25) ?_
    exact retN X108 hx (t := .boolean) Bd.returns (by simp) (hb hby own_d_prog_40_method_6_code_26) hr
  · show PQ (some (.int (0 : Int32))) h0 n0 _ T108.heap _
    rw [e108]
    exact ⟨rfl, N0, rfl⟩
theorem own_ef_rm5 (m : MethodId) (p1 : Int32) (p2 : Int32) (p3 : Int32) (A : Nat → Addr) (K : Nat → ClassId) (cs : Int32)  : entryFrame m #[(.ref (A 4))] 1 = mkF m 0 #[.val (.ref (A 4))] [] := by first | (simp [entryFrame, mkF, argsToLocals, Value.category, maxLocals]; done) | rfl
set_option maxRecDepth 65536 in
set_option maxHeartbeats 40000000 in
theorem rm5 (l : Launch) (Z : State) (a0 : Array Value) (hw : ∀ d ∈ tables_1, d.before a0 Z = true) (ws : List Jvm.Cond) (h0 : Heap) (n0 : Nat) (p1 : Int32) (p2 : Int32) (p3 : Int32) (A : Nat → Addr) (K : Nat → ClassId) (cs : Int32)  (EN : own_St Z A K cs) (OL0 : Old Z n0 h0) :
    MetFree l own_m0 (head1 (Jvm.Cond.code own_m0 prog_40_method_6_code 1 (some .boolean) :: ws) ({ frames := 0, cells := 0, slots := 0, locals := 0 } : Room)) (fun a U => a = #[(.ref (A 4))] ∧ Z.Warmed39 U.vm ∧ U.heap = h0) (fun _ _ _ _ _ => True) (fun _ U o U' => ∃ v L, o = .returned v ∧ (PQ (some (.int (0 : Int32))) h0 n0) v U'.heap L ∧ FrameEnd U o U' L ({ frames := 0, cells := 0, slots := 0, locals := 0 } : Room).cells ({ frames := 0, cells := 0, slots := 0, locals := 0 } : Room).slots) := by
  refine MetFree.of_bodySF (plainFor_of_name own_pn1) hisR ?_
  intro p e s m args below meth c s₁ Bd hml0 hP hK
  obtain ⟨rfl, hZ, hh⟩ := hP
  have hx := Bd.exec
  have hby := Bd.bytes
  have hml : c.maxLocals = 1 := hml0
  have hown : s.vm.findClass "com/example/tallywire/tallywire/wire/FieldType" = some m.cls := findClass_of_methodNamed Bd.named
  have hnm := (name_of_methodNamed Bd.named Bd.method).1
  have X0 : Stand p l e ({ frames := 0, cells := 0, slots := 0, locals := 0 } : Room) s m #[(.ref (A 4))] below meth c s₁ [] 0 0 := Stand.of_body Bd
  have e0 : s₁.heap = h0 := by rw [← hh, Bd.state]; rfl
  have N0 := Fr.nil n0
  have pre0 : ∀ t, Steps p.tables e below (s₁.setTop (mkF m 0 #[.val (.ref (A 4))] [])) t → Steps p.tables e below (s₁.setTop (entryFrame m #[(.ref (A 4))] 1)) t := fun t k => castTop (own_ef_rm5 m p1 p2 p3 A K cs ) k
  have KK0 : Keep h0 h0 [] := Keep.refl _ _
  obtain ⟨T111, X111, e111, st111⟩ := getS2 X0 hx hZ hown (host := "") (Or.inl (hw _ (List.mem_of_getElem? (i := 66) rfl))) Via.refl e0 (EN.2.2.2.1.2.2.1.ext OL0.2) (g := (mkF m 1 #[.val (.ref (A 4))] [(.ref (A 4))])) rfl (hb hby own_d_prog_40_method_6_code_1)
  obtain ⟨T112, X112, e112, st112⟩ := getS2 X111 hx hZ hown (host := "") (Or.inl (hw _ (List.mem_of_getElem? (i := 67) rfl))) Via.refl e111 (EN.2.2.2.1.2.2.2.2.1.ext OL0.2) (g := (mkF m 8 #[.val (.ref (A 4))] [(.ref (A 4))])) rfl (hb hby own_d_prog_40_method_6_code_8)
  obtain ⟨T113, X113, e113, st113⟩ := getS2 X112 hx hZ hown (host := "") (Or.inl (hw _ (List.mem_of_getElem? (i := 68) rfl))) Via.refl e112 (EN.2.2.2.1.2.2.2.2.2.2.1.ext OL0.2) (g := (mkF m 15 #[.val (.ref (A 4))] [(.ref (A 4))])) rfl (hb hby own_d_prog_40_method_6_code_15)
  obtain ⟨fs, hr, hrun, hended, hW, hsame⟩ := X113.leave (v := some (.int (0 : Int32))) (fun h => by rw [Bd.returns] at h; cases h)
  refine ⟨_, _, pre0 _ ?_, hrun, hended, _, _, rfl, ?_, ⟨_, rfl⟩, hW, hsame.mono (by decide) (by decide)⟩
  · show Steps p.tables e below (s₁.setTop (mkF m 0 #[.val (.ref (A 4))] [])) _
    refine XS.aloadN X0.here hx rfl (hb hby own_d_prog_40_method_6_code_0) rfl rfl ?_
    refine st111 _ ?_
    show Steps p.tables e below (T111.setTop (mkF m 4 #[.val (.ref (A 4))] [(.ref (A 13)), (.ref (A 4))])) _
    refine Jvm.RoadKit.acmp (g := (mkF m 4 #[.val (.ref (A 4))] [(.ref (A 13)), (.ref (A 4))])) X111 hx rfl rfl rfl (pc0 := 4) (pc' := 7) (same := false) rfl (hb hby own_d_prog_40_method_6_code_4) rfl (decide_eq_false fun q => (Fld.ne EN.2.2.2.2.2.2.2.2.2.1.2.2.2.2.2.1 EN.2.2.2.2.2.2.2.1.2.2.2.2.1 (fun h => by injection h with h; exact absurd h (by decide))) (Value.ref.inj q)) (by decide) (by decide) ?_
    show Steps p.tables e below (T111.setTop (mkF m 7 #[.val (.ref (A 4))] [])) _
    refine XS.aloadN X111.here hx rfl (hb hby own_d_prog_40_method_6_code_7) rfl rfl ?_
    refine st112 _ ?_
    show Steps p.tables e below (T112.setTop (mkF m 11 #[.val (.ref (A 4))] [(.ref (A 14)), (.ref (A 4))])) _
    refine Jvm.RoadKit.acmp (g := (mkF m 11 #[.val (.ref (A 4))] [(.ref (A 14)), (.ref (A 4))])) X112 hx rfl rfl rfl (pc0 := 11) (pc' := 14) (same := false) rfl (hb hby own_d_prog_40_method_6_code_11) rfl (decide_eq_false fun q => (Fld.ne EN.2.2.2.2.2.2.2.2.2.1.2.2.2.2.2.1 EN.2.2.2.2.2.2.2.1.2.2.2.2.2.1 (fun h => by injection h with h; exact absurd h (by decide))) (Value.ref.inj q)) (by decide) (by decide) ?_
    show Steps p.tables e below (T112.setTop (mkF m 14 #[.val (.ref (A 4))] [])) _
    refine XS.aloadN X112.here hx rfl (hb hby own_d_prog_40_method_6_code_14) rfl rfl ?_
    refine st113 _ ?_
    show Steps p.tables e below (T113.setTop (mkF m 18 #[.val (.ref (A 4))] [(.ref (A 15)), (.ref (A 4))])) _
    refine Jvm.RoadKit.acmp (g := (mkF m 18 #[.val (.ref (A 4))] [(.ref (A 15)), (.ref (A 4))])) X113 hx rfl rfl rfl (pc0 := 18) (pc' := 25) (same := false) rfl (hb hby own_d_prog_40_method_6_code_18) rfl (decide_eq_false fun q => (Fld.ne EN.2.2.2.2.2.2.2.2.2.1.2.2.2.2.2.1 EN.2.2.2.2.2.2.2.1.2.2.2.2.2.2.1 (fun h => by injection h with h; exact absurd h (by decide))) (Value.ref.inj q)) (by decide) (by decide) ?_
    show Steps p.tables e below (T113.setTop (mkF m 25 #[.val (.ref (A 4))] [])) _
    refine XS.iconst X113.here hx rfl (hb hby own_d_prog_40_method_6_code_25) ?_
    exact retN X113 hx (t := .boolean) Bd.returns (by simp) (hb hby own_d_prog_40_method_6_code_26) hr
  · show PQ (some (.int (0 : Int32))) h0 n0 _ T113.heap _
    rw [e113]
    exact ⟨rfl, N0, rfl⟩
theorem own_ef_rm6 (m : MethodId) (p1 : Int32) (p2 : Int32) (p3 : Int32) (A : Nat → Addr) (K : Nat → ClassId) (cs : Int32)  : entryFrame m #[(.ref (A 5))] 1 = mkF m 0 #[.val (.ref (A 5))] [] := by first | (simp [entryFrame, mkF, argsToLocals, Value.category, maxLocals]; done) | rfl
set_option maxRecDepth 65536 in
set_option maxHeartbeats 40000000 in
theorem rm6 (l : Launch) (Z : State) (a0 : Array Value) (hw : ∀ d ∈ tables_1, d.before a0 Z = true) (ws : List Jvm.Cond) (h0 : Heap) (n0 : Nat) (p1 : Int32) (p2 : Int32) (p3 : Int32) (A : Nat → Addr) (K : Nat → ClassId) (cs : Int32)  (EN : own_St Z A K cs) (OL0 : Old Z n0 h0) :
    MetFree l own_m0 (head1 (Jvm.Cond.code own_m0 prog_40_method_6_code 1 (some .boolean) :: ws) ({ frames := 0, cells := 0, slots := 0, locals := 0 } : Room)) (fun a U => a = #[(.ref (A 5))] ∧ Z.Warmed39 U.vm ∧ U.heap = h0) (fun _ _ _ _ _ => True) (fun _ U o U' => ∃ v L, o = .returned v ∧ (PQ (some (.int (0 : Int32))) h0 n0) v U'.heap L ∧ FrameEnd U o U' L ({ frames := 0, cells := 0, slots := 0, locals := 0 } : Room).cells ({ frames := 0, cells := 0, slots := 0, locals := 0 } : Room).slots) := by
  refine MetFree.of_bodySF (plainFor_of_name own_pn1) hisR ?_
  intro p e s m args below meth c s₁ Bd hml0 hP hK
  obtain ⟨rfl, hZ, hh⟩ := hP
  have hx := Bd.exec
  have hby := Bd.bytes
  have hml : c.maxLocals = 1 := hml0
  have hown : s.vm.findClass "com/example/tallywire/tallywire/wire/FieldType" = some m.cls := findClass_of_methodNamed Bd.named
  have hnm := (name_of_methodNamed Bd.named Bd.method).1
  have X0 : Stand p l e ({ frames := 0, cells := 0, slots := 0, locals := 0 } : Room) s m #[(.ref (A 5))] below meth c s₁ [] 0 0 := Stand.of_body Bd
  have e0 : s₁.heap = h0 := by rw [← hh, Bd.state]; rfl
  have N0 := Fr.nil n0
  have pre0 : ∀ t, Steps p.tables e below (s₁.setTop (mkF m 0 #[.val (.ref (A 5))] [])) t → Steps p.tables e below (s₁.setTop (entryFrame m #[(.ref (A 5))] 1)) t := fun t k => castTop (own_ef_rm6 m p1 p2 p3 A K cs ) k
  have KK0 : Keep h0 h0 [] := Keep.refl _ _
  obtain ⟨T116, X116, e116, st116⟩ := getS2 X0 hx hZ hown (host := "") (Or.inl (hw _ (List.mem_of_getElem? (i := 66) rfl))) Via.refl e0 (EN.2.2.2.1.2.2.1.ext OL0.2) (g := (mkF m 1 #[.val (.ref (A 5))] [(.ref (A 5))])) rfl (hb hby own_d_prog_40_method_6_code_1)
  obtain ⟨T117, X117, e117, st117⟩ := getS2 X116 hx hZ hown (host := "") (Or.inl (hw _ (List.mem_of_getElem? (i := 67) rfl))) Via.refl e116 (EN.2.2.2.1.2.2.2.2.1.ext OL0.2) (g := (mkF m 8 #[.val (.ref (A 5))] [(.ref (A 5))])) rfl (hb hby own_d_prog_40_method_6_code_8)
  obtain ⟨T118, X118, e118, st118⟩ := getS2 X117 hx hZ hown (host := "") (Or.inl (hw _ (List.mem_of_getElem? (i := 68) rfl))) Via.refl e117 (EN.2.2.2.1.2.2.2.2.2.2.1.ext OL0.2) (g := (mkF m 15 #[.val (.ref (A 5))] [(.ref (A 5))])) rfl (hb hby own_d_prog_40_method_6_code_15)
  obtain ⟨fs, hr, hrun, hended, hW, hsame⟩ := X118.leave (v := some (.int (0 : Int32))) (fun h => by rw [Bd.returns] at h; cases h)
  refine ⟨_, _, pre0 _ ?_, hrun, hended, _, _, rfl, ?_, ⟨_, rfl⟩, hW, hsame.mono (by decide) (by decide)⟩
  · show Steps p.tables e below (s₁.setTop (mkF m 0 #[.val (.ref (A 5))] [])) _
    refine XS.aloadN X0.here hx rfl (hb hby own_d_prog_40_method_6_code_0) rfl rfl ?_
    refine st116 _ ?_
    show Steps p.tables e below (T116.setTop (mkF m 4 #[.val (.ref (A 5))] [(.ref (A 13)), (.ref (A 5))])) _
    refine Jvm.RoadKit.acmp (g := (mkF m 4 #[.val (.ref (A 5))] [(.ref (A 13)), (.ref (A 5))])) X116 hx rfl rfl rfl (pc0 := 4) (pc' := 7) (same := false) rfl (hb hby own_d_prog_40_method_6_code_4) rfl (decide_eq_false fun q => (Fld.ne EN.2.2.2.2.2.2.2.2.2.1.2.2.2.2.1 EN.2.2.2.2.2.2.2.1.2.2.2.2.1 (fun h => by injection h with h; exact absurd h (by decide))) (Value.ref.inj q)) (by decide) (by decide) ?_
    show Steps p.tables e below (T116.setTop (mkF m 7 #[.val (.ref (A 5))] [])) _
    refine XS.aloadN X116.here hx rfl (hb hby own_d_prog_40_method_6_code_7) rfl rfl ?_
    refine st117 _ ?_
    show Steps p.tables e below (T117.setTop (mkF m 11 #[.val (.ref (A 5))] [(.ref (A 14)), (.ref (A 5))])) _
    refine Jvm.RoadKit.acmp (g := (mkF m 11 #[.val (.ref (A 5))] [(.ref (A 14)), (.ref (A 5))])) X117 hx rfl rfl rfl (pc0 := 11) (pc' := 14) (same := false) rfl (hb hby own_d_prog_40_method_6_code_11) rfl (decide_eq_false fun q => (Fld.ne EN.2.2.2.2.2.2.2.2.2.1.2.2.2.2.1 EN.2.2.2.2.2.2.2.1.2.2.2.2.2.1 (fun h => by injection h with h; exact absurd h (by decide))) (Value.ref.inj q)) (by decide) (by decide) ?_
    show Steps p.tables e below (T117.setTop (mkF m 14 #[.val (.ref (A 5))] [])) _
    refine XS.aloadN X117.here hx rfl (hb hby own_d_prog_40_method_6_code_14) rfl rfl ?_
    refine st118 _ ?_
    show Steps p.tables e below (T118.setTop (mkF m 18 #[.val (.ref (A 5))] [(.ref (A 15)), (.ref (A 5))])) _
    refine Jvm.RoadKit.acmp (g := (mkF m 18 #[.val (.ref (A 5))] [(.ref (A 15)), (.ref (A 5))])) X118 hx rfl rfl rfl (pc0 := 18) (pc' := 25) (same := false) rfl (hb hby own_d_prog_40_method_6_code_18) rfl (decide_eq_false fun q => (Fld.ne EN.2.2.2.2.2.2.2.2.2.1.2.2.2.2.1 EN.2.2.2.2.2.2.2.1.2.2.2.2.2.2.1 (fun h => by injection h with h; exact absurd h (by decide))) (Value.ref.inj q)) (by decide) (by decide) ?_
    show Steps p.tables e below (T118.setTop (mkF m 25 #[.val (.ref (A 5))] [])) _
    refine XS.iconst X118.here hx rfl (hb hby own_d_prog_40_method_6_code_25) ?_
    exact retN X118 hx (t := .boolean) Bd.returns (by simp) (hb hby own_d_prog_40_method_6_code_26) hr
  · show PQ (some (.int (0 : Int32))) h0 n0 _ T118.heap _
    rw [e118]
    exact ⟨rfl, N0, rfl⟩
theorem own_ef_rm7 (m : MethodId) (p1 : Int32) (p2 : Int32) (p3 : Int32) (A : Nat → Addr) (K : Nat → ClassId) (cs : Int32)  : entryFrame m #[(.ref (A 6))] 1 = mkF m 0 #[.val (.ref (A 6))] [] := by first | (simp [entryFrame, mkF, argsToLocals, Value.category, maxLocals]; done) | rfl
set_option maxRecDepth 65536 in
set_option maxHeartbeats 40000000 in
theorem rm7 (l : Launch) (Z : State) (a0 : Array Value) (hw : ∀ d ∈ tables_1, d.before a0 Z = true) (ws : List Jvm.Cond) (h0 : Heap) (n0 : Nat) (p1 : Int32) (p2 : Int32) (p3 : Int32) (A : Nat → Addr) (K : Nat → ClassId) (cs : Int32)  (EN : own_St Z A K cs) (OL0 : Old Z n0 h0) :
    MetFree l own_m0 (head1 (Jvm.Cond.code own_m0 prog_40_method_6_code 1 (some .boolean) :: ws) ({ frames := 0, cells := 0, slots := 0, locals := 0 } : Room)) (fun a U => a = #[(.ref (A 6))] ∧ Z.Warmed39 U.vm ∧ U.heap = h0) (fun _ _ _ _ _ => True) (fun _ U o U' => ∃ v L, o = .returned v ∧ (PQ (some (.int (0 : Int32))) h0 n0) v U'.heap L ∧ FrameEnd U o U' L ({ frames := 0, cells := 0, slots := 0, locals := 0 } : Room).cells ({ frames := 0, cells := 0, slots := 0, locals := 0 } : Room).slots) := by
  refine MetFree.of_bodySF (plainFor_of_name own_pn1) hisR ?_
  intro p e s m args below meth c s₁ Bd hml0 hP hK
  obtain ⟨rfl, hZ, hh⟩ := hP
  have hx := Bd.exec
  have hby := Bd.bytes
  have hml : c.maxLocals = 1 := hml0
  have hown : s.vm.findClass "com/example/tallywire/tallywire/wire/FieldType" = some m.cls := findClass_of_methodNamed Bd.named
  have hnm := (name_of_methodNamed Bd.named Bd.method).1
  have X0 : Stand p l e ({ frames := 0, cells := 0, slots := 0, locals := 0 } : Room) s m #[(.ref (A 6))] below meth c s₁ [] 0 0 := Stand.of_body Bd
  have e0 : s₁.heap = h0 := by rw [← hh, Bd.state]; rfl
  have N0 := Fr.nil n0
  have pre0 : ∀ t, Steps p.tables e below (s₁.setTop (mkF m 0 #[.val (.ref (A 6))] [])) t → Steps p.tables e below (s₁.setTop (entryFrame m #[(.ref (A 6))] 1)) t := fun t k => castTop (own_ef_rm7 m p1 p2 p3 A K cs ) k
  have KK0 : Keep h0 h0 [] := Keep.refl _ _
  obtain ⟨T121, X121, e121, st121⟩ := getS2 X0 hx hZ hown (host := "") (Or.inl (hw _ (List.mem_of_getElem? (i := 66) rfl))) Via.refl e0 (EN.2.2.2.1.2.2.1.ext OL0.2) (g := (mkF m 1 #[.val (.ref (A 6))] [(.ref (A 6))])) rfl (hb hby own_d_prog_40_method_6_code_1)
  obtain ⟨T122, X122, e122, st122⟩ := getS2 X121 hx hZ hown (host := "") (Or.inl (hw _ (List.mem_of_getElem? (i := 67) rfl))) Via.refl e121 (EN.2.2.2.1.2.2.2.2.1.ext OL0.2) (g := (mkF m 8 #[.val (.ref (A 6))] [(.ref (A 6))])) rfl (hb hby own_d_prog_40_method_6_code_8)
  obtain ⟨T123, X123, e123, st123⟩ := getS2 X122 hx hZ hown (host := "") (Or.inl (hw _ (List.mem_of_getElem? (i := 68) rfl))) Via.refl e122 (EN.2.2.2.1.2.2.2.2.2.2.1.ext OL0.2) (g := (mkF m 15 #[.val (.ref (A 6))] [(.ref (A 6))])) rfl (hb hby own_d_prog_40_method_6_code_15)
  obtain ⟨fs, hr, hrun, hended, hW, hsame⟩ := X123.leave (v := some (.int (0 : Int32))) (fun h => by rw [Bd.returns] at h; cases h)
  refine ⟨_, _, pre0 _ ?_, hrun, hended, _, _, rfl, ?_, ⟨_, rfl⟩, hW, hsame.mono (by decide) (by decide)⟩
  · show Steps p.tables e below (s₁.setTop (mkF m 0 #[.val (.ref (A 6))] [])) _
    refine XS.aloadN X0.here hx rfl (hb hby own_d_prog_40_method_6_code_0) rfl rfl ?_
    refine st121 _ ?_
    show Steps p.tables e below (T121.setTop (mkF m 4 #[.val (.ref (A 6))] [(.ref (A 13)), (.ref (A 6))])) _
    refine Jvm.RoadKit.acmp (g := (mkF m 4 #[.val (.ref (A 6))] [(.ref (A 13)), (.ref (A 6))])) X121 hx rfl rfl rfl (pc0 := 4) (pc' := 7) (same := false) rfl (hb hby own_d_prog_40_method_6_code_4) rfl (decide_eq_false fun q => (Fld.ne EN.2.2.2.2.2.2.2.2.2.2.1.1 EN.2.2.2.2.2.2.2.1.2.2.2.2.1 (fun h => by injection h with h; exact absurd h (by decide))) (Value.ref.inj q)) (by decide) (by decide) ?_
    show Steps p.tables e below (T121.setTop (mkF m 7 #[.val (.ref (A 6))] [])) _
    refine XS.aloadN X121.here hx rfl (hb hby own_d_prog_40_method_6_code_7) rfl rfl ?_
    refine st122 _ ?_
    show Steps p.tables e below (T122.setTop (mkF m 11 #[.val (.ref (A 6))] [(.ref (A 14)), (.ref (A 6))])) _
    refine Jvm.RoadKit.acmp (g := (mkF m 11 #[.val (.ref (A 6))] [(.ref (A 14)), (.ref (A 6))])) X122 hx rfl rfl rfl (pc0 := 11) (pc' := 14) (same := false) rfl (hb hby own_d_prog_40_method_6_code_11) rfl (decide_eq_false fun q => (Fld.ne EN.2.2.2.2.2.2.2.2.2.2.1.1 EN.2.2.2.2.2.2.2.1.2.2.2.2.2.1 (fun h => by injection h with h; exact absurd h (by decide))) (Value.ref.inj q)) (by decide) (by decide) ?_
    show Steps p.tables e below (T122.setTop (mkF m 14 #[.val (.ref (A 6))] [])) _
    refine XS.aloadN X122.here hx rfl (hb hby own_d_prog_40_method_6_code_14) rfl rfl ?_
    refine st123 _ ?_
    show Steps p.tables e below (T123.setTop (mkF m 18 #[.val (.ref (A 6))] [(.ref (A 15)), (.ref (A 6))])) _
    refine Jvm.RoadKit.acmp (g := (mkF m 18 #[.val (.ref (A 6))] [(.ref (A 15)), (.ref (A 6))])) X123 hx rfl rfl rfl (pc0 := 18) (pc' := 25) (same := false) rfl (hb hby own_d_prog_40_method_6_code_18) rfl (decide_eq_false fun q => (Fld.ne EN.2.2.2.2.2.2.2.2.2.2.1.1 EN.2.2.2.2.2.2.2.1.2.2.2.2.2.2.1 (fun h => by injection h with h; exact absurd h (by decide))) (Value.ref.inj q)) (by decide) (by decide) ?_
    show Steps p.tables e below (T123.setTop (mkF m 25 #[.val (.ref (A 6))] [])) _
    refine XS.iconst X123.here hx rfl (hb hby own_d_prog_40_method_6_code_25) ?_
    exact retN X123 hx (t := .boolean) Bd.returns (by simp) (hb hby own_d_prog_40_method_6_code_26) hr
  · show PQ (some (.int (0 : Int32))) h0 n0 _ T123.heap _
    rw [e123]
    exact ⟨rfl, N0, rfl⟩
theorem own_ef_rm8 (m : MethodId) (p1 : Int32) (p2 : Int32) (p3 : Int32) (A : Nat → Addr) (K : Nat → ClassId) (cs : Int32)  : entryFrame m #[(.ref (A 7))] 1 = mkF m 0 #[.val (.ref (A 7))] [] := by first | (simp [entryFrame, mkF, argsToLocals, Value.category, maxLocals]; done) | rfl
set_option maxRecDepth 65536 in
set_option maxHeartbeats 40000000 in
theorem rm8 (l : Launch) (Z : State) (a0 : Array Value) (hw : ∀ d ∈ tables_1, d.before a0 Z = true) (ws : List Jvm.Cond) (h0 : Heap) (n0 : Nat) (p1 : Int32) (p2 : Int32) (p3 : Int32) (A : Nat → Addr) (K : Nat → ClassId) (cs : Int32)  (EN : own_St Z A K cs) (OL0 : Old Z n0 h0) :
    MetFree l own_m0 (head1 (Jvm.Cond.code own_m0 prog_40_method_6_code 1 (some .boolean) :: ws) ({ frames := 0, cells := 0, slots := 0, locals := 0 } : Room)) (fun a U => a = #[(.ref (A 7))] ∧ Z.Warmed39 U.vm ∧ U.heap = h0) (fun _ _ _ _ _ => True) (fun _ U o U' => ∃ v L, o = .returned v ∧ (PQ (some (.int (0 : Int32))) h0 n0) v U'.heap L ∧ FrameEnd U o U' L ({ frames := 0, cells := 0, slots := 0, locals := 0 } : Room).cells ({ frames := 0, cells := 0, slots := 0, locals := 0 } : Room).slots) := by
  refine MetFree.of_bodySF (plainFor_of_name own_pn1) hisR ?_
  intro p e s m args below meth c s₁ Bd hml0 hP hK
  obtain ⟨rfl, hZ, hh⟩ := hP
  have hx := Bd.exec
  have hby := Bd.bytes
  have hml : c.maxLocals = 1 := hml0
  have hown : s.vm.findClass "com/example/tallywire/tallywire/wire/FieldType" = some m.cls := findClass_of_methodNamed Bd.named
  have hnm := (name_of_methodNamed Bd.named Bd.method).1
  have X0 : Stand p l e ({ frames := 0, cells := 0, slots := 0, locals := 0 } : Room) s m #[(.ref (A 7))] below meth c s₁ [] 0 0 := Stand.of_body Bd
  have e0 : s₁.heap = h0 := by rw [← hh, Bd.state]; rfl
  have N0 := Fr.nil n0
  have pre0 : ∀ t, Steps p.tables e below (s₁.setTop (mkF m 0 #[.val (.ref (A 7))] [])) t → Steps p.tables e below (s₁.setTop (entryFrame m #[(.ref (A 7))] 1)) t := fun t k => castTop (own_ef_rm8 m p1 p2 p3 A K cs ) k
  have KK0 : Keep h0 h0 [] := Keep.refl _ _
  obtain ⟨T126, X126, e126, st126⟩ := getS2 X0 hx hZ hown (host := "") (Or.inl (hw _ (List.mem_of_getElem? (i := 66) rfl))) Via.refl e0 (EN.2.2.2.1.2.2.1.ext OL0.2) (g := (mkF m 1 #[.val (.ref (A 7))] [(.ref (A 7))])) rfl (hb hby own_d_prog_40_method_6_code_1)
  obtain ⟨T127, X127, e127, st127⟩ := getS2 X126 hx hZ hown (host := "") (Or.inl (hw _ (List.mem_of_getElem? (i := 67) rfl))) Via.refl e126 (EN.2.2.2.1.2.2.2.2.1.ext OL0.2) (g := (mkF m 8 #[.val (.ref (A 7))] [(.ref (A 7))])) rfl (hb hby own_d_prog_40_method_6_code_8)
  obtain ⟨T128, X128, e128, st128⟩ := getS2 X127 hx hZ hown (host := "") (Or.inl (hw _ (List.mem_of_getElem? (i := 68) rfl))) Via.refl e127 (EN.2.2.2.1.2.2.2.2.2.2.1.ext OL0.2) (g := (mkF m 15 #[.val (.ref (A 7))] [(.ref (A 7))])) rfl (hb hby own_d_prog_40_method_6_code_15)
  obtain ⟨fs, hr, hrun, hended, hW, hsame⟩ := X128.leave (v := some (.int (0 : Int32))) (fun h => by rw [Bd.returns] at h; cases h)
  refine ⟨_, _, pre0 _ ?_, hrun, hended, _, _, rfl, ?_, ⟨_, rfl⟩, hW, hsame.mono (by decide) (by decide)⟩
  · show Steps p.tables e below (s₁.setTop (mkF m 0 #[.val (.ref (A 7))] [])) _
    refine XS.aloadN X0.here hx rfl (hb hby own_d_prog_40_method_6_code_0) rfl rfl ?_
    refine st126 _ ?_
    show Steps p.tables e below (T126.setTop (mkF m 4 #[.val (.ref (A 7))] [(.ref (A 13)), (.ref (A 7))])) _
    refine Jvm.RoadKit.acmp (g := (mkF m 4 #[.val (.ref (A 7))] [(.ref (A 13)), (.ref (A 7))])) X126 hx rfl rfl rfl (pc0 := 4) (pc' := 7) (same := false) rfl (hb hby own_d_prog_40_method_6_code_4) rfl (decide_eq_false fun q => (Fld.ne EN.2.2.2.2.2.2.2.2.2.1.2.2.2.2.2.2.2.1 EN.2.2.2.2.2.2.2.1.2.2.2.2.1 (fun h => by injection h with h; exact absurd h (by decide))) (Value.ref.inj q)) (by decide) (by decide) ?_
    show Steps p.tables e below (T126.setTop (mkF m 7 #[.val (.ref (A 7))] [])) _
    refine XS.aloadN X126.here hx rfl (hb hby own_d_prog_40_method_6_code_7) rfl rfl ?_
    refine st127 _ ?_
    show Steps p.tables e below (T127.setTop (mkF m 11 #[.val (.ref (A 7))] [(.ref (A 14)), (.ref (A 7))])) _
    refine Jvm.RoadKit.acmp (g := (mkF m 11 #[.val (.ref (A 7))] [(.ref (A 14)), (.ref (A 7))])) X127 hx rfl rfl rfl (pc0 := 11) (pc' := 14) (same := false) rfl (hb hby own_d_prog_40_method_6_code_11) rfl (decide_eq_false fun q => (Fld.ne EN.2.2.2.2.2.2.2.2.2.1.2.2.2.2.2.2.2.1 EN.2.2.2.2.2.2.2.1.2.2.2.2.2.1 (fun h => by injection h with h; exact absurd h (by decide))) (Value.ref.inj q)) (by decide) (by decide) ?_
    show Steps p.tables e below (T127.setTop (mkF m 14 #[.val (.ref (A 7))] [])) _
    refine XS.aloadN X127.here hx rfl (hb hby own_d_prog_40_method_6_code_14) rfl rfl ?_
    refine st128 _ ?_
    show Steps p.tables e below (T128.setTop (mkF m 18 #[.val (.ref (A 7))] [(.ref (A 15)), (.ref (A 7))])) _
    refine Jvm.RoadKit.acmp (g := (mkF m 18 #[.val (.ref (A 7))] [(.ref (A 15)), (.ref (A 7))])) X128 hx rfl rfl rfl (pc0 := 18) (pc' := 25) (same := false) rfl (hb hby own_d_prog_40_method_6_code_18) rfl (decide_eq_false fun q => (Fld.ne EN.2.2.2.2.2.2.2.2.2.1.2.2.2.2.2.2.2.1 EN.2.2.2.2.2.2.2.1.2.2.2.2.2.2.1 (fun h => by injection h with h; exact absurd h (by decide))) (Value.ref.inj q)) (by decide) (by decide) ?_
    show Steps p.tables e below (T128.setTop (mkF m 25 #[.val (.ref (A 7))] [])) _
    refine XS.iconst X128.here hx rfl (hb hby own_d_prog_40_method_6_code_25) ?_
    exact retN X128 hx (t := .boolean) Bd.returns (by simp) (hb hby own_d_prog_40_method_6_code_26) hr
  · show PQ (some (.int (0 : Int32))) h0 n0 _ T128.heap _
    rw [e128]
    exact ⟨rfl, N0, rfl⟩
theorem own_ef_rm9 (m : MethodId) (p1 : Int32) (p2 : Int32) (p3 : Int32) (A : Nat → Addr) (K : Nat → ClassId) (cs : Int32)  : entryFrame m #[(.ref (A 8))] 1 = mkF m 0 #[.val (.ref (A 8))] [] := by first | (simp [entryFrame, mkF, argsToLocals, Value.category, maxLocals]; done) | rfl
set_option maxRecDepth 65536 in
set_option maxHeartbeats 40000000 in
theorem rm9 (l : Launch) (Z : State) (a0 : Array Value) (hw : ∀ d ∈ tables_1, d.before a0 Z = true) (ws : List Jvm.Cond) (h0 : Heap) (n0 : Nat) (p1 : Int32) (p2 : Int32) (p3 : Int32) (A : Nat → Addr) (K : Nat → ClassId) (cs : Int32)  (EN : own_St Z A K cs) (OL0 : Old Z n0 h0) :
    MetFree l own_m0 (head1 (Jvm.Cond.code own_m0 prog_40_method_6_code 1 (some .boolean) :: ws) ({ frames := 0, cells := 0, slots := 0, locals := 0 } : Room)) (fun a U => a = #[(.ref (A 8))] ∧ Z.Warmed39 U.vm ∧ U.heap = h0) (fun _ _ _ _ _ => True) (fun _ U o U' => ∃ v L, o = .returned v ∧ (PQ (some (.int (0 : Int32))) h0 n0) v U'.heap L ∧ FrameEnd U o U' L ({ frames := 0, cells := 0, slots := 0, locals := 0 } : Room).cells ({ frames := 0, cells := 0, slots := 0, locals := 0 } : Room).slots) := by
  refine MetFree.of_bodySF (plainFor_of_name own_pn1) hisR ?_
  intro p e s m args below meth c s₁ Bd hml0 hP hK
  obtain ⟨rfl, hZ, hh⟩ := hP
  have hx := Bd.exec
  have hby := Bd.bytes
  have hml : c.maxLocals = 1 := hml0
  have hown : s.vm.findClass "com/example/tallywire/tallywire/wire/FieldType" = some m.cls := findClass_of_methodNamed Bd.named
  have hnm := (name_of_methodNamed Bd.named Bd.method).1
  have X0 : Stand p l e ({ frames := 0, cells := 0, slots := 0, locals := 0 } : Room) s m #[(.ref (A 8))] below meth c s₁ [] 0 0 := Stand.of_body Bd
  have e0 : s₁.heap = h0 := by rw [← hh, Bd.state]; rfl
  have N0 := Fr.nil n0
  have pre0 : ∀ t, Steps p.tables e below (s₁.setTop (mkF m 0 #[.val (.ref (A 8))] [])) t → Steps p.tables e below (s₁.setTop (entryFrame m #[(.ref (A 8))] 1)) t := fun t k => castTop (own_ef_rm9 m p1 p2 p3 A K cs ) k
  have KK0 : Keep h0 h0 [] := Keep.refl _ _
  obtain ⟨T131, X131, e131, st131⟩ := getS2 X0 hx hZ hown (host := "") (Or.inl (hw _ (List.mem_of_getElem? (i := 66) rfl))) Via.refl e0 (EN.2.2.2.1.2.2.1.ext OL0.2) (g := (mkF m 1 #[.val (.ref (A 8))] [(.ref (A 8))])) rfl (hb hby own_d_prog_40_method_6_code_1)
  obtain ⟨T132, X132, e132, st132⟩ := getS2 X131 hx hZ hown (host := "") (Or.inl (hw _ (List.mem_of_getElem? (i := 67) rfl))) Via.refl e131 (EN.2.2.2.1.2.2.2.2.1.ext OL0.2) (g := (mkF m 8 #[.val (.ref (A 8))] [(.ref (A 8))])) rfl (hb hby own_d_prog_40_method_6_code_8)
  obtain ⟨T133, X133, e133, st133⟩ := getS2 X132 hx hZ hown (host := "") (Or.inl (hw _ (List.mem_of_getElem? (i := 68) rfl))) Via.refl e132 (EN.2.2.2.1.2.2.2.2.2.2.1.ext OL0.2) (g := (mkF m 15 #[.val (.ref (A 8))] [(.ref (A 8))])) rfl (hb hby own_d_prog_40_method_6_code_15)
  obtain ⟨fs, hr, hrun, hended, hW, hsame⟩ := X133.leave (v := some (.int (0 : Int32))) (fun h => by rw [Bd.returns] at h; cases h)
  refine ⟨_, _, pre0 _ ?_, hrun, hended, _, _, rfl, ?_, ⟨_, rfl⟩, hW, hsame.mono (by decide) (by decide)⟩
  · show Steps p.tables e below (s₁.setTop (mkF m 0 #[.val (.ref (A 8))] [])) _
    refine XS.aloadN X0.here hx rfl (hb hby own_d_prog_40_method_6_code_0) rfl rfl ?_
    refine st131 _ ?_
    show Steps p.tables e below (T131.setTop (mkF m 4 #[.val (.ref (A 8))] [(.ref (A 13)), (.ref (A 8))])) _
    refine Jvm.RoadKit.acmp (g := (mkF m 4 #[.val (.ref (A 8))] [(.ref (A 13)), (.ref (A 8))])) X131 hx rfl rfl rfl (pc0 := 4) (pc' := 7) (same := false) rfl (hb hby own_d_prog_40_method_6_code_4) rfl (decide_eq_false fun q => (Fld.ne EN.2.2.2.2.2.2.2.2.1.2.2.1 EN.2.2.2.2.2.2.2.1.2.2.2.2.1 (fun h => by injection h with h; exact absurd h (by decide))) (Value.ref.inj q)) (by decide) (by decide) ?_
    show Steps p.tables e below (T131.setTop (mkF m 7 #[.val (.ref (A 8))] [])) _
    refine XS.aloadN X131.here hx rfl (hb hby own_d_prog_40_method_6_code_7) rfl rfl ?_
    refine st132 _ ?_
    show Steps p.tables e below (T132.setTop (mkF m 11 #[.val (.ref (A 8))] [(.ref (A 14)), (.ref (A 8))])) _
    refine Jvm.RoadKit.acmp (g := (mkF m 11 #[.val (.ref (A 8))] [(.ref (A 14)), (.ref (A 8))])) X132 hx rfl rfl rfl (pc0 := 11) (pc' := 14) (same := false) rfl (hb hby own_d_prog_40_method_6_code_11) rfl (decide_eq_false fun q => (Fld.ne EN.2.2.2.2.2.2.2.2.1.2.2.1 EN.2.2.2.2.2.2.2.1.2.2.2.2.2.1 (fun h => by injection h with h; exact absurd h (by decide))) (Value.ref.inj q)) (by decide) (by decide) ?_
    show Steps p.tables e below (T132.setTop (mkF m 14 #[.val (.ref (A 8))] [])) _
    refine XS.aloadN X132.here hx rfl (hb hby own_d_prog_40_method_6_code_14) rfl rfl ?_
    refine st133 _ ?_
    show Steps p.tables e below (T133.setTop (mkF m 18 #[.val (.ref (A 8))] [(.ref (A 15)), (.ref (A 8))])) _
    refine Jvm.RoadKit.acmp (g := (mkF m 18 #[.val (.ref (A 8))] [(.ref (A 15)), (.ref (A 8))])) X133 hx rfl rfl rfl (pc0 := 18) (pc' := 25) (same := false) rfl (hb hby own_d_prog_40_method_6_code_18) rfl (decide_eq_false fun q => (Fld.ne EN.2.2.2.2.2.2.2.2.1.2.2.1 EN.2.2.2.2.2.2.2.1.2.2.2.2.2.2.1 (fun h => by injection h with h; exact absurd h (by decide))) (Value.ref.inj q)) (by decide) (by decide) ?_
    show Steps p.tables e below (T133.setTop (mkF m 25 #[.val (.ref (A 8))] [])) _
    refine XS.iconst X133.here hx rfl (hb hby own_d_prog_40_method_6_code_25) ?_
    exact retN X133 hx (t := .boolean) Bd.returns (by simp) (hb hby own_d_prog_40_method_6_code_26) hr
  · show PQ (some (.int (0 : Int32))) h0 n0 _ T133.heap _
    rw [e133]
    exact ⟨rfl, N0, rfl⟩
theorem own_ef_rm10 (m : MethodId) (p1 : Int32) (p2 : Int32) (p3 : Int32) (A : Nat → Addr) (K : Nat → ClassId) (cs : Int32)  : entryFrame m #[(.ref (A 9))] 1 = mkF m 0 #[.val (.ref (A 9))] [] := by first | (simp [entryFrame, mkF, argsToLocals, Value.category, maxLocals]; done) | rfl
set_option maxRecDepth 65536 in
set_option maxHeartbeats 40000000 in
theorem rm10 (l : Launch) (Z : State) (a0 : Array Value) (hw : ∀ d ∈ tables_1, d.before a0 Z = true) (ws : List Jvm.Cond) (h0 : Heap) (n0 : Nat) (p1 : Int32) (p2 : Int32) (p3 : Int32) (A : Nat → Addr) (K : Nat → ClassId) (cs : Int32)  (EN : own_St Z A K cs) (OL0 : Old Z n0 h0) :
    MetFree l own_m0 (head1 (Jvm.Cond.code own_m0 prog_40_method_6_code 1 (some .boolean) :: ws) ({ frames := 0, cells := 0, slots := 0, locals := 0 } : Room)) (fun a U => a = #[(.ref (A 9))] ∧ Z.Warmed39 U.vm ∧ U.heap = h0) (fun _ _ _ _ _ => True) (fun _ U o U' => ∃ v L, o = .returned v ∧ (PQ (some (.int (0 : Int32))) h0 n0) v U'.heap L ∧ FrameEnd U o U' L ({ frames := 0, cells := 0, slots := 0, locals := 0 } : Room).cells ({ frames := 0, cells := 0, slots := 0, locals := 0 } : Room).slots) := by
  refine MetFree.of_bodySF (plainFor_of_name own_pn1) hisR ?_
  intro p e s m args below meth c s₁ Bd hml0 hP hK
  obtain ⟨rfl, hZ, hh⟩ := hP
  have hx := Bd.exec
  have hby := Bd.bytes
  have hml : c.maxLocals = 1 := hml0
  have hown : s.vm.findClass "com/example/tallywire/tallywire/wire/FieldType" = some m.cls := findClass_of_methodNamed Bd.named
  have hnm := (name_of_methodNamed Bd.named Bd.method).1
  have X0 : Stand p l e ({ frames := 0, cells := 0, slots := 0, locals := 0 } : Room) s m #[(.ref (A 9))] below meth c s₁ [] 0 0 := Stand.of_body Bd
  have e0 : s₁.heap = h0 := by rw [← hh, Bd.state]; rfl
  have N0 := Fr.nil n0
  have pre0 : ∀ t, Steps p.tables e below (s₁.setTop (mkF m 0 #[.val (.ref (A 9))] [])) t → Steps p.tables e below (s₁.setTop (entryFrame m #[(.ref (A 9))] 1)) t := fun t k => castTop (own_ef_rm10 m p1 p2 p3 A K cs ) k
  have KK0 : Keep h0 h0 [] := Keep.refl _ _
  obtain ⟨T136, X136, e136, st136⟩ := getS2 X0 hx hZ hown (host := "") (Or.inl (hw _ (List.mem_of_getElem? (i := 66) rfl))) Via.refl e0 (EN.2.2.2.1.2.2.1.ext OL0.2) (g := (mkF m 1 #[.val (.ref (A 9))] [(.ref (A 9))])) rfl (hb hby own_d_prog_40_method_6_code_1)
  obtain ⟨T137, X137, e137, st137⟩ := getS2 X136 hx hZ hown (host := "") (Or.inl (hw _ (List.mem_of_getElem? (i := 67) rfl))) Via.refl e136 (EN.2.2.2.1.2.2.2.2.1.ext OL0.2) (g := (mkF m 8 #[.val (.ref (A 9))] [(.ref (A 9))])) rfl (hb hby own_d_prog_40_method_6_code_8)
  obtain ⟨T138, X138, e138, st138⟩ := getS2 X137 hx hZ hown (host := "") (Or.inl (hw _ (List.mem_of_getElem? (i := 68) rfl))) Via.refl e137 (EN.2.2.2.1.2.2.2.2.2.2.1.ext OL0.2) (g := (mkF m 15 #[.val (.ref (A 9))] [(.ref (A 9))])) rfl (hb hby own_d_prog_40_method_6_code_15)
  obtain ⟨fs, hr, hrun, hended, hW, hsame⟩ := X138.leave (v := some (.int (0 : Int32))) (fun h => by rw [Bd.returns] at h; cases h)
  refine ⟨_, _, pre0 _ ?_, hrun, hended, _, _, rfl, ?_, ⟨_, rfl⟩, hW, hsame.mono (by decide) (by decide)⟩
  · show Steps p.tables e below (s₁.setTop (mkF m 0 #[.val (.ref (A 9))] [])) _
    refine XS.aloadN X0.here hx rfl (hb hby own_d_prog_40_method_6_code_0) rfl rfl ?_
    refine st136 _ ?_
    show Steps p.tables e below (T136.setTop (mkF m 4 #[.val (.ref (A 9))] [(.ref (A 13)), (.ref (A 9))])) _
    refine Jvm.RoadKit.acmp (g := (mkF m 4 #[.val (.ref (A 9))] [(.ref (A 13)), (.ref (A 9))])) X136 hx rfl rfl rfl (pc0 := 4) (pc' := 7) (same := false) rfl (hb hby own_d_prog_40_method_6_code_4) rfl (decide_eq_false fun q => (Fld.ne EN.2.2.2.2.2.2.2.2.2.1.2.2.2.1 EN.2.2.2.2.2.2.2.1.2.2.2.2.1 (fun h => by injection h with h; exact absurd h (by decide))) (Value.ref.inj q)) (by decide) (by decide) ?_
    show Steps p.tables e below (T136.setTop (mkF m 7 #[.val (.ref (A 9))] [])) _
    refine XS.aloadN X136.here hx rfl (hb hby own_d_prog_40_method_6_code_7) rfl rfl ?_
    refine st137 _ ?_
    show Steps p.tables e below (T137.setTop (mkF m 11 #[.val (.ref (A 9))] [(.ref (A 14)), (.ref (A 9))])) _
    refine Jvm.RoadKit.acmp (g := (mkF m 11 #[.val (.ref (A 9))] [(.ref (A 14)), (.ref (A 9))])) X137 hx rfl rfl rfl (pc0 := 11) (pc' := 14) (same := false) rfl (hb hby own_d_prog_40_method_6_code_11) rfl (decide_eq_false fun q => (Fld.ne EN.2.2.2.2.2.2.2.2.2.1.2.2.2.1 EN.2.2.2.2.2.2.2.1.2.2.2.2.2.1 (fun h => by injection h with h; exact absurd h (by decide))) (Value.ref.inj q)) (by decide) (by decide) ?_
    show Steps p.tables e below (T137.setTop (mkF m 14 #[.val (.ref (A 9))] [])) _
    refine XS.aloadN X137.here hx rfl (hb hby own_d_prog_40_method_6_code_14) rfl rfl ?_
    refine st138 _ ?_
    show Steps p.tables e below (T138.setTop (mkF m 18 #[.val (.ref (A 9))] [(.ref (A 15)), (.ref (A 9))])) _
    refine Jvm.RoadKit.acmp (g := (mkF m 18 #[.val (.ref (A 9))] [(.ref (A 15)), (.ref (A 9))])) X138 hx rfl rfl rfl (pc0 := 18) (pc' := 25) (same := false) rfl (hb hby own_d_prog_40_method_6_code_18) rfl (decide_eq_false fun q => (Fld.ne EN.2.2.2.2.2.2.2.2.2.1.2.2.2.1 EN.2.2.2.2.2.2.2.1.2.2.2.2.2.2.1 (fun h => by injection h with h; exact absurd h (by decide))) (Value.ref.inj q)) (by decide) (by decide) ?_
    show Steps p.tables e below (T138.setTop (mkF m 25 #[.val (.ref (A 9))] [])) _
    refine XS.iconst X138.here hx rfl (hb hby own_d_prog_40_method_6_code_25) ?_
    exact retN X138 hx (t := .boolean) Bd.returns (by simp) (hb hby own_d_prog_40_method_6_code_26) hr
  · show PQ (some (.int (0 : Int32))) h0 n0 _ T138.heap _
    rw [e138]
    exact ⟨rfl, N0, rfl⟩
theorem own_ef_rm11 (m : MethodId) (p1 : Int32) (p2 : Int32) (p3 : Int32) (A : Nat → Addr) (K : Nat → ClassId) (cs : Int32)  : entryFrame m #[(.ref (A 10))] 1 = mkF m 0 #[.val (.ref (A 10))] [] := by first | (simp [entryFrame, mkF, argsToLocals, Value.category, maxLocals]; done) | rfl
set_option maxRecDepth 65536 in
set_option maxHeartbeats 40000000 in
theorem rm11 (l : Launch) (Z : State) (a0 : Array Value) (hw : ∀ d ∈ tables_1, d.before a0 Z = true) (ws : List Jvm.Cond) (h0 : Heap) (n0 : Nat) (p1 : Int32) (p2 : Int32) (p3 : Int32) (A : Nat → Addr) (K : Nat → ClassId) (cs : Int32)  (EN : own_St Z A K cs) (OL0 : Old Z n0 h0) :
    MetFree l own_m0 (head1 (Jvm.Cond.code own_m0 prog_40_method_6_code 1 (some .boolean) :: ws) ({ frames := 0, cells := 0, slots := 0, locals := 0 } : Room)) (fun a U => a = #[(.ref (A 10))] ∧ Z.Warmed39 U.vm ∧ U.heap = h0) (fun _ _ _ _ _ => True) (fun _ U o U' => ∃ v L, o = .returned v ∧ (PQ (some (.int (0 : Int32))) h0 n0) v U'.heap L ∧ FrameEnd U o U' L ({ frames := 0, cells := 0, slots := 0, locals := 0 } : Room).cells ({ frames := 0, cells := 0, slots := 0, locals := 0 } : Room).slots) := by
  refine MetFree.of_bodySF (plainFor_of_name own_pn1) hisR ?_
  intro p e s m args below meth c s₁ Bd hml0 hP hK
  obtain ⟨rfl, hZ, hh⟩ := hP
  have hx := Bd.exec
  have hby := Bd.bytes
  have hml : c.maxLocals = 1 := hml0
  have hown : s.vm.findClass "com/example/tallywire/tallywire/wire/FieldType" = some m.cls := findClass_of_methodNamed Bd.named
  have hnm := (name_of_methodNamed Bd.named Bd.method).1
  have X0 : Stand p l e ({ frames := 0, cells := 0, slots := 0, locals := 0 } : Room) s m #[(.ref (A 10))] below meth c s₁ [] 0 0 := Stand.of_body Bd
  have e0 : s₁.heap = h0 := by rw [← hh, Bd.state]; rfl
  have N0 := Fr.nil n0
  have pre0 : ∀ t, Steps p.tables e below (s₁.setTop (mkF m 0 #[.val (.ref (A 10))] [])) t → Steps p.tables e below (s₁.setTop (entryFrame m #[(.ref (A 10))] 1)) t := fun t k => castTop (own_ef_rm11 m p1 p2 p3 A K cs ) k
  have KK0 : Keep h0 h0 [] := Keep.refl _ _
  obtain ⟨T141, X141, e141, st141⟩ := getS2 X0 hx hZ hown (host := "") (Or.inl (hw _ (List.mem_of_getElem? (i := 66) rfl))) Via.refl e0 (EN.2.2.2.1.2.2.1.ext OL0.2) (g := (mkF m 1 #[.val (.ref (A 10))] [(.ref (A 10))])) rfl (hb hby own_d_prog_40_method_6_code_1)
  obtain ⟨T142, X142, e142, st142⟩ := getS2 X141 hx hZ hown (host := "") (Or.inl (hw _ (List.mem_of_getElem? (i := 67) rfl))) Via.refl e141 (EN.2.2.2.1.2.2.2.2.1.ext OL0.2) (g := (mkF m 8 #[.val (.ref (A 10))] [(.ref (A 10))])) rfl (hb hby own_d_prog_40_method_6_code_8)
  obtain ⟨T143, X143, e143, st143⟩ := getS2 X142 hx hZ hown (host := "") (Or.inl (hw _ (List.mem_of_getElem? (i := 68) rfl))) Via.refl e142 (EN.2.2.2.1.2.2.2.2.2.2.1.ext OL0.2) (g := (mkF m 15 #[.val (.ref (A 10))] [(.ref (A 10))])) rfl (hb hby own_d_prog_40_method_6_code_15)
  obtain ⟨fs, hr, hrun, hended, hW, hsame⟩ := X143.leave (v := some (.int (0 : Int32))) (fun h => by rw [Bd.returns] at h; cases h)
  refine ⟨_, _, pre0 _ ?_, hrun, hended, _, _, rfl, ?_, ⟨_, rfl⟩, hW, hsame.mono (by decide) (by decide)⟩
  · show Steps p.tables e below (s₁.setTop (mkF m 0 #[.val (.ref (A 10))] [])) _
    refine XS.aloadN X0.here hx rfl (hb hby own_d_prog_40_method_6_code_0) rfl rfl ?_
    refine st141 _ ?_
    show Steps p.tables e below (T141.setTop (mkF m 4 #[.val (.ref (A 10))] [(.ref (A 13)), (.ref (A 10))])) _
    refine Jvm.RoadKit.acmp (g := (mkF m 4 #[.val (.ref (A 10))] [(.ref (A 13)), (.ref (A 10))])) X141 hx rfl rfl rfl (pc0 := 4) (pc' := 7) (same := false) rfl (hb hby own_d_prog_40_method_6_code_4) rfl (decide_eq_false fun q => (Fld.ne EN.2.2.2.2.2.2.2.2.1.2.2.2.2.2.1 EN.2.2.2.2.2.2.2.1.2.2.2.2.1 (fun h => by injection h with h; exact absurd h (by decide))) (Value.ref.inj q)) (by decide) (by decide) ?_
    show Steps p.tables e below (T141.setTop (mkF m 7 #[.val (.ref (A 10))] [])) _
    refine XS.aloadN X141.here hx rfl (hb hby own_d_prog_40_method_6_code_7) rfl rfl ?_
    refine st142 _ ?_
    show Steps p.tables e below (T142.setTop (mkF m 11 #[.val (.ref (A 10))] [(.ref (A 14)), (.ref (A 10))])) _
    refine Jvm.RoadKit.acmp (g := (mkF m 11 #[.val (.ref (A 10))] [(.ref (A 14)), (.ref (A 10))])) X142 hx rfl rfl rfl (pc0 := 11) (pc' := 14) (same := false) rfl (hb hby own_d_prog_40_method_6_code_11) rfl (decide_eq_false fun q => (Fld.ne EN.2.2.2.2.2.2.2.2.1.2.2.2.2.2.1 EN.2.2.2.2.2.2.2.1.2.2.2.2.2.1 (fun h => by injection h with h; exact absurd h (by decide))) (Value.ref.inj q)) (by decide) (by decide) ?_
    show Steps p.tables e below (T142.setTop (mkF m 14 #[.val (.ref (A 10))] [])) _
    refine XS.aloadN X142.here hx rfl (hb hby own_d_prog_40_method_6_code_14) rfl rfl ?_
    refine st143 _ ?_
    show Steps p.tables e below (T143.setTop (mkF m 18 #[.val (.ref (A 10))] [(.ref (A 15)), (.ref (A 10))])) _
    refine Jvm.RoadKit.acmp (g := (mkF m 18 #[.val (.ref (A 10))] [(.ref (A 15)), (.ref (A 10))])) X143 hx rfl rfl rfl (pc0 := 18) (pc' := 25) (same := false) rfl (hb hby own_d_prog_40_method_6_code_18) rfl (decide_eq_false fun q => (Fld.ne EN.2.2.2.2.2.2.2.2.1.2.2.2.2.2.1 EN.2.2.2.2.2.2.2.1.2.2.2.2.2.2.1 (fun h => by injection h with h; exact absurd h (by decide))) (Value.ref.inj q)) (by decide) (by decide) ?_
    show Steps p.tables e below (T143.setTop (mkF m 25 #[.val (.ref (A 10))] [])) _
    refine XS.iconst X143.here hx rfl (hb hby own_d_prog_40_method_6_code_25) ?_
    exact retN X143 hx (t := .boolean) Bd.returns (by simp) (hb hby own_d_prog_40_method_6_code_26) hr
  · show PQ (some (.int (0 : Int32))) h0 n0 _ T143.heap _
    rw [e143]
    exact ⟨rfl, N0, rfl⟩
theorem own_ef_rm12 (m : MethodId) (p1 : Int32) (p2 : Int32) (p3 : Int32) (A : Nat → Addr) (K : Nat → ClassId) (cs : Int32)  : entryFrame m #[(.ref (A 11))] 1 = mkF m 0 #[.val (.ref (A 11))] [] := by first | (simp [entryFrame, mkF, argsToLocals, Value.category, maxLocals]; done) | rfl
set_option maxRecDepth 65536 in
set_option maxHeartbeats 40000000 in
theorem rm12 (l : Launch) (Z : State) (a0 : Array Value) (hw : ∀ d ∈ tables_1, d.before a0 Z = true) (ws : List Jvm.Cond) (h0 : Heap) (n0 : Nat) (p1 : Int32) (p2 : Int32) (p3 : Int32) (A : Nat → Addr) (K : Nat → ClassId) (cs : Int32)  (EN : own_St Z A K cs) (OL0 : Old Z n0 h0) :
    MetFree l own_m0 (head1 (Jvm.Cond.code own_m0 prog_40_method_6_code 1 (some .boolean) :: ws) ({ frames := 0, cells := 0, slots := 0, locals := 0 } : Room)) (fun a U => a = #[(.ref (A 11))] ∧ Z.Warmed39 U.vm ∧ U.heap = h0) (fun _ _ _ _ _ => True) (fun _ U o U' => ∃ v L, o = .returned v ∧ (PQ (some (.int (0 : Int32))) h0 n0) v U'.heap L ∧ FrameEnd U o U' L ({ frames := 0, cells := 0, slots := 0, locals := 0 } : Room).cells ({ frames := 0, cells := 0, slots := 0, locals := 0 } : Room).slots) := by
  refine MetFree.of_bodySF (plainFor_of_name own_pn1) hisR ?_
  intro p e s m args below meth c s₁ Bd hml0 hP hK
  obtain ⟨rfl, hZ, hh⟩ := hP
  have hx := Bd.exec
  have hby := Bd.bytes
  have hml : c.maxLocals = 1 := hml0
  have hown : s.vm.findClass "com/example/tallywire/tallywire/wire/FieldType" = some m.cls := findClass_of_methodNamed Bd.named
  have hnm := (name_of_methodNamed Bd.named Bd.method).1
  have X0 : Stand p l e ({ frames := 0, cells := 0, slots := 0, locals := 0 } : Room) s m #[(.ref (A 11))] below meth c s₁ [] 0 0 := Stand.of_body Bd
  have e0 : s₁.heap = h0 := by rw [← hh, Bd.state]; rfl
  have N0 := Fr.nil n0
  have pre0 : ∀ t, Steps p.tables e below (s₁.setTop (mkF m 0 #[.val (.ref (A 11))] [])) t → Steps p.tables e below (s₁.setTop (entryFrame m #[(.ref (A 11))] 1)) t := fun t k => castTop (own_ef_rm12 m p1 p2 p3 A K cs ) k
  have KK0 : Keep h0 h0 [] := Keep.refl _ _
  obtain ⟨T146, X146, e146, st146⟩ := getS2 X0 hx hZ hown (host := "") (Or.inl (hw _ (List.mem_of_getElem? (i := 66) rfl))) Via.refl e0 (EN.2.2.2.1.2.2.1.ext OL0.2) (g := (mkF m 1 #[.val (.ref (A 11))] [(.ref (A 11))])) rfl (hb hby own_d_prog_40_method_6_code_1)
  obtain ⟨T147, X147, e147, st147⟩ := getS2 X146 hx hZ hown (host := "") (Or.inl (hw _ (List.mem_of_getElem? (i := 67) rfl))) Via.refl e146 (EN.2.2.2.1.2.2.2.2.1.ext OL0.2) (g := (mkF m 8 #[.val (.ref (A 11))] [(.ref (A 11))])) rfl (hb hby own_d_prog_40_method_6_code_8)
  obtain ⟨T148, X148, e148, st148⟩ := getS2 X147 hx hZ hown (host := "") (Or.inl (hw _ (List.mem_of_getElem? (i := 68) rfl))) Via.refl e147 (EN.2.2.2.1.2.2.2.2.2.2.1.ext OL0.2) (g := (mkF m 15 #[.val (.ref (A 11))] [(.ref (A 11))])) rfl (hb hby own_d_prog_40_method_6_code_15)
  obtain ⟨fs, hr, hrun, hended, hW, hsame⟩ := X148.leave (v := some (.int (0 : Int32))) (fun h => by rw [Bd.returns] at h; cases h)
  refine ⟨_, _, pre0 _ ?_, hrun, hended, _, _, rfl, ?_, ⟨_, rfl⟩, hW, hsame.mono (by decide) (by decide)⟩
  · show Steps p.tables e below (s₁.setTop (mkF m 0 #[.val (.ref (A 11))] [])) _
    refine XS.aloadN X0.here hx rfl (hb hby own_d_prog_40_method_6_code_0) rfl rfl ?_
    refine st146 _ ?_
    show Steps p.tables e below (T146.setTop (mkF m 4 #[.val (.ref (A 11))] [(.ref (A 13)), (.ref (A 11))])) _
    refine Jvm.RoadKit.acmp (g := (mkF m 4 #[.val (.ref (A 11))] [(.ref (A 13)), (.ref (A 11))])) X146 hx rfl rfl rfl (pc0 := 4) (pc' := 7) (same := false) rfl (hb hby own_d_prog_40_method_6_code_4) rfl (decide_eq_false fun q => (Fld.ne EN.2.2.2.2.2.2.2.2.2.1.2.1 EN.2.2.2.2.2.2.2.1.2.2.2.2.1 (fun h => by injection h with h; exact absurd h (by decide))) (Value.ref.inj q)) (by decide) (by decide) ?_
    show Steps p.tables e below (T146.setTop (mkF m 7 #[.val (.ref (A 11))] [])) _
    refine XS.aloadN X146.here hx rfl (hb hby own_d_prog_40_method_6_code_7) rfl rfl ?_
    refine st147 _ ?_
    show Steps p.tables e below (T147.setTop (mkF m 11 #[.val (.ref (A 11))] [(.ref (A 14)), (.ref (A 11))])) _
    refine Jvm.RoadKit.acmp (g := (mkF m 11 #[.val (.ref (A 11))] [(.ref (A 14)), (.ref (A 11))])) X147 hx rfl rfl rfl (pc0 := 11) (pc' := 14) (same := false) rfl (hb hby own_d_prog_40_method_6_code_11) rfl (decide_eq_false fun q => (Fld.ne EN.2.2.2.2.2.2.2.2.2.1.2.1 EN.2.2.2.2.2.2.2.1.2.2.2.2.2.1 (fun h => by injection h with h; exact absurd h (by decide))) (Value.ref.inj q)) (by decide) (by decide) ?_
    show Steps p.tables e below (T147.setTop (mkF m 14 #[.val (.ref (A 11))] [])) _
    refine XS.aloadN X147.here hx rfl (hb hby own_d_prog_40_method_6_code_14) rfl rfl ?_
    refine st148 _ ?_
    show Steps p.tables e below (T148.setTop (mkF m 18 #[.val (.ref (A 11))] [(.ref (A 15)), (.ref (A 11))])) _
    refine Jvm.RoadKit.acmp (g := (mkF m 18 #[.val (.ref (A 11))] [(.ref (A 15)), (.ref (A 11))])) X148 hx rfl rfl rfl (pc0 := 18) (pc' := 25) (same := false) rfl (hb hby own_d_prog_40_method_6_code_18) rfl (decide_eq_false fun q => (Fld.ne EN.2.2.2.2.2.2.2.2.2.1.2.1 EN.2.2.2.2.2.2.2.1.2.2.2.2.2.2.1 (fun h => by injection h with h; exact absurd h (by decide))) (Value.ref.inj q)) (by decide) (by decide) ?_
    show Steps p.tables e below (T148.setTop (mkF m 25 #[.val (.ref (A 11))] [])) _
    refine XS.iconst X148.here hx rfl (hb hby own_d_prog_40_method_6_code_25) ?_
    exact retN X148 hx (t := .boolean) Bd.returns (by simp) (hb hby own_d_prog_40_method_6_code_26) hr
  · show PQ (some (.int (0 : Int32))) h0 n0 _ T148.heap _
    rw [e148]
    exact ⟨rfl, N0, rfl⟩
theorem own_ef_rm13 (m : MethodId) (p1 : Int32) (p2 : Int32) (p3 : Int32) (A : Nat → Addr) (K : Nat → ClassId) (cs : Int32)  : entryFrame m #[(.ref (A 12))] 1 = mkF m 0 #[.val (.ref (A 12))] [] := by first | (simp [entryFrame, mkF, argsToLocals, Value.category, maxLocals]; done) | rfl
set_option maxRecDepth 65536 in
set_option maxHeartbeats 40000000 in
theorem rm13 (l : Launch) (Z : State) (a0 : Array Value) (hw : ∀ d ∈ tables_1, d.before a0 Z = true) (ws : List Jvm.Cond) (h0 : Heap) (n0 : Nat) (p1 : Int32) (p2 : Int32) (p3 : Int32) (A : Nat → Addr) (K : Nat → ClassId) (cs : Int32)  (EN : own_St Z A K cs) (OL0 : Old Z n0 h0) :
    MetFree l own_m0 (head1 (Jvm.Cond.code own_m0 prog_40_method_6_code 1 (some .boolean) :: ws) ({ frames := 0, cells := 0, slots := 0, locals := 0 } : Room)) (fun a U => a = #[(.ref (A 12))] ∧ Z.Warmed39 U.vm ∧ U.heap = h0) (fun _ _ _ _ _ => True) (fun _ U o U' => ∃ v L, o = .returned v ∧ (PQ (some (.int (0 : Int32))) h0 n0) v U'.heap L ∧ FrameEnd U o U' L ({ frames := 0, cells := 0, slots := 0, locals := 0 } : Room).cells ({ frames := 0, cells := 0, slots := 0, locals := 0 } : Room).slots) := by
  refine MetFree.of_bodySF (plainFor_of_name own_pn1) hisR ?_
  intro p e s m args below meth c s₁ Bd hml0 hP hK
  obtain ⟨rfl, hZ, hh⟩ := hP
  have hx := Bd.exec
  have hby := Bd.bytes
  have hml : c.maxLocals = 1 := hml0
  have hown : s.vm.findClass "com/example/tallywire/tallywire/wire/FieldType" = some m.cls := findClass_of_methodNamed Bd.named
  have hnm := (name_of_methodNamed Bd.named Bd.method).1
  have X0 : Stand p l e ({ frames := 0, cells := 0, slots := 0, locals := 0 } : Room) s m #[(.ref (A 12))] below meth c s₁ [] 0 0 := Stand.of_body Bd
  have e0 : s₁.heap = h0 := by rw [← hh, Bd.state]; rfl
  have N0 := Fr.nil n0
  have pre0 : ∀ t, Steps p.tables e below (s₁.setTop (mkF m 0 #[.val (.ref (A 12))] [])) t → Steps p.tables e below (s₁.setTop (entryFrame m #[(.ref (A 12))] 1)) t := fun t k => castTop (own_ef_rm13 m p1 p2 p3 A K cs ) k
  have KK0 : Keep h0 h0 [] := Keep.refl _ _
  obtain ⟨T151, X151, e151, st151⟩ := getS2 X0 hx hZ hown (host := "") (Or.inl (hw _ (List.mem_of_getElem? (i := 66) rfl))) Via.refl e0 (EN.2.2.2.1.2.2.1.ext OL0.2) (g := (mkF m 1 #[.val (.ref (A 12))] [(.ref (A 12))])) rfl (hb hby own_d_prog_40_method_6_code_1)
  obtain ⟨T152, X152, e152, st152⟩ := getS2 X151 hx hZ hown (host := "") (Or.inl (hw _ (List.mem_of_getElem? (i := 67) rfl))) Via.refl e151 (EN.2.2.2.1.2.2.2.2.1.ext OL0.2) (g := (mkF m 8 #[.val (.ref (A 12))] [(.ref (A 12))])) rfl (hb hby own_d_prog_40_method_6_code_8)
  obtain ⟨T153, X153, e153, st153⟩ := getS2 X152 hx hZ hown (host := "") (Or.inl (hw _ (List.mem_of_getElem? (i := 68) rfl))) Via.refl e152 (EN.2.2.2.1.2.2.2.2.2.2.1.ext OL0.2) (g := (mkF m 15 #[.val (.ref (A 12))] [(.ref (A 12))])) rfl (hb hby own_d_prog_40_method_6_code_15)
  obtain ⟨fs, hr, hrun, hended, hW, hsame⟩ := X153.leave (v := some (.int (0 : Int32))) (fun h => by rw [Bd.returns] at h; cases h)
  refine ⟨_, _, pre0 _ ?_, hrun, hended, _, _, rfl, ?_, ⟨_, rfl⟩, hW, hsame.mono (by decide) (by decide)⟩
  · show Steps p.tables e below (s₁.setTop (mkF m 0 #[.val (.ref (A 12))] [])) _
    refine XS.aloadN X0.here hx rfl (hb hby own_d_prog_40_method_6_code_0) rfl rfl ?_
    refine st151 _ ?_
    show Steps p.tables e below (T151.setTop (mkF m 4 #[.val (.ref (A 12))] [(.ref (A 13)), (.ref (A 12))])) _
    refine Jvm.RoadKit.acmp (g := (mkF m 4 #[.val (.ref (A 12))] [(.ref (A 13)), (.ref (A 12))])) X151 hx rfl rfl rfl (pc0 := 4) (pc' := 7) (same := false) rfl (hb hby own_d_prog_40_method_6_code_4) rfl (decide_eq_false fun q => (Fld.ne EN.2.2.2.2.2.2.2.2.2.2.1.2.2.2.2.1 EN.2.2.2.2.2.2.2.1.2.2.2.2.1 (fun h => by injection h with h; exact absurd h (by decide))) (Value.ref.inj q)) (by decide) (by decide) ?_
    show Steps p.tables e below (T151.setTop (mkF m 7 #[.val (.ref (A 12))] [])) _
    refine XS.aloadN X151.here hx rfl (hb hby own_d_prog_40_method_6_code_7) rfl rfl ?_
    refine st152 _ ?_
    show Steps p.tables e below (T152.setTop (mkF m 11 #[.val (.ref (A 12))] [(.ref (A 14)), (.ref (A 12))])) _
    refine Jvm.RoadKit.acmp (g := (mkF m 11 #[.val (.ref (A 12))] [(.ref (A 14)), (.ref (A 12))])) X152 hx rfl rfl rfl (pc0 := 11) (pc' := 14) (same := false) rfl (hb hby own_d_prog_40_method_6_code_11) rfl (decide_eq_false fun q => (Fld.ne EN.2.2.2.2.2.2.2.2.2.2.1.2.2.2.2.1 EN.2.2.2.2.2.2.2.1.2.2.2.2.2.1 (fun h => by injection h with h; exact absurd h (by decide))) (Value.ref.inj q)) (by decide) (by decide) ?_
    show Steps p.tables e below (T152.setTop (mkF m 14 #[.val (.ref (A 12))] [])) _
    refine XS.aloadN X152.here hx rfl (hb hby own_d_prog_40_method_6_code_14) rfl rfl ?_
    refine st153 _ ?_
    show Steps p.tables e below (T153.setTop (mkF m 18 #[.val (.ref (A 12))] [(.ref (A 15)), (.ref (A 12))])) _
    refine Jvm.RoadKit.acmp (g := (mkF m 18 #[.val (.ref (A 12))] [(.ref (A 15)), (.ref (A 12))])) X153 hx rfl rfl rfl (pc0 := 18) (pc' := 25) (same := false) rfl (hb hby own_d_prog_40_method_6_code_18) rfl (decide_eq_false fun q => (Fld.ne EN.2.2.2.2.2.2.2.2.2.2.1.2.2.2.2.1 EN.2.2.2.2.2.2.2.1.2.2.2.2.2.2.1 (fun h => by injection h with h; exact absurd h (by decide))) (Value.ref.inj q)) (by decide) (by decide) ?_
    show Steps p.tables e below (T153.setTop (mkF m 25 #[.val (.ref (A 12))] [])) _
    refine XS.iconst X153.here hx rfl (hb hby own_d_prog_40_method_6_code_25) ?_
    exact retN X153 hx (t := .boolean) Bd.returns (by simp) (hb hby own_d_prog_40_method_6_code_26) hr
  · show PQ (some (.int (0 : Int32))) h0 n0 _ T153.heap _
    rw [e153]
    exact ⟨rfl, N0, rfl⟩
theorem own_d_prog_40_method_6_code_21 : decode prog_40_method_6_code 21 = .ok (.iconst 1, 1) := by decide +kernel
theorem own_d_prog_40_method_6_code_22 : decode prog_40_method_6_code 22 = .ok (.goto 4, 3) := by decide +kernel
theorem own_ef_rm14 (m : MethodId) (p1 : Int32) (p2 : Int32) (p3 : Int32) (A : Nat → Addr) (K : Nat → ClassId) (cs : Int32)  : entryFrame m #[(.ref (A 13))] 1 = mkF m 0 #[.val (.ref (A 13))] [] := by first | (simp [entryFrame, mkF, argsToLocals, Value.category, maxLocals]; done) | rfl
set_option maxRecDepth 65536 in
set_option maxHeartbeats 40000000 in
theorem rm14 (l : Launch) (Z : State) (a0 : Array Value) (hw : ∀ d ∈ tables_1, d.before a0 Z = true) (ws : List Jvm.Cond) (h0 : Heap) (n0 : Nat) (p1 : Int32) (p2 : Int32) (p3 : Int32) (A : Nat → Addr) (K : Nat → ClassId) (cs : Int32)  (EN : own_St Z A K cs) (OL0 : Old Z n0 h0) :
    MetFree l own_m0 (head1 (Jvm.Cond.code own_m0 prog_40_method_6_code 1 (some .boolean) :: ws) ({ frames := 0, cells := 0, slots := 0, locals := 0 } : Room)) (fun a U => a = #[(.ref (A 13))] ∧ Z.Warmed39 U.vm ∧ U.heap = h0) (fun _ _ _ _ _ => True) (fun _ U o U' => ∃ v L, o = .returned v ∧ (PQ (some (.int (1 : Int32))) h0 n0) v U'.heap L ∧ FrameEnd U o U' L ({ frames := 0, cells := 0, slots := 0, locals := 0 } : Room).cells ({ frames := 0, cells := 0, slots := 0, locals := 0 } : Room).slots) := by
  refine MetFree.of_bodySF (plainFor_of_name own_pn1) hisR ?_
  intro p e s m args below meth c s₁ Bd hml0 hP hK
  obtain ⟨rfl, hZ, hh⟩ := hP
  have hx := Bd.exec
  have hby := Bd.bytes
  have hml : c.maxLocals = 1 := hml0
  have hown : s.vm.findClass "com/example/tallywire/tallywire/wire/FieldType" = some m.cls := findClass_of_methodNamed Bd.named
  have hnm := (name_of_methodNamed Bd.named Bd.method).1
  have X0 : Stand p l e ({ frames := 0, cells := 0, slots := 0, locals := 0 } : Room) s m #[(.ref (A 13))] below meth c s₁ [] 0 0 := Stand.of_body Bd
  have e0 : s₁.heap = h0 := by rw [← hh, Bd.state]; rfl
  have N0 := Fr.nil n0
  have pre0 : ∀ t, Steps p.tables e below (s₁.setTop (mkF m 0 #[.val (.ref (A 13))] [])) t → Steps p.tables e below (s₁.setTop (entryFrame m #[(.ref (A 13))] 1)) t := fun t k => castTop (own_ef_rm14 m p1 p2 p3 A K cs ) k
  have KK0 : Keep h0 h0 [] := Keep.refl _ _
  obtain ⟨T156, X156, e156, st156⟩ := getS2 X0 hx hZ hown (host := "") (Or.inl (hw _ (List.mem_of_getElem? (i := 66) rfl))) Via.refl e0 (EN.2.2.2.1.2.2.1.ext OL0.2) (g := (mkF m 1 #[.val (.ref (A 13))] [(.ref (A 13))])) rfl (hb hby own_d_prog_40_method_6_code_1)
  obtain ⟨fs, hr, hrun, hended, hW, hsame⟩ := X156.leave (v := some (.int (1 : Int32))) (fun h => by rw [Bd.returns] at h; cases h)
  refine ⟨_, _, pre0 _ ?_, hrun, hended, _, _, rfl, ?_, ⟨_, rfl⟩, hW, hsame.mono (by decide) (by decide)⟩
  · show Steps p.tables e below (s₁.setTop (mkF m 0 #[.val (.ref (A 13))] [])) _
    refine XS.aloadN X0.here hx rfl (hb hby own_d_prog_40_method_6_code_0) rfl rfl ?_
    refine st156 _ ?_
    show Steps p.tables e below (T156.setTop (mkF m 4 #[.val (.ref (A 13))] [(.ref (A 13)), (.ref (A 13))])) _
    refine Jvm.RoadKit.acmp (g := (mkF m 4 #[.val (.ref (A 13))] [(.ref (A 13)), (.ref (A 13))])) X156 hx rfl rfl rfl (pc0 := 4) (pc' := 21) (same := true) rfl (hb hby own_d_prog_40_method_6_code_4) rfl (decide_eq_true rfl) (by decide) (by decide) ?_
    show Steps p.tables e below (T156.setTop (mkF m 21 #[.val (.ref (A 13))] [])) _
    refine XS.iconst X156.here hx rfl (hb hby own_d_prog_40_method_6_code_21) ?_
    refine XS.goto X156.here hx rfl (pc0 := 22) (pc' := 26) rfl (hb hby own_d_prog_40_method_6_code_22) (by decide) (by decide) ?_
    exact retN X156 hx (t := .boolean) Bd.returns (by simp) (hb hby own_d_prog_40_method_6_code_26) hr
  · show PQ (some (.int (1 : Int32))) h0 n0 _ T156.heap _
    rw [e156]
    exact ⟨rfl, N0, rfl⟩
def Q_rm18 (Z : State) (p1 : Int32) (p2 : Int32) (p3 : Int32) (A : Nat → Addr) (K : Nat → ClassId) (cs : Int32) (b158 : Addr) (b172 : Addr) (k158 : ClassId) (k172 : ClassId) (h0 : Heap) (n0 : Nat) (v : Option Value) (h : Heap) (L : List Loc) : Prop := v = (some (.int (3 : Int32))) ∧ Fr n0 L ∧ Keep h0 h [b172] ∧ (Arv Z h b172 k172 .byte (3 : Int32) [(.int (nar .byte ((nar .char (own_C p2)).toInt8.toInt32))), (.int (32 : Int32)), (.int (nar .byte ((nar .char (own_C p3)).toInt8.toInt32)))] (.int (0 : Int32)))
theorem own_d_jdk_52_method_21_code_0 : decode jdk_52_method_21_code 0 = .ok (.iconst 0, 1) := by decide +kernel
theorem own_d_jdk_52_method_21_code_1 : decode jdk_52_method_21_code 1 = .ok (.istore 5, 2) := by decide +kernel
theorem own_d_jdk_52_method_21_code_3 : decode jdk_52_method_21_code 3 = .ok (.iload 5, 2) := by decide +kernel
theorem own_d_jdk_52_method_21_code_5 : decode jdk_52_method_21_code 5 = .ok (.iload 4, 2) := by decide +kernel
theorem own_d_jdk_52_method_21_code_7 : decode jdk_52_method_21_code 7 = .ok (.if_icmp .ge 37, 3) := by decide +kernel
theorem own_d_jdk_52_method_21_code_10 : decode jdk_52_method_21_code 10 = .ok (.aload_n 0, 1) := by decide +kernel
theorem own_d_jdk_52_method_21_code_11 : decode jdk_52_method_21_code 11 = .ok (.iload_n 1, 1) := by decide +kernel
theorem own_d_jdk_52_method_21_code_12 : decode jdk_52_method_21_code 12 = .ok (.caload, 1) := by decide +kernel
theorem own_d_jdk_52_method_21_code_13 : decode jdk_52_method_21_code 13 = .ok (.istore 6, 2) := by decide +kernel
theorem own_d_jdk_52_method_21_code_15 : decode jdk_52_method_21_code 15 = .ok (.iload 6, 2) := by decide +kernel
theorem own_d_jdk_52_method_21_code_17 : decode jdk_52_method_21_code 17 = .ok (.sipush 255, 3) := by decide +kernel
theorem own_d_jdk_52_method_21_code_20 : decode jdk_52_method_21_code 20 = .ok (.if_icmp .le 6, 3) := by decide +kernel
theorem own_d_jdk_52_method_21_code_26 : decode jdk_52_method_21_code 26 = .ok (.aload_n 2, 1) := by decide +kernel
theorem own_d_jdk_52_method_21_code_27 : decode jdk_52_method_21_code 27 = .ok (.iload_n 3, 1) := by decide +kernel
theorem own_d_jdk_52_method_21_code_28 : decode jdk_52_method_21_code 28 = .ok (.iload 6, 2) := by decide +kernel
theorem own_d_jdk_52_method_21_code_30 : decode jdk_52_method_21_code 30 = .ok (.i2b, 1) := by decide +kernel
theorem own_d_jdk_52_method_21_code_31 : decode jdk_52_method_21_code 31 = .ok (.bastore, 1) := by decide +kernel
theorem own_d_jdk_52_method_21_code_32 : decode jdk_52_method_21_code 32 = .ok (.iinc 1 1, 3) := by decide +kernel
theorem own_d_jdk_52_method_21_code_35 : decode jdk_52_method_21_code 35 = .ok (.iinc 3 1, 3) := by decide +kernel
theorem own_d_jdk_52_method_21_code_38 : decode jdk_52_method_21_code 38 = .ok (.iinc 5 1, 3) := by decide +kernel
theorem own_d_jdk_52_method_21_code_41 : decode jdk_52_method_21_code 41 = .ok (.goto (-38), 3) := by decide +kernel
theorem own_d_jdk_52_method_21_code_44 : decode jdk_52_method_21_code 44 = .ok (.iload 4, 2) := by decide +kernel
theorem own_d_jdk_52_method_21_code_46 : decode jdk_52_method_21_code 46 = .ok (.ireturn, 1) := by decide +kernel
theorem own_pn2 : plainName "java/lang/StringUTF16" = true := by first | (simp [plainName, overriddenIn]; done) | decide +kernel
theorem own_ef_rm18 (m : MethodId) (p1 : Int32) (p2 : Int32) (p3 : Int32) (A : Nat → Addr) (K : Nat → ClassId) (cs : Int32)  (b158 : Addr) (b172 : Addr) (k158 : ClassId) (k172 : ClassId) : entryFrame m #[(.ref b158), (.int (0 : Int32)), (.ref b172), (.int (0 : Int32)), (.int (3 : Int32))] 7 = mkF m 0 #[.val (.ref b158), .val (.int (0 : Int32)), .val (.ref b172), .val (.int (0 : Int32)), .val (.int (3 : Int32)), .unset, .unset] [] := by first | (simp [entryFrame, mkF, argsToLocals, Value.category, maxLocals]; done) | rfl
set_option maxRecDepth 65536 in
set_option maxHeartbeats 40000000 in
theorem rm18 (l : Launch) (Z : State) (a0 : Array Value) (hw : ∀ d ∈ tables_1, d.before a0 Z = true) (ws : List Jvm.Cond) (h0 : Heap) (n0 : Nat) (p1 : Int32) (p2 : Int32) (p3 : Int32) (A : Nat → Addr) (K : Nat → ClassId) (cs : Int32)  (b158 : Addr) (b172 : Addr) (k158 : ClassId) (k172 : ClassId) (EN : own_St Z A K cs) (OL0 : Old Z n0 h0) (G_A_b158 : Arv Z h0 b158 k158 .char (3 : Int32) [(.int (nar .char (own_C p2))), (.int (32 : Int32)), (.int (nar .char (own_C p3)))] (.int (0 : Int32))) (G_A_b172 : Arv Z h0 b172 k172 .byte (3 : Int32) [] (.int (0 : Int32))) (ne_b158_b172 : b158 ≠ b172) (gn_b172 : n0 ≤ b172) :
    MetFree l own_m13 (head1 (Jvm.Cond.code own_m13 jdk_52_method_21_code 7 (some .int) :: ws) ({ frames := 0, cells := 0, slots := 0, locals := 0 } : Room)) (fun a U => a = #[(.ref b158), (.int (0 : Int32)), (.ref b172), (.int (0 : Int32)), (.int (3 : Int32))] ∧ Z.Warmed39 U.vm ∧ U.heap = h0) (fun _ _ _ _ _ => True) (fun _ U o U' => ∃ v L, o = .returned v ∧ Q_rm18 Z p1 p2 p3 A K cs b158 b172 k158 k172 h0 n0 v U'.heap L ∧ FrameEnd U o U' L ({ frames := 0, cells := 0, slots := 0, locals := 0 } : Room).cells ({ frames := 0, cells := 0, slots := 0, locals := 0 } : Room).slots) := by
  refine MetFree.of_bodySF (plainFor_of_name own_pn2) hisR ?_
  intro p e s m args below meth c s₁ Bd hml0 hP hK
  obtain ⟨rfl, hZ, hh⟩ := hP
  have hx := Bd.exec
  have hby := Bd.bytes
  have hml : c.maxLocals = 7 := hml0
  have hown : s.vm.findClass "java/lang/StringUTF16" = some m.cls := findClass_of_methodNamed Bd.named
  have hnm := (name_of_methodNamed Bd.named Bd.method).1
  have X0 : Stand p l e ({ frames := 0, cells := 0, slots := 0, locals := 0 } : Room) s m #[(.ref b158), (.int (0 : Int32)), (.ref b172), (.int (0 : Int32)), (.int (3 : Int32))] below meth c s₁ [] 0 0 := Stand.of_body Bd
  have e0 : s₁.heap = h0 := by rw [← hh, Bd.state]; rfl
  have N0 := Fr.nil n0
  have pre0 : ∀ t, Steps p.tables e below (s₁.setTop (mkF m 0 #[.val (.ref b158), .val (.int (0 : Int32)), .val (.ref b172), .val (.int (0 : Int32)), .val (.int (3 : Int32)), .unset, .unset] [])) t → Steps p.tables e below (s₁.setTop (entryFrame m #[(.ref b158), (.int (0 : Int32)), (.ref b172), (.int (0 : Int32)), (.int (3 : Int32))] 7)) t := fun t k => castTop (own_ef_rm18 m p1 p2 p3 A K cs b158 b172 k158 k172) k
  have KK0 : Keep h0 h0 [b172] := Keep.refl _ _
  obtain ⟨cl173, Ar173, q173, Sz173, Nn173, Hh173, Gg173⟩ := (id G_A_b158)
  have hin173 : ¬ ((0 : Int32) < 0 ∨ cl173.slots.size ≤ ((0 : Int32)).toNatClampNeg) := inb_of Sz173 ⟨by decide, by decide⟩
  have hat173 : cl173.slots[((0 : Int32)).toNatClampNeg]? = some (.int (nar .char (own_C p2))) := Has.at Hh173 hin173 rfl
  obtain ⟨cl174, Ar174, q174, Sz174, Nn174, Hh174, Gg174⟩ := (id (Arv.pad G_A_b172 (pad_rep [] (.int (0 : Int32)) 1)))
  have hin174 : ¬ ((0 : Int32) < 0 ∨ cl174.slots.size ≤ ((0 : Int32)).toNatClampNeg) := inb_of Sz174 ⟨by decide, by decide⟩
  obtain ⟨T175, h175, X175, e175, W175, st175⟩ := stB X0 hx hZ e0 Ar174 (j := (0 : Int32)) hin174 (g := (mkF m 31 #[.val (.ref b158), .val (.int (0 : Int32)), .val (.ref b172), .val (.int (0 : Int32)), .val (.int (3 : Int32)), .val (.int (0 : Int32)), .val (.int (nar .char (own_C p2)))] [(.int ((nar .char (own_C p2)).toInt8.toInt32)), (.int (0 : Int32)), (.ref b172)])) rfl rfl (hb hby own_d_jdk_52_method_21_code_31)
  have NF175 := Fr.snoc X175 N0 gn_b172
  have OL175 : Old Z n0 h175 := OL0.wr W175 gn_b172
  have KK175 : Keep h0 h175 [b172] := KK0.wr W175 (Or.inl (List.mem_of_getElem? (i := 0) rfl))
  have V175 : Arv Z h175 b172 k172 .byte (3 : Int32) [(.int (nar .byte ((nar .char (own_C p2)).toInt8.toInt32)))] (.int (0 : Int32)) := Arv.set Ar174 q174 Sz174 Nn174 Hh174 Gg174 (fits_nar_byte _) W175 0 (by decide) (by decide : 0 < 1)
  have fx176 : Arv Z h175 b158 k158 .char (3 : Int32) [(.int (nar .char (own_C p2))), (.int (32 : Int32)), (.int (nar .char (own_C p3)))] (.int (0 : Int32)) := (G_A_b158.other W175 ne_b158_b172)
  obtain ⟨cl177, Ar177, q177, Sz177, Nn177, Hh177, Gg177⟩ := (id fx176)
  have hin177 : ¬ ((1 : Int32) < 0 ∨ cl177.slots.size ≤ ((1 : Int32)).toNatClampNeg) := inb_of Sz177 ⟨by decide, by decide⟩
  have hat177 : cl177.slots[((1 : Int32)).toNatClampNeg]? = some (.int (32 : Int32)) := Has.at Hh177 hin177 rfl
  obtain ⟨cl178, Ar178, q178, Sz178, Nn178, Hh178, Gg178⟩ := (id (Arv.pad V175 (pad_rep [(.int (nar .byte ((nar .char (own_C p2)).toInt8.toInt32)))] (.int (0 : Int32)) 1)))
  have hin178 : ¬ ((1 : Int32) < 0 ∨ cl178.slots.size ≤ ((1 : Int32)).toNatClampNeg) := inb_of Sz178 ⟨by decide, by decide⟩
  obtain ⟨T179, h179, X179, e179, W179, st179⟩ := stB X175 hx hZ e175 Ar178 (j := (1 : Int32)) hin178 (g := (mkF m 31 #[.val (.ref b158), .val (.int (1 : Int32)), .val (.ref b172), .val (.int (1 : Int32)), .val (.int (3 : Int32)), .val (.int (1 : Int32)), .val (.int (32 : Int32))] [(.int (32 : Int32)), (.int (1 : Int32)), (.ref b172)])) rfl rfl (hb hby own_d_jdk_52_method_21_code_31)
  have NF179 := Fr.snoc X179 NF175 gn_b172
  have OL179 : Old Z n0 h179 := OL175.wr W179 gn_b172
  have KK179 : Keep h0 h179 [b172] := KK175.wr W179 (Or.inl (List.mem_of_getElem? (i := 0) rfl))
  have V179 : Arv Z h179 b172 k172 .byte (3 : Int32) [(.int (nar .byte ((nar .char (own_C p2)).toInt8.toInt32))), (.int (32 : Int32))] (.int (0 : Int32)) := Arv.set Ar178 q178 Sz178 Nn178 Hh178 Gg178 (fits_nar_byte _) W179 1 (by decide) (by decide : 1 < 2)
  have fx180 : Arv Z h179 b158 k158 .char (3 : Int32) [(.int (nar .char (own_C p2))), (.int (32 : Int32)), (.int (nar .char (own_C p3)))] (.int (0 : Int32)) := (fx176.other W179 ne_b158_b172)
  obtain ⟨cl181, Ar181, q181, Sz181, Nn181, Hh181, Gg181⟩ := (id fx180)
  have hin181 : ¬ ((2 : Int32) < 0 ∨ cl181.slots.size ≤ ((2 : Int32)).toNatClampNeg) := inb_of Sz181 ⟨by decide, by decide⟩
  have hat181 : cl181.slots[((2 : Int32)).toNatClampNeg]? = some (.int (nar .char (own_C p3))) := Has.at Hh181 hin181 rfl
  obtain ⟨cl182, Ar182, q182, Sz182, Nn182, Hh182, Gg182⟩ := (id (Arv.pad V179 (pad_rep [(.int (nar .byte ((nar .char (own_C p2)).toInt8.toInt32))), (.int (32 : Int32))] (.int (0 : Int32)) 1)))
  have hin182 : ¬ ((2 : Int32) < 0 ∨ cl182.slots.size ≤ ((2 : Int32)).toNatClampNeg) := inb_of Sz182 ⟨by decide, by decide⟩
  obtain ⟨T183, h183, X183, e183, W183, st183⟩ := stB X179 hx hZ e179 Ar182 (j := (2 : Int32)) hin182 (g := (mkF m 31 #[.val (.ref b158), .val (.int (2 : Int32)), .val (.ref b172), .val (.int (2 : Int32)), .val (.int (3 : Int32)), .val (.int (2 : Int32)), .val (.int (nar .char (own_C p3)))] [(.int ((nar .char (own_C p3)).toInt8.toInt32)), (.int (2 : Int32)), (.ref b172)])) rfl rfl (hb hby own_d_jdk_52_method_21_code_31)
  have NF183 := Fr.snoc X183 NF179 gn_b172
  have OL183 : Old Z n0 h183 := OL179.wr W183 gn_b172
  have KK183 : Keep h0 h183 [b172] := KK179.wr W183 (Or.inl (List.mem_of_getElem? (i := 0) rfl))
  have V183 : Arv Z h183 b172 k172 .byte (3 : Int32) [(.int (nar .byte ((nar .char (own_C p2)).toInt8.toInt32))), (.int (32 : Int32)), (.int (nar .byte ((nar .char (own_C p3)).toInt8.toInt32)))] (.int (0 : Int32)) := Arv.set Ar182 q182 Sz182 Nn182 Hh182 Gg182 (fits_nar_byte _) W183 2 (by decide) (by decide : 2 < 3)
  obtain ⟨fs, hr, hrun, hended, hW, hsame⟩ := X183.leave (v := some (.int (3 : Int32))) (fun h => by rw [Bd.returns] at h; cases h)
  refine ⟨_, _, pre0 _ ?_, hrun, hended, _, _, rfl, ?_, ⟨_, rfl⟩, hW, hsame.mono (by decide) (by decide)⟩
  · show Steps p.tables e below (s₁.setTop (mkF m 0 #[.val (.ref b158), .val (.int (0 : Int32)), .val (.ref b172), .val (.int (0 : Int32)), .val (.int (3 : Int32)), .unset, .unset] [])) _
    refine XS.iconst X0.here hx rfl (hb hby own_d_jdk_52_method_21_code_0) ?_
    refine XS.istore X0.here hx rfl (hb hby own_d_jdk_52_method_21_code_1) rfl (l' := #[.val (.ref b158), .val (.int (0 : Int32)), .val (.ref b172), .val (.int (0 : Int32)), .val (.int (3 : Int32)), .val (.int (0 : Int32)), .unset]) rfl ?_
    refine XS.iload X0.here hx rfl (hb hby own_d_jdk_52_method_21_code_3) rfl ?_
    show Steps p.tables e below (s₁.setTop (mkF m 5 #[.val (.ref b158), .val (.int (0 : Int32)), .val (.ref b172), .val (.int (0 : Int32)), .val (.int (3 : Int32)), .val (.int (0 : Int32)), .unset] [(.int (0 : Int32))])) _
    refine XS.iload X0.here hx rfl (hb hby own_d_jdk_52_method_21_code_5) rfl ?_
    refine XS.icmpNo X0.here hx rfl (hb hby own_d_jdk_52_method_21_code_7) rfl (tlt (by decide : (0 : Int32) < (3 : Int32))).2.1 ?_
    show Steps p.tables e below (s₁.setTop (mkF m 10 #[.val (.ref b158), .val (.int (0 : Int32)), .val (.ref b172), .val (.int (0 : Int32)), .val (.int (3 : Int32)), .val (.int (0 : Int32)), .unset] [])) _
    refine XS.aloadN X0.here hx rfl (hb hby own_d_jdk_52_method_21_code_10) rfl rfl ?_
    refine XS.iloadN X0.here hx rfl (hb hby own_d_jdk_52_method_21_code_11) rfl ?_
    refine X0.caload hx (j := (0 : Int32)) (v := (.int (nar .char (own_C p2)))) (by rw [e0]; exact Ar173.1) (State.isArrayOf_alike hZ.alike Ar173.2.1) Ar173.2.2 hin173 hat173 (g := (mkF m 12 #[.val (.ref b158), .val (.int (0 : Int32)), .val (.ref b172), .val (.int (0 : Int32)), .val (.int (3 : Int32)), .val (.int (0 : Int32)), .unset] [(.int (0 : Int32)), (.ref b158)])) rfl rfl (hb hby own_d_jdk_52_method_21_code_12) _ ?_
    show Steps p.tables e below (s₁.setTop (mkF m 13 #[.val (.ref b158), .val (.int (0 : Int32)), .val (.ref b172), .val (.int (0 : Int32)), .val (.int (3 : Int32)), .val (.int (0 : Int32)), .unset] [(.int (nar .char (own_C p2)))])) _
    refine XS.istore X0.here hx rfl (hb hby own_d_jdk_52_method_21_code_13) rfl (l' := #[.val (.ref b158), .val (.int (0 : Int32)), .val (.ref b172), .val (.int (0 : Int32)), .val (.int (3 : Int32)), .val (.int (0 : Int32)), .val (.int (nar .char (own_C p2)))]) rfl ?_
    refine XS.iload X0.here hx rfl (hb hby own_d_jdk_52_method_21_code_15) rfl ?_
    refine XS.sipush X0.here hx rfl (hb hby own_d_jdk_52_method_21_code_17) ?_
    show Steps p.tables e below (s₁.setTop (mkF m 20 #[.val (.ref b158), .val (.int (0 : Int32)), .val (.ref b172), .val (.int (0 : Int32)), .val (.int (3 : Int32)), .val (.int (0 : Int32)), .val (.int (nar .char (own_C p2)))] [(.int (255 : Int32)), (.int (nar .char (own_C p2)))])) _
    refine XS.icmpYes X0.here hx rfl (pc0 := 20) (pc' := 26) rfl (hb hby own_d_jdk_52_method_21_code_20) rfl (flt (own_c255 p2)).2.2.2 (by decide) (by decide) ?_
    show Steps p.tables e below (s₁.setTop (mkF m 26 #[.val (.ref b158), .val (.int (0 : Int32)), .val (.ref b172), .val (.int (0 : Int32)), .val (.int (3 : Int32)), .val (.int (0 : Int32)), .val (.int (nar .char (own_C p2)))] [])) _
    refine XS.aloadN X0.here hx rfl (hb hby own_d_jdk_52_method_21_code_26) rfl rfl ?_
    refine XS.iloadN X0.here hx rfl (hb hby own_d_jdk_52_method_21_code_27) rfl ?_
    refine XS.iload X0.here hx rfl (hb hby own_d_jdk_52_method_21_code_28) rfl ?_
    show Steps p.tables e below (s₁.setTop (mkF m 30 #[.val (.ref b158), .val (.int (0 : Int32)), .val (.ref b172), .val (.int (0 : Int32)), .val (.int (3 : Int32)), .val (.int (0 : Int32)), .val (.int (nar .char (own_C p2)))] [(.int (nar .char (own_C p2))), (.int (0 : Int32)), (.ref b172)])) _
    refine XS.i2b X0.here hx rfl (hb hby own_d_jdk_52_method_21_code_30) rfl ?_
    show Steps p.tables e below (s₁.setTop (mkF m 31 #[.val (.ref b158), .val (.int (0 : Int32)), .val (.ref b172), .val (.int (0 : Int32)), .val (.int (3 : Int32)), .val (.int (0 : Int32)), .val (.int (nar .char (own_C p2)))] [(.int ((nar .char (own_C p2)).toInt8.toInt32)), (.int (0 : Int32)), (.ref b172)])) _
    refine st175 _ ?_
    show Steps p.tables e below (T175.setTop (mkF m 32 #[.val (.ref b158), .val (.int (0 : Int32)), .val (.ref b172), .val (.int (0 : Int32)), .val (.int (3 : Int32)), .val (.int (0 : Int32)), .val (.int (nar .char (own_C p2)))] [])) _
    refine XS.iinc X175.here hx rfl (hb hby own_d_jdk_52_method_21_code_32) rfl (l' := #[.val (.ref b158), .val (.int (1 : Int32)), .val (.ref b172), .val (.int (0 : Int32)), .val (.int (3 : Int32)), .val (.int (0 : Int32)), .val (.int (nar .char (own_C p2)))]) rfl ?_
    show Steps p.tables e below (T175.setTop (mkF m 35 #[.val (.ref b158), .val (.int (1 : Int32)), .val (.ref b172), .val (.int (0 : Int32)), .val (.int (3 : Int32)), .val (.int (0 : Int32)), .val (.int (nar .char (own_C p2)))] [])) _
    refine XS.iinc X175.here hx rfl (hb hby own_d_jdk_52_method_21_code_35) rfl (l' := #[.val (.ref b158), .val (.int (1 : Int32)), .val (.ref b172), .val (.int (1 : Int32)), .val (.int (3 : Int32)), .val (.int (0 : Int32)), .val (.int (nar .char (own_C p2)))]) rfl ?_
    show Steps p.tables e below (T175.setTop (mkF m 38 #[.val (.ref b158), .val (.int (1 : Int32)), .val (.ref b172), .val (.int (1 : Int32)), .val (.int (3 : Int32)), .val (.int (0 : Int32)), .val (.int (nar .char (own_C p2)))] [])) _
    refine XS.iinc X175.here hx rfl (hb hby own_d_jdk_52_method_21_code_38) rfl (l' := #[.val (.ref b158), .val (.int (1 : Int32)), .val (.ref b172), .val (.int (1 : Int32)), .val (.int (3 : Int32)), .val (.int (1 : Int32)), .val (.int (nar .char (own_C p2)))]) rfl ?_
    show Steps p.tables e below (T175.setTop (mkF m 41 #[.val (.ref b158), .val (.int (1 : Int32)), .val (.ref b172), .val (.int (1 : Int32)), .val (.int (3 : Int32)), .val (.int (1 : Int32)), .val (.int (nar .char (own_C p2)))] [])) _
    refine XS.goto X175.here hx rfl (pc0 := 41) (pc' := 3) rfl (hb hby own_d_jdk_52_method_21_code_41) (by decide) (by decide) ?_
    refine XS.iload X175.here hx rfl (hb hby own_d_jdk_52_method_21_code_3) rfl ?_
    refine XS.iload X175.here hx rfl (hb hby own_d_jdk_52_method_21_code_5) rfl ?_
    show Steps p.tables e below (T175.setTop (mkF m 7 #[.val (.ref b158), .val (.int (1 : Int32)), .val (.ref b172), .val (.int (1 : Int32)), .val (.int (3 : Int32)), .val (.int (1 : Int32)), .val (.int (nar .char (own_C p2)))] [(.int (3 : Int32)), (.int (1 : Int32))])) _
    refine XS.icmpNo X175.here hx rfl (hb hby own_d_jdk_52_method_21_code_7) rfl (tlt (by decide : (1 : Int32) < (3 : Int32))).2.1 ?_
    show Steps p.tables e below (T175.setTop (mkF m 10 #[.val (.ref b158), .val (.int (1 : Int32)), .val (.ref b172), .val (.int (1 : Int32)), .val (.int (3 : Int32)), .val (.int (1 : Int32)), .val (.int (nar .char (own_C p2)))] [])) _
    refine XS.aloadN X175.here hx rfl (hb hby own_d_jdk_52_method_21_code_10) rfl rfl ?_
    refine XS.iloadN X175.here hx rfl (hb hby own_d_jdk_52_method_21_code_11) rfl ?_
    refine X175.caload hx (j := (1 : Int32)) (v := (.int (32 : Int32))) (by rw [e175]; exact Ar177.1) (State.isArrayOf_alike hZ.alike Ar177.2.1) Ar177.2.2 hin177 hat177 (g := (mkF m 12 #[.val (.ref b158), .val (.int (1 : Int32)), .val (.ref b172), .val (.int (1 : Int32)), .val (.int (3 : Int32)), .val (.int (1 : Int32)), .val (.int (nar .char (own_C p2)))] [(.int (1 : Int32)), (.ref b158)])) rfl rfl (hb hby own_d_jdk_52_method_21_code_12) _ ?_
    show Steps p.tables e below (T175.setTop (mkF m 13 #[.val (.ref b158), .val (.int (1 : Int32)), .val (.ref b172), .val (.int (1 : Int32)), .val (.int (3 : Int32)), .val (.int (1 : Int32)), .val (.int (nar .char (own_C p2)))] [(.int (32 : Int32))])) _
    refine XS.istore X175.here hx rfl (hb hby own_d_jdk_52_method_21_code_13) rfl (l' := #[.val (.ref b158), .val (.int (1 : Int32)), .val (.ref b172), .val (.int (1 : Int32)), .val (.int (3 : Int32)), .val (.int (1 : Int32)), .val (.int (32 : Int32))]) rfl ?_
    refine XS.iload X175.here hx rfl (hb hby own_d_jdk_52_method_21_code_15) rfl ?_
    refine XS.sipush X175.here hx rfl (hb hby own_d_jdk_52_method_21_code_17) ?_
    show Steps p.tables e below (T175.setTop (mkF m 20 #[.val (.ref b158), .val (.int (1 : Int32)), .val (.ref b172), .val (.int (1 : Int32)), .val (.int (3 : Int32)), .val (.int (1 : Int32)), .val (.int (32 : Int32))] [(.int (255 : Int32)), (.int (32 : Int32))])) _
    refine XS.icmpYes X175.here hx rfl (pc0 := 20) (pc' := 26) rfl (hb hby own_d_jdk_52_method_21_code_20) rfl (flt (by decide : ¬ ((255 : Int32) < (32 : Int32)))).2.2.2 (by decide) (by decide) ?_
    show Steps p.tables e below (T175.setTop (mkF m 26 #[.val (.ref b158), .val (.int (1 : Int32)), .val (.ref b172), .val (.int (1 : Int32)), .val (.int (3 : Int32)), .val (.int (1 : Int32)), .val (.int (32 : Int32))] [])) _
    refine XS.aloadN X175.here hx rfl (hb hby own_d_jdk_52_method_21_code_26) rfl rfl ?_
    refine XS.iloadN X175.here hx rfl (hb hby own_d_jdk_52_method_21_code_27) rfl ?_
    refine XS.iload X175.here hx rfl (hb hby own_d_jdk_52_method_21_code_28) rfl ?_
    show Steps p.tables e below (T175.setTop (mkF m 30 #[.val (.ref b158), .val (.int (1 : Int32)), .val (.ref b172), .val (.int (1 : Int32)), .val (.int (3 : Int32)), .val (.int (1 : Int32)), .val (.int (32 : Int32))] [(.int (32 : Int32)), (.int (1 : Int32)), (.ref b172)])) _
    refine XS.i2b X175.here hx rfl (hb hby own_d_jdk_52_method_21_code_30) rfl ?_
    show Steps p.tables e below (T175.setTop (mkF m 31 #[.val (.ref b158), .val (.int (1 : Int32)), .val (.ref b172), .val (.int (1 : Int32)), .val (.int (3 : Int32)), .val (.int (1 : Int32)), .val (.int (32 : Int32))] [(.int (32 : Int32)), (.int (1 : Int32)), (.ref b172)])) _
    refine st179 _ ?_
    show Steps p.tables e below (T179.setTop (mkF m 32 #[.val (.ref b158), .val (.int (1 : Int32)), .val (.ref b172), .val (.int (1 : Int32)), .val (.int (3 : Int32)), .val (.int (1 : Int32)), .val (.int (32 : Int32))] [])) _
    refine XS.iinc X179.here hx rfl (hb hby own_d_jdk_52_method_21_code_32) rfl (l' := #[.val (.ref b158), .val (.int (2 : Int32)), .val (.ref b172), .val (.int (1 : Int32)), .val (.int (3 : Int32)), .val (.int (1 : Int32)), .val (.int (32 : Int32))]) rfl ?_
    show Steps p.tables e below (T179.setTop (mkF m 35 #[.val (.ref b158), .val (.int (2 : Int32)), .val (.ref b172), .val (.int (1 : Int32)), .val (.int (3 : Int32)), .val (.int (1 : Int32)), .val (.int (32 : Int32))] [])) _
    refine XS.iinc X179.here hx rfl (hb hby own_d_jdk_52_method_21_code_35) rfl (l' := #[.val (.ref b158), .val (.int (2 : Int32)), .val (.ref b172), .val (.int (2 : Int32)), .val (.int (3 : Int32)), .val (.int (1 : Int32)), .val (.int (32 : Int32))]) rfl ?_
    show Steps p.tables e below (T179.setTop (mkF m 38 #[.val (.ref b158), .val (.int (2 : Int32)), .val (.ref b172), .val (.int (2 : Int32)), .val (.int (3 : Int32)), .val (.int (1 : Int32)), .val (.int (32 : Int32))] [])) _
    refine XS.iinc X179.here hx rfl (hb hby own_d_jdk_52_method_21_code_38) rfl (l' := #[.val (.ref b158), .val (.int (2 : Int32)), .val (.ref b172), .val (.int (2 : Int32)), .val (.int (3 : Int32)), .val (.int (2 : Int32)), .val (.int (32 : Int32))]) rfl ?_
    show Steps p.tables e below (T179.setTop (mkF m 41 #[.val (.ref b158), .val (.int (2 : Int32)), .val (.ref b172), .val (.int (2 : Int32)), .val (.int (3 : Int32)), .val (.int (2 : Int32)), .val (.int (32 : Int32))] [])) _
    refine XS.goto X179.here hx rfl (pc0 := 41) (pc' := 3) rfl (hb hby own_d_jdk_52_method_21_code_41) (by decide) (by decide) ?_
    refine XS.iload X179.here hx rfl (hb hby own_d_jdk_52_method_21_code_3) rfl ?_
    refine XS.iload X179.here hx rfl (hb hby own_d_jdk_52_method_21_code_5) rfl ?_
    show Steps p.tables e below (T179.setTop (mkF m 7 #[.val (.ref b158), .val (.int (2 : Int32)), .val (.ref b172), .val (.int (2 : Int32)), .val (.int (3 : Int32)), .val (.int (2 : Int32)), .val (.int (32 : Int32))] [(.int (3 : Int32)), (.int (2 : Int32))])) _
    refine XS.icmpNo X179.here hx rfl (hb hby own_d_jdk_52_method_21_code_7) rfl (tlt (by decide : (2 : Int32) < (3 : Int32))).2.1 ?_
    show Steps p.tables e below (T179.setTop (mkF m 10 #[.val (.ref b158), .val (.int (2 : Int32)), .val (.ref b172), .val (.int (2 : Int32)), .val (.int (3 : Int32)), .val (.int (2 : Int32)), .val (.int (32 : Int32))] [])) _
    refine XS.aloadN X179.here hx rfl (hb hby own_d_jdk_52_method_21_code_10) rfl rfl ?_
    refine XS.iloadN X179.here hx rfl (hb hby own_d_jdk_52_method_21_code_11) rfl ?_
    refine X179.caload hx (j := (2 : Int32)) (v := (.int (nar .char (own_C p3)))) (by rw [e179]; exact Ar181.1) (State.isArrayOf_alike hZ.alike Ar181.2.1) Ar181.2.2 hin181 hat181 (g := (mkF m 12 #[.val (.ref b158), .val (.int (2 : Int32)), .val (.ref b172), .val (.int (2 : Int32)), .val (.int (3 : Int32)), .val (.int (2 : Int32)), .val (.int (32 : Int32))] [(.int (2 : Int32)), (.ref b158)])) rfl rfl (hb hby own_d_jdk_52_method_21_code_12) _ ?_
    show Steps p.tables e below (T179.setTop (mkF m 13 #[.val (.ref b158), .val (.int (2 : Int32)), .val (.ref b172), .val (.int (2 : Int32)), .val (.int (3 : Int32)), .val (.int (2 : Int32)), .val (.int (32 : Int32))] [(.int (nar .char (own_C p3)))])) _
    refine XS.istore X179.here hx rfl (hb hby own_d_jdk_52_method_21_code_13) rfl (l' := #[.val (.ref b158), .val (.int (2 : Int32)), .val (.ref b172), .val (.int (2 : Int32)), .val (.int (3 : Int32)), .val (.int (2 : Int32)), .val (.int (nar .char (own_C p3)))]) rfl ?_
    refine XS.iload X179.here hx rfl (hb hby own_d_jdk_52_method_21_code_15) rfl ?_
    refine XS.sipush X179.here hx rfl (hb hby own_d_jdk_52_method_21_code_17) ?_
    show Steps p.tables e below (T179.setTop (mkF m 20 #[.val (.ref b158), .val (.int (2 : Int32)), .val (.ref b172), .val (.int (2 : Int32)), .val (.int (3 : Int32)), .val (.int (2 : Int32)), .val (.int (nar .char (own_C p3)))] [(.int (255 : Int32)), (.int (nar .char (own_C p3)))])) _
    refine XS.icmpYes X179.here hx rfl (pc0 := 20) (pc' := 26) rfl (hb hby own_d_jdk_52_method_21_code_20) rfl (flt (own_c255 p3)).2.2.2 (by decide) (by decide) ?_
    show Steps p.tables e below (T179.setTop (mkF m 26 #[.val (.ref b158), .val (.int (2 : Int32)), .val (.ref b172), .val (.int (2 : Int32)), .val (.int (3 : Int32)), .val (.int (2 : Int32)), .val (.int (nar .char (own_C p3)))] [])) _
    refine XS.aloadN X179.here hx rfl (hb hby own_d_jdk_52_method_21_code_26) rfl rfl ?_
    refine XS.iloadN X179.here hx rfl (hb hby own_d_jdk_52_method_21_code_27) rfl ?_
    refine XS.iload X179.here hx rfl (hb hby own_d_jdk_52_method_21_code_28) rfl ?_
    show Steps p.tables e below (T179.setTop (mkF m 30 #[.val (.ref b158), .val (.int (2 : Int32)), .val (.ref b172), .val (.int (2 : Int32)), .val (.int (3 : Int32)), .val (.int (2 : Int32)), .val (.int (nar .char (own_C p3)))] [(.int (nar .char (own_C p3))), (.int (2 : Int32)), (.ref b172)])) _
    refine XS.i2b X179.here hx rfl (hb hby own_d_jdk_52_method_21_code_30) rfl ?_
    show Steps p.tables e below (T179.setTop (mkF m 31 #[.val (.ref b158), .val (.int (2 : Int32)), .val (.ref b172), .val (.int (2 : Int32)), .val (.int (3 : Int32)), .val (.int (2 : Int32)), .val (.int (nar .char (own_C p3)))] [(.int ((nar .char (own_C p3)).toInt8.toInt32)), (.int (2 : Int32)), (.ref b172)])) _
    refine st183 _ ?_
    show Steps p.tables e below (T183.setTop (mkF m 32 #[.val (.ref b158), .val (.int (2 : Int32)), .val (.ref b172), .val (.int (2 : Int32)), .val (.int (3 : Int32)), .val (.int (2 : Int32)), .val (.int (nar .char (own_C p3)))] [])) _
    refine XS.iinc X183.here hx rfl (hb hby own_d_jdk_52_method_21_code_32) rfl (l' := #[.val (.ref b158), .val (.int (3 : Int32)), .val (.ref b172), .val (.int (2 : Int32)), .val (.int (3 : Int32)), .val (.int (2 : Int32)), .val (.int (nar .char (own_C p3)))]) rfl ?_
    show Steps p.tables e below (T183.setTop (mkF m 35 #[.val (.ref b158), .val (.int (3 : Int32)), .val (.ref b172), .val (.int (2 : Int32)), .val (.int (3 : Int32)), .val (.int (2 : Int32)), .val (.int (nar .char (own_C p3)))] [])) _
    refine XS.iinc X183.here hx rfl (hb hby own_d_jdk_52_method_21_code_35) rfl (l' := #[.val (.ref b158), .val (.int (3 : Int32)), .val (.ref b172), .val (.int (3 : Int32)), .val (.int (3 : Int32)), .val (.int (2 : Int32)), .val (.int (nar .char (own_C p3)))]) rfl ?_
    show Steps p.tables e below (T183.setTop (mkF m 38 #[.val (.ref b158), .val (.int (3 : Int32)), .val (.ref b172), .val (.int (3 : Int32)), .val (.int (3 : Int32)), .val (.int (2 : Int32)), .val (.int (nar .char (own_C p3)))] [])) _
    refine XS.iinc X183.here hx rfl (hb hby own_d_jdk_52_method_21_code_38) rfl (l' := #[.val (.ref b158), .val (.int (3 : Int32)), .val (.ref b172), .val (.int (3 : Int32)), .val (.int (3 : Int32)), .val (.int (3 : Int32)), .val (.int (nar .char (own_C p3)))]) rfl ?_
    show Steps p.tables e below (T183.setTop (mkF m 41 #[.val (.ref b158), .val (.int (3 : Int32)), .val (.ref b172), .val (.int (3 : Int32)), .val (.int (3 : Int32)), .val (.int (3 : Int32)), .val (.int (nar .char (own_C p3)))] [])) _
    refine XS.goto X183.here hx rfl (pc0 := 41) (pc' := 3) rfl (hb hby own_d_jdk_52_method_21_code_41) (by decide) (by decide) ?_
    refine XS.iload X183.here hx rfl (hb hby own_d_jdk_52_method_21_code_3) rfl ?_
    refine XS.iload X183.here hx rfl (hb hby own_d_jdk_52_method_21_code_5) rfl ?_
    show Steps p.tables e below (T183.setTop (mkF m 7 #[.val (.ref b158), .val (.int (3 : Int32)), .val (.ref b172), .val (.int (3 : Int32)), .val (.int (3 : Int32)), .val (.int (3 : Int32)), .val (.int (nar .char (own_C p3)))] [(.int (3 : Int32)), (.int (3 : Int32))])) _
    refine XS.icmpYes X183.here hx rfl (pc0 := 7) (pc' := 44) rfl (hb hby own_d_jdk_52_method_21_code_7) rfl (flt (by decide : ¬ ((3 : Int32) < (3 : Int32)))).2.1 (by decide) (by decide) ?_
    show Steps p.tables e below (T183.setTop (mkF m 44 #[.val (.ref b158), .val (.int (3 : Int32)), .val (.ref b172), .val (.int (3 : Int32)), .val (.int (3 : Int32)), .val (.int (3 : Int32)), .val (.int (nar .char (own_C p3)))] [])) _
    refine XS.iload X183.here hx rfl (hb hby own_d_jdk_52_method_21_code_44) rfl ?_
    exact retI X183 hx Bd.returns (hb hby own_d_jdk_52_method_21_code_46) hr
  · show Q_rm18 Z p1 p2 p3 A K cs b158 b172 k158 k172 h0 n0 _ T183.heap _
    rw [e183]
    exact ⟨rfl, NF183, KK183, V183⟩
def Q_rm17 (Z : State) (p1 : Int32) (p2 : Int32) (p3 : Int32) (A : Nat → Addr) (K : Nat → ClassId) (cs : Int32) (b3 : Addr) (b158 : Addr) (b167 : Addr) (k158 : ClassId) (k3 : ClassId) (h0 : Heap) (n0 : Nat) (v : Option Value) (h : Heap) (L : List Loc) : Prop := ∃ b172 : Addr, ∃ k172 : ClassId, v = (some (.ref b172)) ∧ Fr n0 L ∧ Keep h0 h [] ∧ (n0 ≤ b172 ∧ h0.size ≤ b172) ∧ (Arv Z h b172 k172 .byte (3 : Int32) [(.int (nar .byte ((nar .char (own_C p2)).toInt8.toInt32))), (.int (32 : Int32)), (.int (nar .byte ((nar .char (own_C p3)).toInt8.toInt32)))] (.int (0 : Int32)))
theorem own_d_jdk_52_method_16_code_0 : decode jdk_52_method_16_code 0 = .ok (.iload_n 2, 1) := by decide +kernel
theorem own_d_jdk_52_method_16_code_1 : decode jdk_52_method_16_code 1 = .ok (.newarray .byte, 2) := by decide +kernel
theorem own_d_jdk_52_method_16_code_3 : decode jdk_52_method_16_code 3 = .ok (.astore_n 3, 1) := by decide +kernel
theorem own_d_jdk_52_method_16_code_4 : decode jdk_52_method_16_code 4 = .ok (.aload_n 0, 1) := by decide +kernel
theorem own_d_jdk_52_method_16_code_5 : decode jdk_52_method_16_code 5 = .ok (.iload_n 1, 1) := by decide +kernel
theorem own_d_jdk_52_method_16_code_6 : decode jdk_52_method_16_code 6 = .ok (.aload_n 3, 1) := by decide +kernel
theorem own_d_jdk_52_method_16_code_7 : decode jdk_52_method_16_code 7 = .ok (.iconst 0, 1) := by decide +kernel
theorem own_d_jdk_52_method_16_code_8 : decode jdk_52_method_16_code 8 = .ok (.iload_n 2, 1) := by decide +kernel
theorem own_d_jdk_52_method_16_code_9 : decode jdk_52_method_16_code 9 = .ok (.invokestatic 115, 3) := by decide +kernel
theorem own_d_jdk_52_method_16_code_12 : decode jdk_52_method_16_code 12 = .ok (.istore 4, 2) := by decide +kernel
theorem own_d_jdk_52_method_16_code_14 : decode jdk_52_method_16_code 14 = .ok (.iload 4, 2) := by decide +kernel
theorem own_d_jdk_52_method_16_code_16 : decode jdk_52_method_16_code 16 = .ok (.iload_n 2, 1) := by decide +kernel
theorem own_d_jdk_52_method_16_code_17 : decode jdk_52_method_16_code 17 = .ok (.if_icmp .eq 40, 3) := by decide +kernel
theorem own_d_jdk_52_method_16_code_57 : decode jdk_52_method_16_code 57 = .ok (.aload_n 3, 1) := by decide +kernel
theorem own_d_jdk_52_method_16_code_58 : decode jdk_52_method_16_code 58 = .ok (.areturn, 1) := by decide +kernel
theorem own_ef_rm17 (m : MethodId) (p1 : Int32) (p2 : Int32) (p3 : Int32) (A : Nat → Addr) (K : Nat → ClassId) (cs : Int32)  (b3 : Addr) (b158 : Addr) (b167 : Addr) (k158 : ClassId) (k3 : ClassId) : entryFrame m #[(.ref b158), (.int (0 : Int32)), (.int (3 : Int32))] 6 = mkF m 0 #[.val (.ref b158), .val (.int (0 : Int32)), .val (.int (3 : Int32)), .unset, .unset, .unset] [] := by first | (simp [entryFrame, mkF, argsToLocals, Value.category, maxLocals]; done) | rfl
set_option maxRecDepth 65536 in
set_option maxHeartbeats 40000000 in
theorem rm17 (l : Launch) (Z : State) (a0 : Array Value) (hw : ∀ d ∈ tables_1, d.before a0 Z = true) (ws : List Jvm.Cond) (h0 : Heap) (n0 : Nat) (p1 : Int32) (p2 : Int32) (p3 : Int32) (A : Nat → Addr) (K : Nat → ClassId) (cs : Int32)  (b3 : Addr) (b158 : Addr) (b167 : Addr) (k158 : ClassId) (k3 : ClassId) (EN : own_St Z A K cs) (OL0 : Old Z n0 h0) (G_A_b3 : Arv Z h0 b3 k3 (.object "com/example/tallywire/tallywire/wire/FieldType") (28 : Int32) [(.ref (A 0)), (.ref (A 1)), (.ref (A 2)), (.ref (A 3)), (.ref (A 4)), (.ref (A 5)), (.ref (A 6)), (.ref (A 7)), (.ref (A 8)), (.ref (A 9)), (.ref (A 10)), (.ref (A 11)), (.ref (A 12)), (.ref (A 13)), (.ref (A 14)), (.ref (A 15)), (.ref (A 16)), (.ref (A 17)), (.ref (A 18)), (.ref (A 19)), (.ref (A 20)), (.ref (A 21)), (.ref (A 22)), (.ref (A 23)), (.ref (A 24)), (.ref (A 25)), (.ref (A 26)), (.ref (A 27))] .null) (G_A_b158 : Arv Z h0 b158 k158 .char (3 : Int32) [(.int (nar .char (own_C p2))), (.int (32 : Int32)), (.int (nar .char (own_C p3)))] (.int (0 : Int32))) (G_E_b167 : Exa Z h0 b167 "java/lang/String") :
    MetFree l own_m5 (head1 (Jvm.Cond.code own_m5 jdk_52_method_16_code 6 (some (.array .byte)) :: ws) ({ frames := 1, cells := 1, slots := 3, locals := 18 } : Room)) (fun a U => a = #[(.ref b158), (.int (0 : Int32)), (.int (3 : Int32))] ∧ Z.Warmed39 U.vm ∧ U.heap = h0) (fun _ _ _ _ _ => True) (fun _ U o U' => ∃ v L, o = .returned v ∧ Q_rm17 Z p1 p2 p3 A K cs b3 b158 b167 k158 k3 h0 n0 v U'.heap L ∧ FrameEnd U o U' L ({ frames := 1, cells := 1, slots := 3, locals := 18 } : Room).cells ({ frames := 1, cells := 1, slots := 3, locals := 18 } : Room).slots) := by
  refine MetFree.of_bodySF (plainFor_of_name own_pn2) hisR ?_
  intro p e s m args below meth c s₁ Bd hml0 hP hK
  obtain ⟨rfl, hZ, hh⟩ := hP
  have hx := Bd.exec
  have hby := Bd.bytes
  have hml : c.maxLocals = 6 := hml0
  have hown : s.vm.findClass "java/lang/StringUTF16" = some m.cls := findClass_of_methodNamed Bd.named
  have hnm := (name_of_methodNamed Bd.named Bd.method).1
  have X0 : Stand p l e ({ frames := 1, cells := 1, slots := 3, locals := 18 } : Room) s m #[(.ref b158), (.int (0 : Int32)), (.int (3 : Int32))] below meth c s₁ [] 0 0 := Stand.of_body Bd
  have e0 : s₁.heap = h0 := by rw [← hh, Bd.state]; rfl
  have N0 := Fr.nil n0
  have pre0 : ∀ t, Steps p.tables e below (s₁.setTop (mkF m 0 #[.val (.ref b158), .val (.int (0 : Int32)), .val (.int (3 : Int32)), .unset, .unset, .unset] [])) t → Steps p.tables e below (s₁.setTop (entryFrame m #[(.ref b158), (.int (0 : Int32)), (.int (3 : Int32))] 6)) t := fun t k => castTop (own_ef_rm17 m p1 p2 p3 A K cs b3 b158 b167 k158 k3) k
  have KK0 : Keep h0 h0 [] := Keep.refl _ _
  obtain ⟨T172, h172, k172, X172, e172, E172, A172, st172⟩ := newP X0 hx hZ (hw _ (List.mem_of_getElem? (i := 92) rfl)) e0 (g := (mkF m 1 #[.val (.ref b158), .val (.int (0 : Int32)), .val (.int (3 : Int32)), .unset, .unset, .unset] [(.int (3 : Int32))])) rfl (hb hby own_d_jdk_52_method_16_code_1) rfl (by decide) (cap := 3) (by decide) (by decide) (by decide) (by decide)
  obtain ⟨b172, g172⟩ : ∃ z, z = h0.size := ⟨_, rfl⟩
  rw [← g172] at A172 st172
  have gn_b172 : n0 ≤ b172 := Nat.le_trans (OL0.1 ▸ OL0.2.1) (Nat.le_of_eq g172.symm)
  have sz_b172 : h0.size ≤ b172 := Nat.le_trans KK0.1 (Nat.le_of_eq g172.symm)
  have lt_b3_b172 : b3 < b172 := Nat.lt_of_lt_of_le G_A_b3.lt (Nat.le_of_eq g172.symm)
  have lt_b158_b172 : b158 < b172 := Nat.lt_of_lt_of_le G_A_b158.lt (Nat.le_of_eq g172.symm)
  have lt_b167_b172 : b167 < b172 := Nat.lt_of_lt_of_le G_E_b167.lt (Nat.le_of_eq g172.symm)
  have OL172 : Old Z n0 h172 := OL0.ext E172
  have KK172 : Keep h0 h172 [] := KK0.ext E172
  have V172 : Arv Z h172 b172 k172 .byte (3 : Int32) [] (.int (0 : Int32)) := Arv.new A172 (by decide)
  have fx184 : Arv Z h172 b158 k158 .char (3 : Int32) [(.int (nar .char (own_C p2))), (.int (32 : Int32)), (.int (nar .char (own_C p3)))] (.int (0 : Int32)) := (G_A_b158.ext E172)
  obtain ⟨_, _, ⟨T185, L185, k185, n185⟩, -, X185, ⟨Lc185, hQ185, l185, y185, z185⟩, st185⟩ := Jvm.LawKit.callS X172 hx (y := own_m13) hown (mvT hZ (hw _ (List.mem_of_getElem? (i := 93) rfl))) (mvT hZ (hw _ (List.mem_of_getElem? (i := 94) rfl))) (mvT hZ (hw _ (List.mem_of_getElem? (i := 90) rfl))) (mvT hZ (hw _ (List.mem_of_getElem? (i := 95) rfl))) (by decide) (backOf (W := 0) (rm18 l Z a0 hw [] h172 n0 p1 p2 p3 A K cs b158 b172 k158 k172 EN OL172 fx184 V172 (Nat.ne_of_lt lt_b158_b172) gn_b172) hZ (hw _ (List.mem_of_getElem? (i := 95) rfl)) (hw _ (List.mem_of_getElem? (i := 90) rfl)) (by decide) (by decide)) (g := (mkF m 9 #[.val (.ref b158), .val (.int (0 : Int32)), .val (.int (3 : Int32)), .val (.ref b172), .unset, .unset] [(.int (3 : Int32)), (.int (0 : Int32)), (.ref b172), (.int (0 : Int32)), (.ref b158)])) rfl (by rw [hml]; rfl) (argsL := [(.ref b158), (.int (0 : Int32)), (.ref b172), (.int (0 : Int32)), (.int (3 : Int32))]) (rest := []) (lenOf own_pd2 rfl) rfl (by show 2 * 0 + _ ≤ _; exact Nat.le_of_eq rfl) (hb hby own_d_jdk_52_method_16_code_9) (fun _ _ => ⟨rfl, e172, (by decide : 1 + 0 ≤ _), (by decide : 3 + 0 ≤ _)⟩)
  dsimp only [Pt.U, Pt.locs, Pt.cells, Pt.slots] at X185 l185 y185 z185 st185 hQ185
  replace X185 := own_sub X185 l185 y185 z185
  obtain ⟨rfl, N185q, K185c, f185_0⟩ := hQ185
  have N185 := Fr.app N0 N185q
  have OL185 : Old Z n0 T185.heap := OL172.keep K185c (allS gn_b172 all0)
  have KK185 : Keep h0 T185.heap [] := KK172.trans K185c (allS (Or.inr sz_b172) all0)
  obtain ⟨fs, hr, hrun, hended, hW, hsame⟩ := X185.leave (v := some (.ref b172)) (fun h => by rw [Bd.returns] at h; cases h)
  refine ⟨_, _, pre0 _ ?_, hrun, hended, _, _, rfl, ?_, ⟨_, rfl⟩, hW, hsame.mono (by decide) (by decide)⟩
  · show Steps p.tables e below (s₁.setTop (mkF m 0 #[.val (.ref b158), .val (.int (0 : Int32)), .val (.int (3 : Int32)), .unset, .unset, .unset] [])) _
    refine XS.iloadN X0.here hx rfl (hb hby own_d_jdk_52_method_16_code_0) rfl ?_
    refine st172 _ ?_
    show Steps p.tables e below (T172.setTop (mkF m 3 #[.val (.ref b158), .val (.int (0 : Int32)), .val (.int (3 : Int32)), .unset, .unset, .unset] [(.ref b172)])) _
    refine XS.astoreN X172.here hx rfl (hb hby own_d_jdk_52_method_16_code_3) rfl rfl (l' := #[.val (.ref b158), .val (.int (0 : Int32)), .val (.int (3 : Int32)), .val (.ref b172), .unset, .unset]) rfl ?_
    refine XS.aloadN X172.here hx rfl (hb hby own_d_jdk_52_method_16_code_4) rfl rfl ?_
    refine XS.iloadN X172.here hx rfl (hb hby own_d_jdk_52_method_16_code_5) rfl ?_
    show Steps p.tables e below (T172.setTop (mkF m 6 #[.val (.ref b158), .val (.int (0 : Int32)), .val (.int (3 : Int32)), .val (.ref b172), .unset, .unset] [(.int (0 : Int32)), (.ref b158)])) _
    refine XS.aloadN X172.here hx rfl (hb hby own_d_jdk_52_method_16_code_6) rfl rfl ?_
    refine XS.iconst X172.here hx rfl (hb hby own_d_jdk_52_method_16_code_7) ?_
    refine XS.iloadN X172.here hx rfl (hb hby own_d_jdk_52_method_16_code_8) rfl ?_
    show Steps p.tables e below (T172.setTop (mkF m 9 #[.val (.ref b158), .val (.int (0 : Int32)), .val (.int (3 : Int32)), .val (.ref b172), .unset, .unset] [(.int (3 : Int32)), (.int (0 : Int32)), (.ref b172), (.int (0 : Int32)), (.ref b158)])) _
    refine st185 _ ?_
    show Steps p.tables e below (T185.setTop (mkF m 12 #[.val (.ref b158), .val (.int (0 : Int32)), .val (.int (3 : Int32)), .val (.ref b172), .unset, .unset] [(.int (3 : Int32))])) _
    refine XS.istore X185.here hx rfl (hb hby own_d_jdk_52_method_16_code_12) rfl (l' := #[.val (.ref b158), .val (.int (0 : Int32)), .val (.int (3 : Int32)), .val (.ref b172), .val (.int (3 : Int32)), .unset]) rfl ?_
    refine XS.iload X185.here hx rfl (hb hby own_d_jdk_52_method_16_code_14) rfl ?_
    refine XS.iloadN X185.here hx rfl (hb hby own_d_jdk_52_method_16_code_16) rfl ?_
    show Steps p.tables e below (T185.setTop (mkF m 17 #[.val (.ref b158), .val (.int (0 : Int32)), .val (.int (3 : Int32)), .val (.ref b172), .val (.int (3 : Int32)), .unset] [(.int (3 : Int32)), (.int (3 : Int32))])) _
    refine XS.icmpYes X185.here hx rfl (pc0 := 17) (pc' := 57) rfl (hb hby own_d_jdk_52_method_16_code_17) rfl (teq (by decide : (3 : Int32) = (3 : Int32))).1 (by decide) (by decide) ?_
    show Steps p.tables e below (T185.setTop (mkF m 57 #[.val (.ref b158), .val (.int (0 : Int32)), .val (.int (3 : Int32)), .val (.ref b172), .val (.int (3 : Int32)), .unset] [])) _
    refine XS.aloadN X185.here hx rfl (hb hby own_d_jdk_52_method_16_code_57) rfl rfl ?_
    exact retOut X185 hx Bd.returns rfl (Or.inr (Or.inr (Or.inr (Or.inr ⟨rfl, rfl, rfl⟩)))) (hb hby own_d_jdk_52_method_16_code_58) hr
  · show Q_rm17 Z p1 p2 p3 A K cs b3 b158 b167 k158 k3 h0 n0 _ T185.heap _
    exact ⟨b172, k172, rfl, N185, KK185, ⟨gn_b172, sz_b172⟩, f185_0⟩
theorem own_d_jdk_52_method_15_code_0 : decode jdk_52_method_15_code 0 = .ok (.iload_n 1, 1) := by decide +kernel
theorem own_d_jdk_52_method_15_code_1 : decode jdk_52_method_15_code 1 = .ok (.aload_n 0, 1) := by decide +kernel
theorem own_d_jdk_52_method_15_code_2 : decode jdk_52_method_15_code 2 = .ok (.arraylength, 1) := by decide +kernel
theorem own_d_jdk_52_method_15_code_3 : decode jdk_52_method_15_code 3 = .ok (.isub, 1) := by decide +kernel
theorem own_d_jdk_52_method_15_code_4 : decode jdk_52_method_15_code 4 = .ok (.bipush 31, 2) := by decide +kernel
theorem own_d_jdk_52_method_15_code_6 : decode jdk_52_method_15_code 6 = .ok (.iushr, 1) := by decide +kernel
theorem own_d_jdk_52_method_15_code_7 : decode jdk_52_method_15_code 7 = .ok (.i2b, 1) := by decide +kernel
theorem own_d_jdk_52_method_15_code_8 : decode jdk_52_method_15_code 8 = .ok (.ireturn, 1) := by decide +kernel
theorem own_ef_rm19 (m : MethodId) (p1 : Int32) (p2 : Int32) (p3 : Int32) (A : Nat → Addr) (K : Nat → ClassId) (cs : Int32)  (b186_b172 : Addr) (k186_k172 : ClassId) : entryFrame m #[(.ref b186_b172), (.int (3 : Int32))] 2 = mkF m 0 #[.val (.ref b186_b172), .val (.int (3 : Int32))] [] := by first | (simp [entryFrame, mkF, argsToLocals, Value.category, maxLocals]; done) | rfl
set_option maxRecDepth 65536 in
set_option maxHeartbeats 40000000 in
theorem rm19 (l : Launch) (Z : State) (a0 : Array Value) (hw : ∀ d ∈ tables_1, d.before a0 Z = true) (ws : List Jvm.Cond) (h0 : Heap) (n0 : Nat) (p1 : Int32) (p2 : Int32) (p3 : Int32) (A : Nat → Addr) (K : Nat → ClassId) (cs : Int32)  (b186_b172 : Addr) (k186_k172 : ClassId) (EN : own_St Z A K cs) (OL0 : Old Z n0 h0) (G_A_b186_b172 : Arv Z h0 b186_b172 k186_k172 .byte (3 : Int32) [(.int (nar .byte ((nar .char (own_C p2)).toInt8.toInt32))), (.int (32 : Int32)), (.int (nar .byte ((nar .char (own_C p3)).toInt8.toInt32)))] (.int (0 : Int32))) :
    MetFree l own_m14 (head1 (Jvm.Cond.code own_m14 jdk_52_method_15_code 2 (some .byte) :: ws) ({ frames := 0, cells := 0, slots := 0, locals := 0 } : Room)) (fun a U => a = #[(.ref b186_b172), (.int (3 : Int32))] ∧ Z.Warmed39 U.vm ∧ U.heap = h0) (fun _ _ _ _ _ => True) (fun _ U o U' => ∃ v L, o = .returned v ∧ (PQ (some (.int (0 : Int32))) h0 n0) v U'.heap L ∧ FrameEnd U o U' L ({ frames := 0, cells := 0, slots := 0, locals := 0 } : Room).cells ({ frames := 0, cells := 0, slots := 0, locals := 0 } : Room).slots) := by
  refine MetFree.of_bodySF (plainFor_of_name own_pn2) hisR ?_
  intro p e s m args below meth c s₁ Bd hml0 hP hK
  obtain ⟨rfl, hZ, hh⟩ := hP
  have hx := Bd.exec
  have hby := Bd.bytes
  have hml : c.maxLocals = 2 := hml0
  have hown : s.vm.findClass "java/lang/StringUTF16" = some m.cls := findClass_of_methodNamed Bd.named
  have hnm := (name_of_methodNamed Bd.named Bd.method).1
  have X0 : Stand p l e ({ frames := 0, cells := 0, slots := 0, locals := 0 } : Room) s m #[(.ref b186_b172), (.int (3 : Int32))] below meth c s₁ [] 0 0 := Stand.of_body Bd
  have e0 : s₁.heap = h0 := by rw [← hh, Bd.state]; rfl
  have N0 := Fr.nil n0
  have pre0 : ∀ t, Steps p.tables e below (s₁.setTop (mkF m 0 #[.val (.ref b186_b172), .val (.int (3 : Int32))] [])) t → Steps p.tables e below (s₁.setTop (entryFrame m #[(.ref b186_b172), (.int (3 : Int32))] 2)) t := fun t k => castTop (own_ef_rm19 m p1 p2 p3 A K cs b186_b172 k186_k172) k
  have KK0 : Keep h0 h0 [] := Keep.refl _ _
  obtain ⟨cl187, Ar187, -, Sz187, Nn187, -, -⟩ := (id G_A_b186_b172)
  obtain ⟨fs, hr, hrun, hended, hW, hsame⟩ := X0.leave (v := some (.int (0 : Int32))) (fun h => by rw [Bd.returns] at h; cases h)
  refine ⟨_, _, pre0 _ ?_, hrun, hended, _, _, rfl, ?_, ⟨_, rfl⟩, hW, hsame.mono (by decide) (by decide)⟩
  · show Steps p.tables e below (s₁.setTop (mkF m 0 #[.val (.ref b186_b172), .val (.int (3 : Int32))] [])) _
    refine XS.iloadN X0.here hx rfl (hb hby own_d_jdk_52_method_15_code_0) rfl ?_
    refine XS.aloadN X0.here hx rfl (hb hby own_d_jdk_52_method_15_code_1) rfl rfl ?_
    refine X0.arraylength hx (by rw [e0]; exact Ar187.1) (State.isArrayOf_alike hZ.alike Ar187.2.1) (g := (mkF m 2 #[.val (.ref b186_b172), .val (.int (3 : Int32))] [(.ref b186_b172), (.int (3 : Int32))])) rfl rfl (hb hby own_d_jdk_52_method_15_code_2) _ ?_
    rw [len_of Sz187 Nn187]
    show Steps p.tables e below (s₁.setTop (mkF m 3 #[.val (.ref b186_b172), .val (.int (3 : Int32))] [(.int (3 : Int32)), (.int (3 : Int32))])) _
    refine XS.isub X0.here hx rfl (hb hby own_d_jdk_52_method_15_code_3) rfl ?_
    show Steps p.tables e below (s₁.setTop (mkF m 4 #[.val (.ref b186_b172), .val (.int (3 : Int32))] [(.int (0 : Int32))])) _
    refine XS.bipush X0.here hx rfl (hb hby own_d_jdk_52_method_15_code_4) ?_
    refine XS.iushr X0.here hx rfl (hb hby own_d_jdk_52_method_15_code_6) rfl ?_
    show Steps p.tables e below (s₁.setTop (mkF m 7 #[.val (.ref b186_b172), .val (.int (3 : Int32))] [(.int (0 : Int32))])) _
    refine XS.i2b X0.here hx rfl (hb hby own_d_jdk_52_method_15_code_7) rfl ?_
    show Steps p.tables e below (s₁.setTop (mkF m 8 #[.val (.ref b186_b172), .val (.int (3 : Int32))] [(.int (0 : Int32))])) _
    exact retN X0 hx (t := .byte) Bd.returns (by simp) (hb hby own_d_jdk_52_method_15_code_8) hr
  · show PQ (some (.int (0 : Int32))) h0 n0 _ s₁.heap _
    rw [e0]
    exact ⟨rfl, N0, rfl⟩
def Q_rm16 (Z : State) (p1 : Int32) (p2 : Int32) (p3 : Int32) (A : Nat → Addr) (K : Nat → ClassId) (cs : Int32) (b3 : Addr) (b158 : Addr) (b167 : Addr) (k158 : ClassId) (k3 : ClassId) (h0 : Heap) (n0 : Nat) (v : Option Value) (h : Heap) (L : List Loc) : Prop := ∃ b186_b172 : Addr, ∃ k186_k172 : ClassId, v = none ∧ Fr n0 L ∧ Keep h0 h [b167] ∧ (n0 ≤ b186_b172 ∧ h0.size ≤ b186_b172) ∧ (Exa Z h b167 "java/lang/String") ∧ (Fld Z h b167 "java/lang/String" "coder" "B" (.int (0 : Int32))) ∧ (Fld Z h b167 "java/lang/String" "value" "[B" (.ref b186_b172)) ∧ (Arv Z h b186_b172 k186_k172 .byte (3 : Int32) [(.int (nar .byte ((nar .char (own_C p2)).toInt8.toInt32))), (.int (32 : Int32)), (.int (nar .byte ((nar .char (own_C p3)).toInt8.toInt32)))] (.int (0 : Int32)))
theorem own_d_jdk_42_method_149_code_0 : decode jdk_42_method_149_code 0 = .ok (.aload_n 0, 1) := by decide +kernel
theorem own_d_jdk_42_method_149_code_1 : decode jdk_42_method_149_code 1 = .ok (.invokespecial 1, 3) := by decide +kernel
theorem own_d_jdk_42_method_149_code_4 : decode jdk_42_method_149_code 4 = .ok (.iload_n 3, 1) := by decide +kernel
theorem own_d_jdk_42_method_149_code_5 : decode jdk_42_method_149_code 5 = .ok (.ifCond .ne 22, 3) := by decide +kernel
theorem own_d_jdk_42_method_149_code_27 : decode jdk_42_method_149_code 27 = .ok (.getstatic 38, 3) := by decide +kernel
theorem own_d_jdk_42_method_149_code_30 : decode jdk_42_method_149_code 30 = .ok (.ifCond .eq 28, 3) := by decide +kernel
theorem own_d_jdk_42_method_149_code_33 : decode jdk_42_method_149_code 33 = .ok (.aload_n 1, 1) := by decide +kernel
theorem own_d_jdk_42_method_149_code_34 : decode jdk_42_method_149_code 34 = .ok (.iload_n 2, 1) := by decide +kernel
theorem own_d_jdk_42_method_149_code_35 : decode jdk_42_method_149_code 35 = .ok (.iload_n 3, 1) := by decide +kernel
theorem own_d_jdk_42_method_149_code_36 : decode jdk_42_method_149_code 36 = .ok (.invokestatic 177, 3) := by decide +kernel
theorem own_d_jdk_42_method_149_code_39 : decode jdk_42_method_149_code 39 = .ok (.astore 5, 2) := by decide +kernel
theorem own_d_jdk_42_method_149_code_41 : decode jdk_42_method_149_code 41 = .ok (.aload_n 0, 1) := by decide +kernel
theorem own_d_jdk_42_method_149_code_42 : decode jdk_42_method_149_code 42 = .ok (.aload 5, 2) := by decide +kernel
theorem own_d_jdk_42_method_149_code_44 : decode jdk_42_method_149_code 44 = .ok (.iload_n 3, 1) := by decide +kernel
theorem own_d_jdk_42_method_149_code_45 : decode jdk_42_method_149_code 45 = .ok (.invokestatic 47, 3) := by decide +kernel
theorem own_d_jdk_42_method_149_code_48 : decode jdk_42_method_149_code 48 = .ok (.putfield 15, 3) := by decide +kernel
theorem own_d_jdk_42_method_149_code_51 : decode jdk_42_method_149_code 51 = .ok (.aload_n 0, 1) := by decide +kernel
theorem own_d_jdk_42_method_149_code_52 : decode jdk_42_method_149_code 52 = .ok (.aload 5, 2) := by decide +kernel
theorem own_d_jdk_42_method_149_code_54 : decode jdk_42_method_149_code 54 = .ok (.putfield 9, 3) := by decide +kernel
theorem own_d_jdk_42_method_149_code_57 : decode jdk_42_method_149_code 57 = .ok (.return_, 1) := by decide +kernel
theorem own_pn3 : plainName "java/lang/String" = true := by first | (simp [plainName, overriddenIn]; done) | decide +kernel
theorem own_ef_rm16 (m : MethodId) (p1 : Int32) (p2 : Int32) (p3 : Int32) (A : Nat → Addr) (K : Nat → ClassId) (cs : Int32)  (b3 : Addr) (b158 : Addr) (b167 : Addr) (k158 : ClassId) (k3 : ClassId) : entryFrame m #[(.ref b167), (.ref b158), (.int (0 : Int32)), (.int (3 : Int32)), .null] 6 = mkF m 0 #[.val (.ref b167), .val (.ref b158), .val (.int (0 : Int32)), .val (.int (3 : Int32)), .val .null, .unset] [] := by first | (simp [entryFrame, mkF, argsToLocals, Value.category, maxLocals]; done) | rfl
set_option maxRecDepth 65536 in
set_option maxHeartbeats 40000000 in
theorem rm16 (l : Launch) (Z : State) (a0 : Array Value) (hw : ∀ d ∈ tables_1, d.before a0 Z = true) (ws : List Jvm.Cond) (h0 : Heap) (n0 : Nat) (p1 : Int32) (p2 : Int32) (p3 : Int32) (A : Nat → Addr) (K : Nat → ClassId) (cs : Int32)  (b3 : Addr) (b158 : Addr) (b167 : Addr) (k158 : ClassId) (k3 : ClassId) (EN : own_St Z A K cs) (OL0 : Old Z n0 h0) (G_A_b3 : Arv Z h0 b3 k3 (.object "com/example/tallywire/tallywire/wire/FieldType") (28 : Int32) [(.ref (A 0)), (.ref (A 1)), (.ref (A 2)), (.ref (A 3)), (.ref (A 4)), (.ref (A 5)), (.ref (A 6)), (.ref (A 7)), (.ref (A 8)), (.ref (A 9)), (.ref (A 10)), (.ref (A 11)), (.ref (A 12)), (.ref (A 13)), (.ref (A 14)), (.ref (A 15)), (.ref (A 16)), (.ref (A 17)), (.ref (A 18)), (.ref (A 19)), (.ref (A 20)), (.ref (A 21)), (.ref (A 22)), (.ref (A 23)), (.ref (A 24)), (.ref (A 25)), (.ref (A 26)), (.ref (A 27))] .null) (G_A_b158 : Arv Z h0 b158 k158 .char (3 : Int32) [(.int (nar .char (own_C p2))), (.int (32 : Int32)), (.int (nar .char (own_C p3)))] (.int (0 : Int32))) (G_E_b167 : Exa Z h0 b167 "java/lang/String") (G_F_b167_java_lang_String_coder : Fld Z h0 b167 "java/lang/String" "coder" "B" (.int (0 : Int32))) (G_F_b167_java_lang_String_value : Fld Z h0 b167 "java/lang/String" "value" "[B" .null) (gn_b167 : n0 ≤ b167) :
    MetFree l own_m6 (head1 (Jvm.Cond.code own_m6 jdk_42_method_149_code 6 none :: ws) ({ frames := 2, cells := 1, slots := 3, locals := 35 } : Room)) (fun a U => a = #[(.ref b167), (.ref b158), (.int (0 : Int32)), (.int (3 : Int32)), .null] ∧ Z.Warmed39 U.vm ∧ U.heap = h0) (fun _ _ _ _ _ => True) (fun _ U o U' => ∃ v L, o = .returned v ∧ Q_rm16 Z p1 p2 p3 A K cs b3 b158 b167 k158 k3 h0 n0 v U'.heap L ∧ FrameEnd U o U' L ({ frames := 2, cells := 1, slots := 3, locals := 35 } : Room).cells ({ frames := 2, cells := 1, slots := 3, locals := 35 } : Room).slots) := by
  refine MetFree.of_bodySF (plainFor_of_name own_pn3) hisR ?_
  intro p e s m args below meth c s₁ Bd hml0 hP hK
  obtain ⟨rfl, hZ, hh⟩ := hP
  have hx := Bd.exec
  have hby := Bd.bytes
  have hml : c.maxLocals = 6 := hml0
  have hown : s.vm.findClass "java/lang/String" = some m.cls := findClass_of_methodNamed Bd.named
  have hnm := (name_of_methodNamed Bd.named Bd.method).1
  have X0 : Stand p l e ({ frames := 2, cells := 1, slots := 3, locals := 35 } : Room) s m #[(.ref b167), (.ref b158), (.int (0 : Int32)), (.int (3 : Int32)), .null] below meth c s₁ [] 0 0 := Stand.of_body Bd
  have e0 : s₁.heap = h0 := by rw [← hh, Bd.state]; rfl
  have N0 := Fr.nil n0
  have pre0 : ∀ t, Steps p.tables e below (s₁.setTop (mkF m 0 #[.val (.ref b167), .val (.ref b158), .val (.int (0 : Int32)), .val (.int (3 : Int32)), .val .null, .unset] [])) t → Steps p.tables e below (s₁.setTop (entryFrame m #[(.ref b167), (.ref b158), (.int (0 : Int32)), (.int (3 : Int32)), .null] 6)) t := fun t k => castTop (own_ef_rm16 m p1 p2 p3 A K cs b3 b158 b167 k158 k3) k
  have KK0 : Keep h0 h0 [b167] := Keep.refl _ _
  obtain ⟨T170, X170, e170, st170⟩ := initO X0 hx hZ hown (hw _ (List.mem_of_getElem? (i := 84) rfl)) (hw _ (List.mem_of_getElem? (i := 85) rfl)) (hw _ (List.mem_of_getElem? (i := 86) rfl)) e0 (g := (mkF m 1 #[.val (.ref b167), .val (.ref b158), .val (.int (0 : Int32)), .val (.int (3 : Int32)), .val .null, .unset] [(.ref b167)])) rfl (by rw [hml]; rfl) rfl (hb hby own_d_jdk_42_method_149_code_1) (by decide) (W := 0) (by show 2 * 0 + _ ≤ _; exact Nat.le_of_eq rfl) (by decide)
  obtain ⟨T171, X171, e171, st171⟩ := getS2 X170 hx hZ hown (host := "") (Or.inl (hw _ (List.mem_of_getElem? (i := 87) rfl))) Via.refl e170 (EN.2.2.2.2.2.2.2.1.1.ext OL0.2) (g := (mkF m 27 #[.val (.ref b167), .val (.ref b158), .val (.int (0 : Int32)), .val (.int (3 : Int32)), .val .null, .unset] [])) rfl (hb hby own_d_jdk_42_method_149_code_27)
  obtain ⟨_, _, ⟨T186, L186, k186, n186⟩, -, X186, ⟨Lc186, hQ186, l186, y186, z186⟩, st186⟩ := Jvm.LawKit.callS X171 hx (y := own_m5) hown (mvT hZ (hw _ (List.mem_of_getElem? (i := 88) rfl))) (mvT hZ (hw _ (List.mem_of_getElem? (i := 89) rfl))) (mvT hZ (hw _ (List.mem_of_getElem? (i := 90) rfl))) (mvT hZ (hw _ (List.mem_of_getElem? (i := 91) rfl))) (by decide) (backOf (W := 0) (rm17 l Z a0 hw [] h0 n0 p1 p2 p3 A K cs b3 b158 b167 k158 k3 EN OL0 G_A_b3 G_A_b158 G_E_b167) hZ (hw _ (List.mem_of_getElem? (i := 91) rfl)) (hw _ (List.mem_of_getElem? (i := 90) rfl)) (by decide) (by decide)) (g := (mkF m 36 #[.val (.ref b167), .val (.ref b158), .val (.int (0 : Int32)), .val (.int (3 : Int32)), .val .null, .unset] [(.int (3 : Int32)), (.int (0 : Int32)), (.ref b158)])) rfl (by rw [hml]; rfl) (argsL := [(.ref b158), (.int (0 : Int32)), (.int (3 : Int32))]) (rest := []) (lenOf own_pd3 rfl) rfl (by show 2 * 0 + _ ≤ _; exact Nat.le_of_eq rfl) (hb hby own_d_jdk_42_method_149_code_36) (fun _ _ => ⟨rfl, e171, (by decide : 0 + 1 ≤ _), (by decide : 0 + 3 ≤ _)⟩)
  dsimp only [Pt.U, Pt.locs, Pt.cells, Pt.slots] at X186 l186 y186 z186 st186 hQ186
  replace X186 := own_sub X186 l186 y186 z186
  obtain ⟨b186_b172, k186_k172, rfl, N186q, K186c, ⟨gn_b186_b172, szc_b186_b172⟩, f186_0⟩ := hQ186
  have N186 := Fr.app N0 N186q
  have lt_b3_b186_b172 : b3 < b186_b172 := Nat.lt_of_lt_of_le G_A_b3.lt szc_b186_b172
  have lt_b158_b186_b172 : b158 < b186_b172 := Nat.lt_of_lt_of_le G_A_b158.lt szc_b186_b172
  have lt_b167_b186_b172 : b167 < b186_b172 := Nat.lt_of_lt_of_le G_E_b167.lt szc_b186_b172
  have sz_b186_b172 : h0.size ≤ b186_b172 := Nat.le_trans KK0.1 szc_b186_b172
  have OL186 : Old Z n0 T186.heap := OL0.keep K186c all0
  have KK186 : Keep h0 T186.heap [b167] := KK0.trans K186c all0
  obtain ⟨_, _, ⟨T188, L188, k188, n188⟩, -, X188, ⟨Lc188, hQ188, l188, y188, z188⟩, st188⟩ := Jvm.LawKit.callS X186 hx (y := own_m14) hown (mvT hZ (hw _ (List.mem_of_getElem? (i := 96) rfl))) (mvT hZ (hw _ (List.mem_of_getElem? (i := 97) rfl))) (mvT hZ (hw _ (List.mem_of_getElem? (i := 90) rfl))) (mvT hZ (hw _ (List.mem_of_getElem? (i := 98) rfl))) (by decide) (backOf (W := 1) (rm19 l Z a0 hw [] T186.heap n0 p1 p2 p3 A K cs b186_b172 k186_k172 EN OL186 f186_0) hZ (hw _ (List.mem_of_getElem? (i := 98) rfl)) (hw _ (List.mem_of_getElem? (i := 90) rfl)) (by decide) (by decide)) (g := (mkF m 45 #[.val (.ref b167), .val (.ref b158), .val (.int (0 : Int32)), .val (.int (3 : Int32)), .val .null, .val (.ref b186_b172)] [(.int (3 : Int32)), (.ref b186_b172), (.ref b167)])) rfl (by rw [hml]; rfl) (argsL := [(.ref b186_b172), (.int (3 : Int32))]) (rest := [(.ref b167)]) (lenOf own_pd4 rfl) rfl (by show 2 * 0 + _ ≤ _; exact Nat.le_of_eq rfl) (hb hby own_d_jdk_42_method_149_code_45) (fun _ _ => ⟨rfl, rfl, (by decide : 1 + 0 ≤ _), (by decide : 3 + 0 ≤ _)⟩)
  dsimp only [Pt.U, Pt.locs, Pt.cells, Pt.slots] at X188 l188 y188 z188 st188 hQ188
  replace X188 := own_sub X188 l188 y188 z188
  obtain ⟨rfl, N188q, e188⟩ := hQ188
  have N188 := Fr.app N186 N188q
  have fx189 : Fld Z T186.heap b167 "java/lang/String" "coder" "B" (.int (0 : Int32)) := (G_F_b167_java_lang_String_coder.keep K186c nin0)
  have fx190 : Exa Z T186.heap b167 "java/lang/String" := (G_E_b167.keep K186c)
  obtain ⟨T191, h191, X191, e191, W191, st191⟩ := putFN X188 hx hZ hown (hw _ (List.mem_of_getElem? (i := 99) rfl)) Via.refl e188 fx189 fx190 (Or.inr ⟨(hw _ (List.mem_of_getElem? (i := 100) rfl)), rfl, hnm⟩) (hw _ (List.mem_of_getElem? (i := 75) rfl)) (ty := .byte) (v' := (.int (0 : Int32))) (by decide) rfl (by decide) (g := (mkF m 48 #[.val (.ref b167), .val (.ref b158), .val (.int (0 : Int32)), .val (.int (3 : Int32)), .val .null, .val (.ref b186_b172)] [(.int (0 : Int32)), (.ref b167)])) rfl rfl (hb hby own_d_jdk_42_method_149_code_48)
  have NF191 := Fr.snoc X191 N188 gn_b167
  have OL191 : Old Z n0 h191 := OL186.wr W191 gn_b167
  have KK191 : Keep h0 h191 [b167] := KK186.wr W191 (Or.inl (List.mem_of_getElem? (i := 0) rfl))
  have Fw191 : Fld Z h191 b167 "java/lang/String" "coder" "B" (.int (0 : Int32)) := fx189.same W191
  have fx192 : Fld Z h191 b167 "java/lang/String" "value" "[B" .null := ((G_F_b167_java_lang_String_value.keep K186c nin0).other W191 (Or.inr (slot_ne (Or.inr (hw _ (List.mem_of_getElem? (i := 102) rfl))) (Or.inr (hw _ (List.mem_of_getElem? (i := 100) rfl))) (by decide) (t := (.array .byte)) (t' := .byte) (by decide) (by decide))))
  have fx193 : Exa Z h191 b167 "java/lang/String" := (fx190.wr W191)
  obtain ⟨T194, h194, X194, e194, W194, st194⟩ := putF X191 hx hZ hown (host := "") (Or.inl (hw _ (List.mem_of_getElem? (i := 101) rfl))) Via.refl e191 fx192 fx193 (Or.inr ⟨(hw _ (List.mem_of_getElem? (i := 102) rfl)), rfl, hnm⟩) (hw _ (List.mem_of_getElem? (i := 75) rfl)) (ty := (.array .byte)) (by decide) rfl rfl (g := (mkF m 54 #[.val (.ref b167), .val (.ref b158), .val (.int (0 : Int32)), .val (.int (3 : Int32)), .val .null, .val (.ref b186_b172)] [(.ref b186_b172), (.ref b167)])) rfl rfl (hb hby own_d_jdk_42_method_149_code_54)
  have NF194 := Fr.snoc X194 NF191 gn_b167
  have OL194 : Old Z n0 h194 := OL191.wr W194 gn_b167
  have KK194 : Keep h0 h194 [b167] := KK191.wr W194 (Or.inl (List.mem_of_getElem? (i := 0) rfl))
  have Fw194 : Fld Z h194 b167 "java/lang/String" "value" "[B" (.ref b186_b172) := fx192.same W194
  have fx195 : Exa Z h194 b167 "java/lang/String" := (fx193.wr W194)
  have fx196 : Fld Z h194 b167 "java/lang/String" "coder" "B" (.int (0 : Int32)) := (Fw191.other W194 (Or.inr (slot_ne (Or.inr (hw _ (List.mem_of_getElem? (i := 100) rfl))) (Or.inr (hw _ (List.mem_of_getElem? (i := 102) rfl))) (by decide) (t := .byte) (t' := (.array .byte)) (by decide) (by decide))))
  have fx197 : Arv Z h194 b186_b172 k186_k172 .byte (3 : Int32) [(.int (nar .byte ((nar .char (own_C p2)).toInt8.toInt32))), (.int (32 : Int32)), (.int (nar .byte ((nar .char (own_C p3)).toInt8.toInt32)))] (.int (0 : Int32)) := ((f186_0.other W191 (Ne.symm (Nat.ne_of_lt lt_b167_b186_b172))).other W194 (Ne.symm (Nat.ne_of_lt lt_b167_b186_b172)))
  obtain ⟨fs, hr, hrun, hended, hW, hsame⟩ := X194.leave (v := none) (fun _ => rfl)
  refine ⟨_, _, pre0 _ ?_, hrun, hended, _, _, rfl, ?_, ⟨_, rfl⟩, hW, hsame.mono (by decide) (by decide)⟩
  · show Steps p.tables e below (s₁.setTop (mkF m 0 #[.val (.ref b167), .val (.ref b158), .val (.int (0 : Int32)), .val (.int (3 : Int32)), .val .null, .unset] [])) _
    refine XS.aloadN X0.here hx rfl (hb hby own_d_jdk_42_method_149_code_0) rfl rfl ?_
    refine st170 _ ?_
    show Steps p.tables e below (T170.setTop (mkF m 4 #[.val (.ref b167), .val (.ref b158), .val (.int (0 : Int32)), .val (.int (3 : Int32)), .val .null, .unset] [])) _
    refine XS.iloadN X170.here hx rfl (hb hby own_d_jdk_42_method_149_code_4) rfl ?_
    refine XS.ifYes X170.here hx rfl (pc0 := 5) (pc' := 27) rfl (hb hby own_d_jdk_42_method_149_code_5) rfl ((if0 _ _).trans (feq (by decide : ¬ ((3 : Int32) = (0 : Int32)))).2) (by decide) (by decide) ?_
    show Steps p.tables e below (T170.setTop (mkF m 27 #[.val (.ref b167), .val (.ref b158), .val (.int (0 : Int32)), .val (.int (3 : Int32)), .val .null, .unset] [])) _
    refine st171 _ ?_
    show Steps p.tables e below (T171.setTop (mkF m 30 #[.val (.ref b167), .val (.ref b158), .val (.int (0 : Int32)), .val (.int (3 : Int32)), .val .null, .unset] [(.int cs)])) _
    refine XS.ifNo X171.here hx rfl (hb hby own_d_jdk_42_method_149_code_30) rfl ((if0 _ _).trans (feq EN.2.2.2.2.2.2.2.1.2.1).1) ?_
    show Steps p.tables e below (T171.setTop (mkF m 33 #[.val (.ref b167), .val (.ref b158), .val (.int (0 : Int32)), .val (.int (3 : Int32)), .val .null, .unset] [])) _
    refine XS.aloadN X171.here hx rfl (hb hby own_d_jdk_42_method_149_code_33) rfl rfl ?_
    refine XS.iloadN X171.here hx rfl (hb hby own_d_jdk_42_method_149_code_34) rfl ?_
    refine XS.iloadN X171.here hx rfl (hb hby own_d_jdk_42_method_149_code_35) rfl ?_
    show Steps p.tables e below (T171.setTop (mkF m 36 #[.val (.ref b167), .val (.ref b158), .val (.int (0 : Int32)), .val (.int (3 : Int32)), .val .null, .unset] [(.int (3 : Int32)), (.int (0 : Int32)), (.ref b158)])) _
    refine st186 _ ?_
    show Steps p.tables e below (T186.setTop (mkF m 39 #[.val (.ref b167), .val (.ref b158), .val (.int (0 : Int32)), .val (.int (3 : Int32)), .val .null, .unset] [(.ref b186_b172)])) _
    refine XS.astore X186.here hx rfl (hb hby own_d_jdk_42_method_149_code_39) rfl rfl (l' := #[.val (.ref b167), .val (.ref b158), .val (.int (0 : Int32)), .val (.int (3 : Int32)), .val .null, .val (.ref b186_b172)]) rfl ?_
    refine XS.aloadN X186.here hx rfl (hb hby own_d_jdk_42_method_149_code_41) rfl rfl ?_
    refine XS.aload X186.here hx rfl (hb hby own_d_jdk_42_method_149_code_42) rfl rfl ?_
    show Steps p.tables e below (T186.setTop (mkF m 44 #[.val (.ref b167), .val (.ref b158), .val (.int (0 : Int32)), .val (.int (3 : Int32)), .val .null, .val (.ref b186_b172)] [(.ref b186_b172), (.ref b167)])) _
    refine XS.iloadN X186.here hx rfl (hb hby own_d_jdk_42_method_149_code_44) rfl ?_
    refine st188 _ ?_
    show Steps p.tables e below (T188.setTop (mkF m 48 #[.val (.ref b167), .val (.ref b158), .val (.int (0 : Int32)), .val (.int (3 : Int32)), .val .null, .val (.ref b186_b172)] [(.int (0 : Int32)), (.ref b167)])) _
    refine st191 _ ?_
    show Steps p.tables e below (T191.setTop (mkF m 51 #[.val (.ref b167), .val (.ref b158), .val (.int (0 : Int32)), .val (.int (3 : Int32)), .val .null, .val (.ref b186_b172)] [])) _
    refine XS.aloadN X191.here hx rfl (hb hby own_d_jdk_42_method_149_code_51) rfl rfl ?_
    refine XS.aload X191.here hx rfl (hb hby own_d_jdk_42_method_149_code_52) rfl rfl ?_
    refine st194 _ ?_
    show Steps p.tables e below (T194.setTop (mkF m 57 #[.val (.ref b167), .val (.ref b158), .val (.int (0 : Int32)), .val (.int (3 : Int32)), .val .null, .val (.ref b186_b172)] [])) _
    exact X194.returnOut hx Bd.returns (hb hby own_d_jdk_42_method_149_code_57) hr
  · show Q_rm16 Z p1 p2 p3 A K cs b3 b158 b167 k158 k3 h0 n0 _ T194.heap _
    rw [e194]
    exact ⟨b186_b172, k186_k172, rfl, NF194, KK194, ⟨gn_b186_b172, sz_b186_b172⟩, fx195, fx196, Fw194, fx197⟩
def Q_rm15 (Z : State) (p1 : Int32) (p2 : Int32) (p3 : Int32) (A : Nat → Addr) (K : Nat → ClassId) (cs : Int32) (b3 : Addr) (b158 : Addr) (b167 : Addr) (k158 : ClassId) (k3 : ClassId) (h0 : Heap) (n0 : Nat) (v : Option Value) (h : Heap) (L : List Loc) : Prop := ∃ b198_b186_b172 : Addr, ∃ k198_k186_k172 : ClassId, v = none ∧ Fr n0 L ∧ Keep h0 h [b167] ∧ (n0 ≤ b198_b186_b172 ∧ h0.size ≤ b198_b186_b172) ∧ (Exa Z h b167 "java/lang/String") ∧ (Fld Z h b167 "java/lang/String" "coder" "B" (.int (0 : Int32))) ∧ (Fld Z h b167 "java/lang/String" "value" "[B" (.ref b198_b186_b172)) ∧ (Arv Z h b198_b186_b172 k198_k186_k172 .byte (3 : Int32) [(.int (nar .byte ((nar .char (own_C p2)).toInt8.toInt32))), (.int (32 : Int32)), (.int (nar .byte ((nar .char (own_C p3)).toInt8.toInt32)))] (.int (0 : Int32)))
theorem own_d_jdk_42_method_3_code_0 : decode jdk_42_method_3_code 0 = .ok (.aload_n 0, 1) := by decide +kernel
theorem own_d_jdk_42_method_3_code_1 : decode jdk_42_method_3_code 1 = .ok (.aload_n 1, 1) := by decide +kernel
theorem own_d_jdk_42_method_3_code_2 : decode jdk_42_method_3_code 2 = .ok (.iconst 0, 1) := by decide +kernel
theorem own_d_jdk_42_method_3_code_3 : decode jdk_42_method_3_code 3 = .ok (.aload_n 1, 1) := by decide +kernel
theorem own_d_jdk_42_method_3_code_4 : decode jdk_42_method_3_code 4 = .ok (.arraylength, 1) := by decide +kernel
theorem own_d_jdk_42_method_3_code_5 : decode jdk_42_method_3_code 5 = .ok (.aconst_null, 1) := by decide +kernel
theorem own_d_jdk_42_method_3_code_6 : decode jdk_42_method_3_code 6 = .ok (.invokespecial 27, 3) := by decide +kernel
theorem own_d_jdk_42_method_3_code_9 : decode jdk_42_method_3_code 9 = .ok (.return_, 1) := by decide +kernel
theorem own_ef_rm15 (m : MethodId) (p1 : Int32) (p2 : Int32) (p3 : Int32) (A : Nat → Addr) (K : Nat → ClassId) (cs : Int32)  (b3 : Addr) (b158 : Addr) (b167 : Addr) (k158 : ClassId) (k3 : ClassId) : entryFrame m #[(.ref b167), (.ref b158)] 2 = mkF m 0 #[.val (.ref b167), .val (.ref b158)] [] := by first | (simp [entryFrame, mkF, argsToLocals, Value.category, maxLocals]; done) | rfl
set_option maxRecDepth 65536 in
set_option maxHeartbeats 40000000 in
theorem rm15 (l : Launch) (Z : State) (a0 : Array Value) (hw : ∀ d ∈ tables_1, d.before a0 Z = true) (ws : List Jvm.Cond) (h0 : Heap) (n0 : Nat) (p1 : Int32) (p2 : Int32) (p3 : Int32) (A : Nat → Addr) (K : Nat → ClassId) (cs : Int32)  (b3 : Addr) (b158 : Addr) (b167 : Addr) (k158 : ClassId) (k3 : ClassId) (EN : own_St Z A K cs) (OL0 : Old Z n0 h0) (G_A_b158 : Arv Z h0 b158 k158 .char (3 : Int32) [(.int (nar .char (own_C p2))), (.int (32 : Int32)), (.int (nar .char (own_C p3)))] (.int (0 : Int32))) (G_A_b3 : Arv Z h0 b3 k3 (.object "com/example/tallywire/tallywire/wire/FieldType") (28 : Int32) [(.ref (A 0)), (.ref (A 1)), (.ref (A 2)), (.ref (A 3)), (.ref (A 4)), (.ref (A 5)), (.ref (A 6)), (.ref (A 7)), (.ref (A 8)), (.ref (A 9)), (.ref (A 10)), (.ref (A 11)), (.ref (A 12)), (.ref (A 13)), (.ref (A 14)), (.ref (A 15)), (.ref (A 16)), (.ref (A 17)), (.ref (A 18)), (.ref (A 19)), (.ref (A 20)), (.ref (A 21)), (.ref (A 22)), (.ref (A 23)), (.ref (A 24)), (.ref (A 25)), (.ref (A 26)), (.ref (A 27))] .null) (G_E_b167 : Exa Z h0 b167 "java/lang/String") (G_F_b167_java_lang_String_coder : Fld Z h0 b167 "java/lang/String" "coder" "B" (.int (0 : Int32))) (G_F_b167_java_lang_String_value : Fld Z h0 b167 "java/lang/String" "value" "[B" .null) (gn_b167 : n0 ≤ b167) :
    MetFree l own_m7 (head1 (Jvm.Cond.code own_m7 jdk_42_method_3_code 2 none :: ws) ({ frames := 3, cells := 1, slots := 3, locals := 52 } : Room)) (fun a U => a = #[(.ref b167), (.ref b158)] ∧ Z.Warmed39 U.vm ∧ U.heap = h0) (fun _ _ _ _ _ => True) (fun _ U o U' => ∃ v L, o = .returned v ∧ Q_rm15 Z p1 p2 p3 A K cs b3 b158 b167 k158 k3 h0 n0 v U'.heap L ∧ FrameEnd U o U' L ({ frames := 3, cells := 1, slots := 3, locals := 52 } : Room).cells ({ frames := 3, cells := 1, slots := 3, locals := 52 } : Room).slots) := by
  refine MetFree.of_bodySF (plainFor_of_name own_pn3) hisR ?_
  intro p e s m args below meth c s₁ Bd hml0 hP hK
  obtain ⟨rfl, hZ, hh⟩ := hP
  have hx := Bd.exec
  have hby := Bd.bytes
  have hml : c.maxLocals = 2 := hml0
  have hown : s.vm.findClass "java/lang/String" = some m.cls := findClass_of_methodNamed Bd.named
  have hnm := (name_of_methodNamed Bd.named Bd.method).1
  have X0 : Stand p l e ({ frames := 3, cells := 1, slots := 3, locals := 52 } : Room) s m #[(.ref b167), (.ref b158)] below meth c s₁ [] 0 0 := Stand.of_body Bd
  have e0 : s₁.heap = h0 := by rw [← hh, Bd.state]; rfl
  have N0 := Fr.nil n0
  have pre0 : ∀ t, Steps p.tables e below (s₁.setTop (mkF m 0 #[.val (.ref b167), .val (.ref b158)] [])) t → Steps p.tables e below (s₁.setTop (entryFrame m #[(.ref b167), (.ref b158)] 2)) t := fun t k => castTop (own_ef_rm15 m p1 p2 p3 A K cs b3 b158 b167 k158 k3) k
  have KK0 : Keep h0 h0 [b167] := Keep.refl _ _
  obtain ⟨cl169, Ar169, -, Sz169, Nn169, -, -⟩ := (id G_A_b158)
  obtain ⟨_, _, ⟨T198, L198, k198, n198⟩, -, X198, ⟨Lc198, hQ198, l198, y198, z198⟩, st198⟩ := X0.specialBack hx (y := own_m6) rfl hown (mvT hZ (hw _ (List.mem_of_getElem? (i := 80) rfl))) (mvT hZ (hw _ (List.mem_of_getElem? (i := 81) rfl))) (mvT hZ (hw _ (List.mem_of_getElem? (i := 83) rfl))) (by decide) (backOf (W := 0) (rm16 l Z a0 hw [] h0 n0 p1 p2 p3 A K cs b3 b158 b167 k158 k3 EN OL0 G_A_b3 G_A_b158 G_E_b167 G_F_b167_java_lang_String_coder G_F_b167_java_lang_String_value gn_b167) hZ (hw _ (List.mem_of_getElem? (i := 83) rfl)) (hw _ (List.mem_of_getElem? (i := 76) rfl)) (by decide) (by decide)) (g := (mkF m 6 #[.val (.ref b167), .val (.ref b158)] [.null, (.int (3 : Int32)), (.int (0 : Int32)), (.ref b158), (.ref b167)])) rfl (by rw [hml]; rfl) (Steps.refl _) (a := b167) (argsL := [(.ref b158), (.int (0 : Int32)), (.int (3 : Int32)), .null]) (rest := []) (lenOf own_pd5 rfl) rfl (by show 2 * 0 + _ ≤ _; exact Nat.le_of_eq rfl) (hb hby own_d_jdk_42_method_3_code_6) (fun _ _ => ⟨rfl, e0, (by decide : 0 + 1 ≤ _), (by decide : 0 + 3 ≤ _)⟩)
  dsimp only [Pt.U, Pt.locs, Pt.cells, Pt.slots] at X198 l198 y198 z198 st198 hQ198
  replace X198 := own_sub X198 l198 y198 z198
  obtain ⟨b198_b186_b172, k198_k186_k172, rfl, N198q, K198c, ⟨gn_b198_b186_b172, szc_b198_b186_b172⟩, f198_0, f198_1, f198_2, f198_3⟩ := hQ198
  have N198 := Fr.app N0 N198q
  have lt_b3_b198_b186_b172 : b3 < b198_b186_b172 := Nat.lt_of_lt_of_le G_A_b3.lt szc_b198_b186_b172
  have lt_b158_b198_b186_b172 : b158 < b198_b186_b172 := Nat.lt_of_lt_of_le G_A_b158.lt szc_b198_b186_b172
  have lt_b167_b198_b186_b172 : b167 < b198_b186_b172 := Nat.lt_of_lt_of_le G_E_b167.lt szc_b198_b186_b172
  have sz_b198_b186_b172 : h0.size ≤ b198_b186_b172 := Nat.le_trans KK0.1 szc_b198_b186_b172
  have OL198 : Old Z n0 T198.heap := OL0.keep K198c (allS gn_b167 all0)
  have KK198 : Keep h0 T198.heap [b167] := KK0.trans K198c (allS (Or.inl (List.mem_of_getElem? (i := 0) rfl)) all0)
  obtain ⟨fs, hr, hrun, hended, hW, hsame⟩ := X198.leave (v := none) (fun _ => rfl)
  refine ⟨_, _, pre0 _ ?_, hrun, hended, _, _, rfl, ?_, ⟨_, rfl⟩, hW, hsame.mono (by decide) (by decide)⟩
  · show Steps p.tables e below (s₁.setTop (mkF m 0 #[.val (.ref b167), .val (.ref b158)] [])) _
    refine XS.aloadN X0.here hx rfl (hb hby own_d_jdk_42_method_3_code_0) rfl rfl ?_
    refine XS.aloadN X0.here hx rfl (hb hby own_d_jdk_42_method_3_code_1) rfl rfl ?_
    refine XS.iconst X0.here hx rfl (hb hby own_d_jdk_42_method_3_code_2) ?_
    show Steps p.tables e below (s₁.setTop (mkF m 3 #[.val (.ref b167), .val (.ref b158)] [(.int (0 : Int32)), (.ref b158), (.ref b167)])) _
    refine XS.aloadN X0.here hx rfl (hb hby own_d_jdk_42_method_3_code_3) rfl rfl ?_
    refine X0.arraylength hx (by rw [e0]; exact Ar169.1) (State.isArrayOf_alike hZ.alike Ar169.2.1) (g := (mkF m 4 #[.val (.ref b167), .val (.ref b158)] [(.ref b158), (.int (0 : Int32)), (.ref b158), (.ref b167)])) rfl rfl (hb hby own_d_jdk_42_method_3_code_4) _ ?_
    rw [len_of Sz169 Nn169]
    show Steps p.tables e below (s₁.setTop (mkF m 5 #[.val (.ref b167), .val (.ref b158)] [(.int (3 : Int32)), (.int (0 : Int32)), (.ref b158), (.ref b167)])) _
    refine XS.aconstNull X0.here hx rfl (hb hby own_d_jdk_42_method_3_code_5) ?_
    refine st198.trans ?_
    show Steps p.tables e below (T198.setTop (mkF m 9 #[.val (.ref b167), .val (.ref b158)] [])) _
    exact X198.returnOut hx Bd.returns (hb hby own_d_jdk_42_method_3_code_9) hr
  · show Q_rm15 Z p1 p2 p3 A K cs b3 b158 b167 k158 k3 h0 n0 _ T198.heap _
    exact ⟨b198_b186_b172, k198_k186_k172, rfl, N198, KK198, ⟨gn_b198_b186_b172, sz_b198_b186_b172⟩, f198_0, f198_1, f198_2, f198_3⟩
theorem own_d_jdk_42_method_152_code_0 : decode jdk_42_method_152_code 0 = .ok (.getstatic 38, 3) := by decide +kernel
theorem own_d_jdk_42_method_152_code_3 : decode jdk_42_method_152_code 3 = .ok (.ifCond .eq 10, 3) := by decide +kernel
theorem own_d_jdk_42_method_152_code_6 : decode jdk_42_method_152_code 6 = .ok (.aload_n 0, 1) := by decide +kernel
theorem own_d_jdk_42_method_152_code_7 : decode jdk_42_method_152_code 7 = .ok (.getfield 15, 3) := by decide +kernel
theorem own_d_jdk_42_method_152_code_10 : decode jdk_42_method_152_code 10 = .ok (.goto 4, 3) := by decide +kernel
theorem own_d_jdk_42_method_152_code_14 : decode jdk_42_method_152_code 14 = .ok (.ireturn, 1) := by decide +kernel
theorem own_ef_rm22 (m : MethodId) (p1 : Int32) (p2 : Int32) (p3 : Int32) (A : Nat → Addr) (K : Nat → ClassId) (cs : Int32)  (b167 : Addr) : entryFrame m #[(.ref b167)] 1 = mkF m 0 #[.val (.ref b167)] [] := by first | (simp [entryFrame, mkF, argsToLocals, Value.category, maxLocals]; done) | rfl
set_option maxRecDepth 65536 in
set_option maxHeartbeats 40000000 in
theorem rm22 (l : Launch) (Z : State) (a0 : Array Value) (hw : ∀ d ∈ tables_1, d.before a0 Z = true) (ws : List Jvm.Cond) (h0 : Heap) (n0 : Nat) (p1 : Int32) (p2 : Int32) (p3 : Int32) (A : Nat → Addr) (K : Nat → ClassId) (cs : Int32)  (b167 : Addr) (EN : own_St Z A K cs) (OL0 : Old Z n0 h0) (G_F_b167_java_lang_String_coder : Fld Z h0 b167 "java/lang/String" "coder" "B" (.int (0 : Int32))) :
    MetFree l own_m15 (head1 (Jvm.Cond.code own_m15 jdk_42_method_152_code 1 (some .byte) :: ws) ({ frames := 0, cells := 0, slots := 0, locals := 0 } : Room)) (fun a U => a = #[(.ref b167)] ∧ Z.Warmed39 U.vm ∧ U.heap = h0) (fun _ _ _ _ _ => True) (fun _ U o U' => ∃ v L, o = .returned v ∧ (PQ (some (.int (0 : Int32))) h0 n0) v U'.heap L ∧ FrameEnd U o U' L ({ frames := 0, cells := 0, slots := 0, locals := 0 } : Room).cells ({ frames := 0, cells := 0, slots := 0, locals := 0 } : Room).slots) := by
  refine MetFree.of_bodySF (plainFor_of_name own_pn3) hisR ?_
  intro p e s m args below meth c s₁ Bd hml0 hP hK
  obtain ⟨rfl, hZ, hh⟩ := hP
  have hx := Bd.exec
  have hby := Bd.bytes
  have hml : c.maxLocals = 1 := hml0
  have hown : s.vm.findClass "java/lang/String" = some m.cls := findClass_of_methodNamed Bd.named
  have hnm := (name_of_methodNamed Bd.named Bd.method).1
  have X0 : Stand p l e ({ frames := 0, cells := 0, slots := 0, locals := 0 } : Room) s m #[(.ref b167)] below meth c s₁ [] 0 0 := Stand.of_body Bd
  have e0 : s₁.heap = h0 := by rw [← hh, Bd.state]; rfl
  have N0 := Fr.nil n0
  have pre0 : ∀ t, Steps p.tables e below (s₁.setTop (mkF m 0 #[.val (.ref b167)] [])) t → Steps p.tables e below (s₁.setTop (entryFrame m #[(.ref b167)] 1)) t := fun t k => castTop (own_ef_rm22 m p1 p2 p3 A K cs b167) k
  have KK0 : Keep h0 h0 [] := Keep.refl _ _
  obtain ⟨T204, X204, e204, st204⟩ := getS2 X0 hx hZ hown (host := "") (Or.inl (hw _ (List.mem_of_getElem? (i := 87) rfl))) Via.refl e0 (EN.2.2.2.2.2.2.2.1.1.ext OL0.2) (g := (mkF m 0 #[.val (.ref b167)] [])) rfl (hb hby own_d_jdk_42_method_152_code_0)
  obtain ⟨T205, X205, e205, st205⟩ := getF X204 hx hZ hown (host := "") (Or.inl (hw _ (List.mem_of_getElem? (i := 99) rfl))) Via.refl e204 G_F_b167_java_lang_String_coder (g := (mkF m 7 #[.val (.ref b167)] [(.ref b167)])) rfl rfl (hb hby own_d_jdk_42_method_152_code_7)
  obtain ⟨fs, hr, hrun, hended, hW, hsame⟩ := X205.leave (v := some (.int (0 : Int32))) (fun h => by rw [Bd.returns] at h; cases h)
  refine ⟨_, _, pre0 _ ?_, hrun, hended, _, _, rfl, ?_, ⟨_, rfl⟩, hW, hsame.mono (by decide) (by decide)⟩
  · show Steps p.tables e below (s₁.setTop (mkF m 0 #[.val (.ref b167)] [])) _
    refine st204 _ ?_
    show Steps p.tables e below (T204.setTop (mkF m 3 #[.val (.ref b167)] [(.int cs)])) _
    refine XS.ifNo X204.here hx rfl (hb hby own_d_jdk_42_method_152_code_3) rfl ((if0 _ _).trans (feq EN.2.2.2.2.2.2.2.1.2.1).1) ?_
    show Steps p.tables e below (T204.setTop (mkF m 6 #[.val (.ref b167)] [])) _
    refine XS.aloadN X204.here hx rfl (hb hby own_d_jdk_42_method_152_code_6) rfl rfl ?_
    refine st205 _ ?_
    show Steps p.tables e below (T205.setTop (mkF m 10 #[.val (.ref b167)] [(.int (0 : Int32))])) _
    refine XS.goto X205.here hx rfl (pc0 := 10) (pc' := 14) rfl (hb hby own_d_jdk_42_method_152_code_10) (by decide) (by decide) ?_
    exact retN X205 hx (t := .byte) Bd.returns (by simp) (hb hby own_d_jdk_42_method_152_code_14) hr
  · show PQ (some (.int (0 : Int32))) h0 n0 _ T205.heap _
    rw [e205]
    exact ⟨rfl, N0, rfl⟩
theorem own_d_jdk_42_method_54_code_0 : decode jdk_42_method_54_code 0 = .ok (.aload_n 0, 1) := by decide +kernel
theorem own_d_jdk_42_method_54_code_1 : decode jdk_42_method_54_code 1 = .ok (.getfield 9, 3) := by decide +kernel
theorem own_d_jdk_42_method_54_code_4 : decode jdk_42_method_54_code 4 = .ok (.arraylength, 1) := by decide +kernel
theorem own_d_jdk_42_method_54_code_5 : decode jdk_42_method_54_code 5 = .ok (.aload_n 0, 1) := by decide +kernel
theorem own_d_jdk_42_method_54_code_6 : decode jdk_42_method_54_code 6 = .ok (.invokevirtual 335, 3) := by decide +kernel
theorem own_d_jdk_42_method_54_code_9 : decode jdk_42_method_54_code 9 = .ok (.ishr, 1) := by decide +kernel
theorem own_d_jdk_42_method_54_code_10 : decode jdk_42_method_54_code 10 = .ok (.ireturn, 1) := by decide +kernel
theorem own_ef_rm21 (m : MethodId) (p1 : Int32) (p2 : Int32) (p3 : Int32) (A : Nat → Addr) (K : Nat → ClassId) (cs : Int32)  (b167 : Addr) (b201_b198_b186_b172 : Addr) (k201_k198_k186_k172 : ClassId) : entryFrame m #[(.ref b167)] 1 = mkF m 0 #[.val (.ref b167)] [] := by first | (simp [entryFrame, mkF, argsToLocals, Value.category, maxLocals]; done) | rfl
set_option maxRecDepth 65536 in
set_option maxHeartbeats 40000000 in
theorem rm21 (l : Launch) (Z : State) (a0 : Array Value) (hw : ∀ d ∈ tables_1, d.before a0 Z = true) (ws : List Jvm.Cond) (h0 : Heap) (n0 : Nat) (p1 : Int32) (p2 : Int32) (p3 : Int32) (A : Nat → Addr) (K : Nat → ClassId) (cs : Int32)  (b167 : Addr) (b201_b198_b186_b172 : Addr) (k201_k198_k186_k172 : ClassId) (EN : own_St Z A K cs) (OL0 : Old Z n0 h0) (G_F_b167_java_lang_String_value : Fld Z h0 b167 "java/lang/String" "value" "[B" (.ref b201_b198_b186_b172)) (G_A_b201_b198_b186_b172 : Arv Z h0 b201_b198_b186_b172 k201_k198_k186_k172 .byte (3 : Int32) [(.int (nar .byte ((nar .char (own_C p2)).toInt8.toInt32))), (.int (32 : Int32)), (.int (nar .byte ((nar .char (own_C p3)).toInt8.toInt32)))] (.int (0 : Int32))) (G_E_b167 : Exa Z h0 b167 "java/lang/String") (G_F_b167_java_lang_String_coder : Fld Z h0 b167 "java/lang/String" "coder" "B" (.int (0 : Int32))) :
    MetFree l own_m1 (head1 (Jvm.Cond.code own_m1 jdk_42_method_54_code 1 (some .int) :: ws) ({ frames := 1, cells := 0, slots := 0, locals := 13 } : Room)) (fun a U => a = #[(.ref b167)] ∧ Z.Warmed39 U.vm ∧ U.heap = h0) (fun _ _ _ _ _ => True) (fun _ U o U' => ∃ v L, o = .returned v ∧ (PQ (some (.int (3 : Int32))) h0 n0) v U'.heap L ∧ FrameEnd U o U' L ({ frames := 1, cells := 0, slots := 0, locals := 13 } : Room).cells ({ frames := 1, cells := 0, slots := 0, locals := 13 } : Room).slots) := by
  refine MetFree.of_bodySF (plainFor_of_name own_pn3) hisR ?_
  intro p e s m args below meth c s₁ Bd hml0 hP hK
  obtain ⟨rfl, hZ, hh⟩ := hP
  have hx := Bd.exec
  have hby := Bd.bytes
  have hml : c.maxLocals = 1 := hml0
  have hown : s.vm.findClass "java/lang/String" = some m.cls := findClass_of_methodNamed Bd.named
  have hnm := (name_of_methodNamed Bd.named Bd.method).1
  have X0 : Stand p l e ({ frames := 1, cells := 0, slots := 0, locals := 13 } : Room) s m #[(.ref b167)] below meth c s₁ [] 0 0 := Stand.of_body Bd
  have e0 : s₁.heap = h0 := by rw [← hh, Bd.state]; rfl
  have N0 := Fr.nil n0
  have pre0 : ∀ t, Steps p.tables e below (s₁.setTop (mkF m 0 #[.val (.ref b167)] [])) t → Steps p.tables e below (s₁.setTop (entryFrame m #[(.ref b167)] 1)) t := fun t k => castTop (own_ef_rm21 m p1 p2 p3 A K cs b167 b201_b198_b186_b172 k201_k198_k186_k172) k
  have KK0 : Keep h0 h0 [] := Keep.refl _ _
  obtain ⟨T202, X202, e202, st202⟩ := getF X0 hx hZ hown (host := "") (Or.inl (hw _ (List.mem_of_getElem? (i := 101) rfl))) Via.refl e0 G_F_b167_java_lang_String_value (g := (mkF m 1 #[.val (.ref b167)] [(.ref b167)])) rfl rfl (hb hby own_d_jdk_42_method_54_code_1)
  obtain ⟨cl203, Ar203, -, Sz203, Nn203, -, -⟩ := (id G_A_b201_b198_b186_b172)
  obtain ⟨cq206, kq206, q206a, q206b, q206c⟩ := isOf hZ e202 G_E_b167
  obtain ⟨_, _, ⟨T206, L206, k206, n206⟩, -, X206, ⟨Lc206, hQ206, l206, y206, z206⟩, st206⟩ := X202.virtualBack hx (y := own_m15) (z := own_m15) hown (mvT hZ (hw _ (List.mem_of_getElem? (i := 113) rfl))) (mvT hZ (hw _ (List.mem_of_getElem? (i := 114) rfl))) (notFace_of_selects (args := #[]) (mvT hZ (hw _ (List.mem_of_getElem? (i := 116) rfl)))) (mvT hZ (hw _ (List.mem_of_getElem? (i := 116) rfl))) (mvT hZ (hw _ (List.mem_of_getElem? (i := 115) rfl))) (by decide) (backOf (W := 1) (rm22 l Z a0 hw [] h0 n0 p1 p2 p3 A K cs b167 EN OL0 G_F_b167_java_lang_String_coder) hZ (hw _ (List.mem_of_getElem? (i := 117) rfl)) (hw _ (List.mem_of_getElem? (i := 76) rfl)) (by decide) (by decide)) q206a q206c (g := (mkF m 6 #[.val (.ref b167)] [(.ref b167), (.int (3 : Int32))])) rfl (by rw [hml]; rfl) (Steps.refl _) (argsL := []) (rest := [(.int (3 : Int32))]) (lenOf own_pd7 rfl) rfl (by show 2 * 0 + _ ≤ _; exact Nat.le_of_eq rfl) (hb hby own_d_jdk_42_method_54_code_6) (fun _ _ => ⟨rfl, e202, (by decide : 0 + 0 ≤ _), (by decide : 0 + 0 ≤ _)⟩)
  dsimp only [Pt.U, Pt.locs, Pt.cells, Pt.slots] at X206 l206 y206 z206 st206 hQ206
  replace X206 := own_sub X206 l206 y206 z206
  obtain ⟨rfl, N206q, e206⟩ := hQ206
  have N206 := Fr.app N0 N206q
  obtain ⟨fs, hr, hrun, hended, hW, hsame⟩ := X206.leave (v := some (.int (3 : Int32))) (fun h => by rw [Bd.returns] at h; cases h)
  refine ⟨_, _, pre0 _ ?_, hrun, hended, _, _, rfl, ?_, ⟨_, rfl⟩, hW, hsame.mono (by decide) (by decide)⟩
  · show Steps p.tables e below (s₁.setTop (mkF m 0 #[.val (.ref b167)] [])) _
    refine XS.aloadN X0.here hx rfl (hb hby own_d_jdk_42_method_54_code_0) rfl rfl ?_
    refine st202 _ ?_
    show Steps p.tables e below (T202.setTop (mkF m 4 #[.val (.ref b167)] [(.ref b201_b198_b186_b172)])) _
    refine X202.arraylength hx (by rw [e202]; exact Ar203.1) (State.isArrayOf_alike hZ.alike Ar203.2.1) (g := (mkF m 4 #[.val (.ref b167)] [(.ref b201_b198_b186_b172)])) rfl rfl (hb hby own_d_jdk_42_method_54_code_4) _ ?_
    rw [len_of Sz203 Nn203]
    show Steps p.tables e below (T202.setTop (mkF m 5 #[.val (.ref b167)] [(.int (3 : Int32))])) _
    refine XS.aloadN X202.here hx rfl (hb hby own_d_jdk_42_method_54_code_5) rfl rfl ?_
    refine st206.trans ?_
    show Steps p.tables e below (T206.setTop (mkF m 9 #[.val (.ref b167)] [(.int (0 : Int32)), (.int (3 : Int32))])) _
    refine XS.ishr X206.here hx rfl (hb hby own_d_jdk_42_method_54_code_9) rfl ?_
    show Steps p.tables e below (T206.setTop (mkF m 10 #[.val (.ref b167)] [(.int (3 : Int32))])) _
    exact retI X206 hx Bd.returns (hb hby own_d_jdk_42_method_54_code_10) hr
  · show PQ (some (.int (3 : Int32))) h0 n0 _ T206.heap _
    rw [e206]
    exact ⟨rfl, N206, rfl⟩
theorem own_d_jdk_37_method_2_code_0 : decode jdk_37_method_2_code 0 = .ok (.aload_n 0, 1) := by decide +kernel
theorem own_d_jdk_37_method_2_code_1 : decode jdk_37_method_2_code 1 = .ok (.getfield 7, 3) := by decide +kernel
theorem own_d_jdk_37_method_2_code_4 : decode jdk_37_method_2_code 4 = .ok (.ireturn, 1) := by decide +kernel
theorem own_pn4 : plainName "java/lang/Enum" = true := by first | (simp [plainName, overriddenIn]; done) | decide +kernel
theorem own_ef_rm23 (m : MethodId) (p1 : Int32) (p2 : Int32) (p3 : Int32) (A : Nat → Addr) (K : Nat → ClassId) (cs : Int32)  : entryFrame m #[(.ref (A 13))] 1 = mkF m 0 #[.val (.ref (A 13))] [] := by first | (simp [entryFrame, mkF, argsToLocals, Value.category, maxLocals]; done) | rfl
set_option maxRecDepth 65536 in
set_option maxHeartbeats 40000000 in
theorem rm23 (l : Launch) (Z : State) (a0 : Array Value) (hw : ∀ d ∈ tables_1, d.before a0 Z = true) (ws : List Jvm.Cond) (h0 : Heap) (n0 : Nat) (p1 : Int32) (p2 : Int32) (p3 : Int32) (A : Nat → Addr) (K : Nat → ClassId) (cs : Int32)  (EN : own_St Z A K cs) (OL0 : Old Z n0 h0) :
    MetFree l own_m8 (head1 (Jvm.Cond.code own_m8 jdk_37_method_2_code 1 (some .int) :: ws) ({ frames := 0, cells := 0, slots := 0, locals := 0 } : Room)) (fun a U => a = #[(.ref (A 13))] ∧ Z.Warmed39 U.vm ∧ U.heap = h0) (fun _ _ _ _ _ => True) (fun _ U o U' => ∃ v L, o = .returned v ∧ (PQ (some (.int (13 : Int32))) h0 n0) v U'.heap L ∧ FrameEnd U o U' L ({ frames := 0, cells := 0, slots := 0, locals := 0 } : Room).cells ({ frames := 0, cells := 0, slots := 0, locals := 0 } : Room).slots) := by
  refine MetFree.of_bodySF (plainFor_of_name own_pn4) hisR ?_
  intro p e s m args below meth c s₁ Bd hml0 hP hK
  obtain ⟨rfl, hZ, hh⟩ := hP
  have hx := Bd.exec
  have hby := Bd.bytes
  have hml : c.maxLocals = 1 := hml0
  have hown : s.vm.findClass "java/lang/Enum" = some m.cls := findClass_of_methodNamed Bd.named
  have hnm := (name_of_methodNamed Bd.named Bd.method).1
  have X0 : Stand p l e ({ frames := 0, cells := 0, slots := 0, locals := 0 } : Room) s m #[(.ref (A 13))] below meth c s₁ [] 0 0 := Stand.of_body Bd
  have e0 : s₁.heap = h0 := by rw [← hh, Bd.state]; rfl
  have N0 := Fr.nil n0
  have pre0 : ∀ t, Steps p.tables e below (s₁.setTop (mkF m 0 #[.val (.ref (A 13))] [])) t → Steps p.tables e below (s₁.setTop (entryFrame m #[(.ref (A 13))] 1)) t := fun t k => castTop (own_ef_rm23 m p1 p2 p3 A K cs ) k
  have KK0 : Keep h0 h0 [] := Keep.refl _ _
  obtain ⟨T208, X208, e208, st208⟩ := getF X0 hx hZ hown (host := "") (Or.inl (hw _ (List.mem_of_getElem? (i := 125) rfl))) Via.refl e0 (EN.2.2.2.2.2.2.2.1.2.2.2.2.1.ext OL0.2) (g := (mkF m 1 #[.val (.ref (A 13))] [(.ref (A 13))])) rfl rfl (hb hby own_d_jdk_37_method_2_code_1)
  obtain ⟨fs, hr, hrun, hended, hW, hsame⟩ := X208.leave (v := some (.int (13 : Int32))) (fun h => by rw [Bd.returns] at h; cases h)
  refine ⟨_, _, pre0 _ ?_, hrun, hended, _, _, rfl, ?_, ⟨_, rfl⟩, hW, hsame.mono (by decide) (by decide)⟩
  · show Steps p.tables e below (s₁.setTop (mkF m 0 #[.val (.ref (A 13))] [])) _
    refine XS.aloadN X0.here hx rfl (hb hby own_d_jdk_37_method_2_code_0) rfl rfl ?_
    refine st208 _ ?_
    show Steps p.tables e below (T208.setTop (mkF m 4 #[.val (.ref (A 13))] [(.int (13 : Int32))])) _
    exact retI X208 hx Bd.returns (hb hby own_d_jdk_37_method_2_code_4) hr
  · show PQ (some (.int (13 : Int32))) h0 n0 _ T208.heap _
    rw [e208]
    exact ⟨rfl, N0, rfl⟩
theorem own_d_prog_40_method_7_code_0 : decode prog_40_method_7_code 0 = .ok (.aload_n 1, 1) := by decide +kernel
theorem own_d_prog_40_method_7_code_1 : decode prog_40_method_7_code 1 = .ok (.invokevirtual 107, 3) := by decide +kernel
theorem own_d_prog_40_method_7_code_4 : decode prog_40_method_7_code 4 = .ok (.istore_n 2, 1) := by decide +kernel
theorem own_d_prog_40_method_7_code_5 : decode prog_40_method_7_code 5 = .ok (.iload_n 2, 1) := by decide +kernel
theorem own_d_prog_40_method_7_code_6 : decode prog_40_method_7_code 6 = .ok (.ifCond .ne 5, 3) := by decide +kernel
theorem own_d_prog_40_method_7_code_11 : decode prog_40_method_7_code 11 = .ok (.aload_n 0, 1) := by decide +kernel
theorem own_d_prog_40_method_7_code_12 : decode prog_40_method_7_code 12 = .ok (.invokevirtual 113, 3) := by decide +kernel
theorem own_d_prog_40_method_7_code_15 : decode prog_40_method_7_code 15 = .ok (.tableswitch 125 0 27 #[135, 135, 165, 182, 199, 199, 199, 199, 199, 199, 215, 228, 287, 287, 287, 280, 287, 254, 267, 291, 291, 308, 324, 346, 365, 388, 287, 287], 125) := by decide +kernel
theorem own_d_prog_40_method_7_code_302 : decode prog_40_method_7_code 302 = .ok (.iconst 1, 1) := by decide +kernel
theorem own_d_prog_40_method_7_code_303 : decode prog_40_method_7_code 303 = .ok (.goto 123, 3) := by decide +kernel
theorem own_d_prog_40_method_7_code_426 : decode prog_40_method_7_code 426 = .ok (.ireturn, 1) := by decide +kernel
theorem own_ef_rm20 (m : MethodId) (p1 : Int32) (p2 : Int32) (p3 : Int32) (A : Nat → Addr) (K : Nat → ClassId) (cs : Int32)  (b167 : Addr) (b201_b198_b186_b172 : Addr) (k201_k198_k186_k172 : ClassId) : entryFrame m #[(.ref (A 13)), (.ref b167)] 3 = mkF m 0 #[.val (.ref (A 13)), .val (.ref b167), .unset] [] := by first | (simp [entryFrame, mkF, argsToLocals, Value.category, maxLocals]; done) | rfl
set_option maxRecDepth 65536 in
set_option maxHeartbeats 40000000 in
theorem rm20 (l : Launch) (Z : State) (a0 : Array Value) (hw : ∀ d ∈ tables_1, d.before a0 Z = true) (ws : List Jvm.Cond) (h0 : Heap) (n0 : Nat) (p1 : Int32) (p2 : Int32) (p3 : Int32) (A : Nat → Addr) (K : Nat → ClassId) (cs : Int32)  (b167 : Addr) (b201_b198_b186_b172 : Addr) (k201_k198_k186_k172 : ClassId) (EN : own_St Z A K cs) (OL0 : Old Z n0 h0) (G_E_b167 : Exa Z h0 b167 "java/lang/String") (G_F_b167_java_lang_String_value : Fld Z h0 b167 "java/lang/String" "value" "[B" (.ref b201_b198_b186_b172)) (G_A_b201_b198_b186_b172 : Arv Z h0 b201_b198_b186_b172 k201_k198_k186_k172 .byte (3 : Int32) [(.int (nar .byte ((nar .char (own_C p2)).toInt8.toInt32))), (.int (32 : Int32)), (.int (nar .byte ((nar .char (own_C p3)).toInt8.toInt32)))] (.int (0 : Int32))) (G_F_b167_java_lang_String_coder : Fld Z h0 b167 "java/lang/String" "coder" "B" (.int (0 : Int32))) :
    MetFree l own_m3 (head1 (Jvm.Cond.code own_m3 prog_40_method_7_code 3 (some .boolean) :: ws) ({ frames := 2, cells := 0, slots := 0, locals := 25 } : Room)) (fun a U => a = #[(.ref (A 13)), (.ref b167)] ∧ Z.Warmed39 U.vm ∧ U.heap = h0) (fun _ _ _ _ _ => True) (fun _ U o U' => ∃ v L, o = .returned v ∧ (PQ (some (.int (1 : Int32))) h0 n0) v U'.heap L ∧ FrameEnd U o U' L ({ frames := 2, cells := 0, slots := 0, locals := 25 } : Room).cells ({ frames := 2, cells := 0, slots := 0, locals := 25 } : Room).slots) := by
  refine MetFree.of_bodySF (plainFor_of_name own_pn1) hisR ?_
  intro p e s m args below meth c s₁ Bd hml0 hP hK
  obtain ⟨rfl, hZ, hh⟩ := hP
  have hx := Bd.exec
  have hby := Bd.bytes
  have hml : c.maxLocals = 3 := hml0
  have hown : s.vm.findClass "com/example/tallywire/tallywire/wire/FieldType" = some m.cls := findClass_of_methodNamed Bd.named
  have hnm := (name_of_methodNamed Bd.named Bd.method).1
  have X0 : Stand p l e ({ frames := 2, cells := 0, slots := 0, locals := 25 } : Room) s m #[(.ref (A 13)), (.ref b167)] below meth c s₁ [] 0 0 := Stand.of_body Bd
  have e0 : s₁.heap = h0 := by rw [← hh, Bd.state]; rfl
  have N0 := Fr.nil n0
  have pre0 : ∀ t, Steps p.tables e below (s₁.setTop (mkF m 0 #[.val (.ref (A 13)), .val (.ref b167), .unset] [])) t → Steps p.tables e below (s₁.setTop (entryFrame m #[(.ref (A 13)), (.ref b167)] 3)) t := fun t k => castTop (own_ef_rm20 m p1 p2 p3 A K cs b167 b201_b198_b186_b172 k201_k198_k186_k172) k
  have KK0 : Keep h0 h0 [] := Keep.refl _ _
  obtain ⟨cq207, kq207, q207a, q207b, q207c⟩ := isOf hZ e0 G_E_b167
  obtain ⟨_, _, ⟨T207, L207, k207, n207⟩, -, X207, ⟨Lc207, hQ207, l207, y207, z207⟩, st207⟩ := X0.virtualBack hx (y := own_m1) (z := own_m1) hown (mvT hZ (hw _ (List.mem_of_getElem? (i := 108) rfl))) (mvT hZ (hw _ (List.mem_of_getElem? (i := 109) rfl))) (notFace_of_selects (args := #[]) (mvT hZ (hw _ (List.mem_of_getElem? (i := 111) rfl)))) (mvT hZ (hw _ (List.mem_of_getElem? (i := 111) rfl))) (mvT hZ (hw _ (List.mem_of_getElem? (i := 110) rfl))) (by decide) (backOf (W := 0) (rm21 l Z a0 hw [] h0 n0 p1 p2 p3 A K cs b167 b201_b198_b186_b172 k201_k198_k186_k172 EN OL0 G_F_b167_java_lang_String_value G_A_b201_b198_b186_b172 G_E_b167 G_F_b167_java_lang_String_coder) hZ (hw _ (List.mem_of_getElem? (i := 112) rfl)) (hw _ (List.mem_of_getElem? (i := 76) rfl)) (by decide) (by decide)) q207a q207c (g := (mkF m 1 #[.val (.ref (A 13)), .val (.ref b167), .unset] [(.ref b167)])) rfl (by rw [hml]; rfl) (Steps.refl _) (argsL := []) (rest := []) (lenOf own_pd8 rfl) rfl (by show 2 * 0 + _ ≤ _; exact Nat.le_of_eq rfl) (hb hby own_d_prog_40_method_7_code_1) (fun _ _ => ⟨rfl, e0, (by decide : 0 + 0 ≤ _), (by decide : 0 + 0 ≤ _)⟩)
  dsimp only [Pt.U, Pt.locs, Pt.cells, Pt.slots] at X207 l207 y207 z207 st207 hQ207
  replace X207 := own_sub X207 l207 y207 z207
  obtain ⟨rfl, N207q, e207⟩ := hQ207
  have N207 := Fr.app N0 N207q
  obtain ⟨cq209, kq209, q209a, q209b, q209c⟩ := isOf hZ e207 (EN.2.2.2.1.2.2.2.1.ext OL0.2)
  obtain ⟨_, _, ⟨T209, L209, k209, n209⟩, -, X209, ⟨Lc209, hQ209, l209, y209, z209⟩, st209⟩ := X207.virtualBackUp hx (x := own_m16) (y := own_m8) (owner := "java/lang/Enum") hown (mvT hZ (hw _ (List.mem_of_getElem? (i := 118) rfl))) (mvT hZ (hw _ (List.mem_of_getElem? (i := 119) rfl))) (mvT hZ (hw _ (List.mem_of_getElem? (i := 120) rfl))) (by decide) (mvT hZ (hw _ (List.mem_of_getElem? (i := 122) rfl))) (mvT hZ (hw _ (List.mem_of_getElem? (i := 121) rfl))) (backOf (W := 0) (rm23 l Z a0 hw [] h0 n0 p1 p2 p3 A K cs EN OL0) hZ (hw _ (List.mem_of_getElem? (i := 124) rfl)) (hw _ (List.mem_of_getElem? (i := 123) rfl)) (by decide) (by decide)) q209a q209c (g := (mkF m 12 #[.val (.ref (A 13)), .val (.ref b167), .val (.int (3 : Int32))] [(.ref (A 13))])) rfl (by rw [hml]; rfl) (Steps.refl _) (argsL := []) (rest := []) (lenOf own_pd8 rfl) rfl (by show 2 * 0 + _ ≤ _; exact Nat.le_of_eq rfl) (hb hby own_d_prog_40_method_7_code_12) (fun _ _ => ⟨rfl, e207, (by decide : 0 + 0 ≤ _), (by decide : 0 + 0 ≤ _)⟩)
  dsimp only [Pt.U, Pt.locs, Pt.cells, Pt.slots] at X209 l209 y209 z209 st209 hQ209
  replace X209 := own_sub X209 l209 y209 z209
  obtain ⟨rfl, N209q, e209⟩ := hQ209
  have N209 := Fr.app N207 N209q
  obtain ⟨fs, hr, hrun, hended, hW, hsame⟩ := X209.leave (v := some (.int (1 : Int32))) (fun h => by rw [Bd.returns] at h; cases h)
  refine ⟨_, _, pre0 _ ?_, hrun, hended, _, _, rfl, ?_, ⟨_, rfl⟩, hW, hsame.mono (by decide) (by decide)⟩
  · show Steps p.tables e below (s₁.setTop (mkF m 0 #[.val (.ref (A 13)), .val (.ref b167), .unset] [])) _
    refine XS.aloadN X0.here hx rfl (hb hby own_d_prog_40_method_7_code_0) rfl rfl ?_
    refine st207.trans ?_
    show Steps p.tables e below (T207.setTop (mkF m 4 #[.val (.ref (A 13)), .val (.ref b167), .unset] [(.int (3 : Int32))])) _
    refine XS.istoreN X207.here hx rfl (hb hby own_d_prog_40_method_7_code_4) rfl (l' := #[.val (.ref (A 13)), .val (.ref b167), .val (.int (3 : Int32))]) rfl ?_
    refine XS.iloadN X207.here hx rfl (hb hby own_d_prog_40_method_7_code_5) rfl ?_
    refine XS.ifYes X207.here hx rfl (pc0 := 6) (pc' := 11) rfl (hb hby own_d_prog_40_method_7_code_6) rfl ((if0 _ _).trans (feq (by decide : ¬ ((3 : Int32) = (0 : Int32)))).2) (by decide) (by decide) ?_
    show Steps p.tables e below (T207.setTop (mkF m 11 #[.val (.ref (A 13)), .val (.ref b167), .val (.int (3 : Int32))] [])) _
    refine XS.aloadN X207.here hx rfl (hb hby own_d_prog_40_method_7_code_11) rfl rfl ?_
    refine st209.trans ?_
    show Steps p.tables e below (T209.setTop (mkF m 15 #[.val (.ref (A 13)), .val (.ref b167), .val (.int (3 : Int32))] [(.int (13 : Int32))])) _
    refine XS.tswIn X209.here hx rfl (pc0 := 15) (pc' := 302) rfl (hb hby own_d_prog_40_method_7_code_15) rfl (by decide) (o := 287) (by decide) (by decide) (by decide) ?_
    show Steps p.tables e below (T209.setTop (mkF m 302 #[.val (.ref (A 13)), .val (.ref b167), .val (.int (3 : Int32))] [])) _
    refine XS.iconst X209.here hx rfl (hb hby own_d_prog_40_method_7_code_302) ?_
    refine XS.goto X209.here hx rfl (pc0 := 303) (pc' := 426) rfl (hb hby own_d_prog_40_method_7_code_303) (by decide) (by decide) ?_
    exact retN X209 hx (t := .boolean) Bd.returns (by simp) (hb hby own_d_prog_40_method_7_code_426) hr
  · show PQ (some (.int (1 : Int32))) h0 n0 _ T209.heap _
    rw [e209]
    exact ⟨rfl, N209, rfl⟩
theorem own_ef_rm24 (m : MethodId) (p1 : Int32) (p2 : Int32) (p3 : Int32) (A : Nat → Addr) (K : Nat → ClassId) (cs : Int32)  : entryFrame m #[(.ref (A 14))] 1 = mkF m 0 #[.val (.ref (A 14))] [] := by first | (simp [entryFrame, mkF, argsToLocals, Value.category, maxLocals]; done) | rfl
set_option maxRecDepth 65536 in
set_option maxHeartbeats 40000000 in
theorem rm24 (l : Launch) (Z : State) (a0 : Array Value) (hw : ∀ d ∈ tables_1, d.before a0 Z = true) (ws : List Jvm.Cond) (h0 : Heap) (n0 : Nat) (p1 : Int32) (p2 : Int32) (p3 : Int32) (A : Nat → Addr) (K : Nat → ClassId) (cs : Int32)  (EN : own_St Z A K cs) (OL0 : Old Z n0 h0) :
    MetFree l own_m0 (head1 (Jvm.Cond.code own_m0 prog_40_method_6_code 1 (some .boolean) :: ws) ({ frames := 0, cells := 0, slots := 0, locals := 0 } : Room)) (fun a U => a = #[(.ref (A 14))] ∧ Z.Warmed39 U.vm ∧ U.heap = h0) (fun _ _ _ _ _ => True) (fun _ U o U' => ∃ v L, o = .returned v ∧ (PQ (some (.int (1 : Int32))) h0 n0) v U'.heap L ∧ FrameEnd U o U' L ({ frames := 0, cells := 0, slots := 0, locals := 0 } : Room).cells ({ frames := 0, cells := 0, slots := 0, locals := 0 } : Room).slots) := by
  refine MetFree.of_bodySF (plainFor_of_name own_pn1) hisR ?_
  intro p e s m args below meth c s₁ Bd hml0 hP hK
  obtain ⟨rfl, hZ, hh⟩ := hP
  have hx := Bd.exec
  have hby := Bd.bytes
  have hml : c.maxLocals = 1 := hml0
  have hown : s.vm.findClass "com/example/tallywire/tallywire/wire/FieldType" = some m.cls := findClass_of_methodNamed Bd.named
  have hnm := (name_of_methodNamed Bd.named Bd.method).1
  have X0 : Stand p l e ({ frames := 0, cells := 0, slots := 0, locals := 0 } : Room) s m #[(.ref (A 14))] below meth c s₁ [] 0 0 := Stand.of_body Bd
  have e0 : s₁.heap = h0 := by rw [← hh, Bd.state]; rfl
  have N0 := Fr.nil n0
  have pre0 : ∀ t, Steps p.tables e below (s₁.setTop (mkF m 0 #[.val (.ref (A 14))] [])) t → Steps p.tables e below (s₁.setTop (entryFrame m #[(.ref (A 14))] 1)) t := fun t k => castTop (own_ef_rm24 m p1 p2 p3 A K cs ) k
  have KK0 : Keep h0 h0 [] := Keep.refl _ _
  obtain ⟨T212, X212, e212, st212⟩ := getS2 X0 hx hZ hown (host := "") (Or.inl (hw _ (List.mem_of_getElem? (i := 66) rfl))) Via.refl e0 (EN.2.2.2.1.2.2.1.ext OL0.2) (g := (mkF m 1 #[.val (.ref (A 14))] [(.ref (A 14))])) rfl (hb hby own_d_prog_40_method_6_code_1)
  obtain ⟨T213, X213, e213, st213⟩ := getS2 X212 hx hZ hown (host := "") (Or.inl (hw _ (List.mem_of_getElem? (i := 67) rfl))) Via.refl e212 (EN.2.2.2.1.2.2.2.2.1.ext OL0.2) (g := (mkF m 8 #[.val (.ref (A 14))] [(.ref (A 14))])) rfl (hb hby own_d_prog_40_method_6_code_8)
  obtain ⟨fs, hr, hrun, hended, hW, hsame⟩ := X213.leave (v := some (.int (1 : Int32))) (fun h => by rw [Bd.returns] at h; cases h)
  refine ⟨_, _, pre0 _ ?_, hrun, hended, _, _, rfl, ?_, ⟨_, rfl⟩, hW, hsame.mono (by decide) (by decide)⟩
  · show Steps p.tables e below (s₁.setTop (mkF m 0 #[.val (.ref (A 14))] [])) _
    refine XS.aloadN X0.here hx rfl (hb hby own_d_prog_40_method_6_code_0) rfl rfl ?_
    refine st212 _ ?_
    show Steps p.tables e below (T212.setTop (mkF m 4 #[.val (.ref (A 14))] [(.ref (A 13)), (.ref (A 14))])) _
    refine Jvm.RoadKit.acmp (g := (mkF m 4 #[.val (.ref (A 14))] [(.ref (A 13)), (.ref (A 14))])) X212 hx rfl rfl rfl (pc0 := 4) (pc' := 7) (same := false) rfl (hb hby own_d_prog_40_method_6_code_4) rfl (decide_eq_false fun q => (Fld.ne EN.2.2.2.2.2.2.2.1.2.2.2.2.2.1 EN.2.2.2.2.2.2.2.1.2.2.2.2.1 (fun h => by injection h with h; exact absurd h (by decide))) (Value.ref.inj q)) (by decide) (by decide) ?_
    show Steps p.tables e below (T212.setTop (mkF m 7 #[.val (.ref (A 14))] [])) _
    refine XS.aloadN X212.here hx rfl (hb hby own_d_prog_40_method_6_code_7) rfl rfl ?_
    refine st213 _ ?_
    show Steps p.tables e below (T213.setTop (mkF m 11 #[.val (.ref (A 14))] [(.ref (A 14)), (.ref (A 14))])) _
    refine Jvm.RoadKit.acmp (g := (mkF m 11 #[.val (.ref (A 14))] [(.ref (A 14)), (.ref (A 14))])) X213 hx rfl rfl rfl (pc0 := 11) (pc' := 21) (same := true) rfl (hb hby own_d_prog_40_method_6_code_11) rfl (decide_eq_true rfl) (by decide) (by decide) ?_
    show Steps p.tables e below (T213.setTop (mkF m 21 #[.val (.ref (A 14))] [])) _
    refine XS.iconst X213.here hx rfl (hb hby own_d_prog_40_method_6_code_21) ?_
    refine XS.goto X213.here hx rfl (pc0 := 22) (pc' := 26) rfl (hb hby own_d_prog_40_method_6_code_22) (by decide) (by decide) ?_
    exact retN X213 hx (t := .boolean) Bd.returns (by simp) (hb hby own_d_prog_40_method_6_code_26) hr
  · show PQ (some (.int (1 : Int32))) h0 n0 _ T213.heap _
    rw [e213]
    exact ⟨rfl, N0, rfl⟩
def Q_rm27 (Z : State) (p1 : Int32) (p2 : Int32) (p3 : Int32) (A : Nat → Addr) (K : Nat → ClassId) (cs : Int32) (b3 : Addr) (b215 : Addr) (b224 : Addr) (k215 : ClassId) (k3 : ClassId) (h0 : Heap) (n0 : Nat) (v : Option Value) (h : Heap) (L : List Loc) : Prop := ∃ b229 : Addr, ∃ k229 : ClassId, v = (some (.ref b229)) ∧ Fr n0 L ∧ Keep h0 h [] ∧ (n0 ≤ b229 ∧ h0.size ≤ b229) ∧ (Arv Z h b229 k229 .byte (3 : Int32) [(.int (nar .byte ((nar .char (own_C p2)).toInt8.toInt32))), (.int (32 : Int32)), (.int (nar .byte ((nar .char (own_C p3)).toInt8.toInt32)))] (.int (0 : Int32)))
theorem own_ef_rm27 (m : MethodId) (p1 : Int32) (p2 : Int32) (p3 : Int32) (A : Nat → Addr) (K : Nat → ClassId) (cs : Int32)  (b3 : Addr) (b215 : Addr) (b224 : Addr) (k215 : ClassId) (k3 : ClassId) : entryFrame m #[(.ref b215), (.int (0 : Int32)), (.int (3 : Int32))] 6 = mkF m 0 #[.val (.ref b215), .val (.int (0 : Int32)), .val (.int (3 : Int32)), .unset, .unset, .unset] [] := by first | (simp [entryFrame, mkF, argsToLocals, Value.category, maxLocals]; done) | rfl
set_option maxRecDepth 65536 in
set_option maxHeartbeats 40000000 in
theorem rm27 (l : Launch) (Z : State) (a0 : Array Value) (hw : ∀ d ∈ tables_1, d.before a0 Z = true) (ws : List Jvm.Cond) (h0 : Heap) (n0 : Nat) (p1 : Int32) (p2 : Int32) (p3 : Int32) (A : Nat → Addr) (K : Nat → ClassId) (cs : Int32)  (b3 : Addr) (b215 : Addr) (b224 : Addr) (k215 : ClassId) (k3 : ClassId) (EN : own_St Z A K cs) (OL0 : Old Z n0 h0) (G_A_b3 : Arv Z h0 b3 k3 (.object "com/example/tallywire/tallywire/wire/FieldType") (28 : Int32) [(.ref (A 0)), (.ref (A 1)), (.ref (A 2)), (.ref (A 3)), (.ref (A 4)), (.ref (A 5)), (.ref (A 6)), (.ref (A 7)), (.ref (A 8)), (.ref (A 9)), (.ref (A 10)), (.ref (A 11)), (.ref (A 12)), (.ref (A 13)), (.ref (A 14)), (.ref (A 15)), (.ref (A 16)), (.ref (A 17)), (.ref (A 18)), (.ref (A 19)), (.ref (A 20)), (.ref (A 21)), (.ref (A 22)), (.ref (A 23)), (.ref (A 24)), (.ref (A 25)), (.ref (A 26)), (.ref (A 27))] .null) (G_A_b215 : Arv Z h0 b215 k215 .char (3 : Int32) [(.int (nar .char (own_C p2))), (.int (32 : Int32)), (.int (nar .char (own_C p3)))] (.int (0 : Int32))) (G_E_b224 : Exa Z h0 b224 "java/lang/String") :
    MetFree l own_m5 (head1 (Jvm.Cond.code own_m5 jdk_52_method_16_code 6 (some (.array .byte)) :: ws) ({ frames := 1, cells := 1, slots := 3, locals := 18 } : Room)) (fun a U => a = #[(.ref b215), (.int (0 : Int32)), (.int (3 : Int32))] ∧ Z.Warmed39 U.vm ∧ U.heap = h0) (fun _ _ _ _ _ => True) (fun _ U o U' => ∃ v L, o = .returned v ∧ Q_rm27 Z p1 p2 p3 A K cs b3 b215 b224 k215 k3 h0 n0 v U'.heap L ∧ FrameEnd U o U' L ({ frames := 1, cells := 1, slots := 3, locals := 18 } : Room).cells ({ frames := 1, cells := 1, slots := 3, locals := 18 } : Room).slots) := by
  refine MetFree.of_bodySF (plainFor_of_name own_pn2) hisR ?_
  intro p e s m args below meth c s₁ Bd hml0 hP hK
  obtain ⟨rfl, hZ, hh⟩ := hP
  have hx := Bd.exec
  have hby := Bd.bytes
  have hml : c.maxLocals = 6 := hml0
  have hown : s.vm.findClass "java/lang/StringUTF16" = some m.cls := findClass_of_methodNamed Bd.named
  have hnm := (name_of_methodNamed Bd.named Bd.method).1
  have X0 : Stand p l e ({ frames := 1, cells := 1, slots := 3, locals := 18 } : Room) s m #[(.ref b215), (.int (0 : Int32)), (.int (3 : Int32))] below meth c s₁ [] 0 0 := Stand.of_body Bd
  have e0 : s₁.heap = h0 := by rw [← hh, Bd.state]; rfl
  have N0 := Fr.nil n0
  have pre0 : ∀ t, Steps p.tables e below (s₁.setTop (mkF m 0 #[.val (.ref b215), .val (.int (0 : Int32)), .val (.int (3 : Int32)), .unset, .unset, .unset] [])) t → Steps p.tables e below (s₁.setTop (entryFrame m #[(.ref b215), (.int (0 : Int32)), (.int (3 : Int32))] 6)) t := fun t k => castTop (own_ef_rm27 m p1 p2 p3 A K cs b3 b215 b224 k215 k3) k
  have KK0 : Keep h0 h0 [] := Keep.refl _ _
  obtain ⟨T229, h229, k229, X229, e229, E229, A229, st229⟩ := newP X0 hx hZ (hw _ (List.mem_of_getElem? (i := 92) rfl)) e0 (g := (mkF m 1 #[.val (.ref b215), .val (.int (0 : Int32)), .val (.int (3 : Int32)), .unset, .unset, .unset] [(.int (3 : Int32))])) rfl (hb hby own_d_jdk_52_method_16_code_1) rfl (by decide) (cap := 3) (by decide) (by decide) (by decide) (by decide)
  obtain ⟨b229, g229⟩ : ∃ z, z = h0.size := ⟨_, rfl⟩
  rw [← g229] at A229 st229
  have gn_b229 : n0 ≤ b229 := Nat.le_trans (OL0.1 ▸ OL0.2.1) (Nat.le_of_eq g229.symm)
  have sz_b229 : h0.size ≤ b229 := Nat.le_trans KK0.1 (Nat.le_of_eq g229.symm)
  have lt_b3_b229 : b3 < b229 := Nat.lt_of_lt_of_le G_A_b3.lt (Nat.le_of_eq g229.symm)
  have lt_b215_b229 : b215 < b229 := Nat.lt_of_lt_of_le G_A_b215.lt (Nat.le_of_eq g229.symm)
  have lt_b224_b229 : b224 < b229 := Nat.lt_of_lt_of_le G_E_b224.lt (Nat.le_of_eq g229.symm)
  have OL229 : Old Z n0 h229 := OL0.ext E229
  have KK229 : Keep h0 h229 [] := KK0.ext E229
  have V229 : Arv Z h229 b229 k229 .byte (3 : Int32) [] (.int (0 : Int32)) := Arv.new A229 (by decide)
  have fx230 : Arv Z h229 b215 k215 .char (3 : Int32) [(.int (nar .char (own_C p2))), (.int (32 : Int32)), (.int (nar .char (own_C p3)))] (.int (0 : Int32)) := (G_A_b215.ext E229)
  obtain ⟨_, _, ⟨T231, L231, k231, n231⟩, -, X231, ⟨Lc231, hQ231, l231, y231, z231⟩, st231⟩ := Jvm.LawKit.callS X229 hx (y := own_m13) hown (mvT hZ (hw _ (List.mem_of_getElem? (i := 93) rfl))) (mvT hZ (hw _ (List.mem_of_getElem? (i := 94) rfl))) (mvT hZ (hw _ (List.mem_of_getElem? (i := 90) rfl))) (mvT hZ (hw _ (List.mem_of_getElem? (i := 95) rfl))) (by decide) (backOf (W := 0) (rm18 l Z a0 hw [] h229 n0 p1 p2 p3 A K cs b215 b229 k215 k229 EN OL229 fx230 V229 (Nat.ne_of_lt lt_b215_b229) gn_b229) hZ (hw _ (List.mem_of_getElem? (i := 95) rfl)) (hw _ (List.mem_of_getElem? (i := 90) rfl)) (by decide) (by decide)) (g := (mkF m 9 #[.val (.ref b215), .val (.int (0 : Int32)), .val (.int (3 : Int32)), .val (.ref b229), .unset, .unset] [(.int (3 : Int32)), (.int (0 : Int32)), (.ref b229), (.int (0 : Int32)), (.ref b215)])) rfl (by rw [hml]; rfl) (argsL := [(.ref b215), (.int (0 : Int32)), (.ref b229), (.int (0 : Int32)), (.int (3 : Int32))]) (rest := []) (lenOf own_pd2 rfl) rfl (by show 2 * 0 + _ ≤ _; exact Nat.le_of_eq rfl) (hb hby own_d_jdk_52_method_16_code_9) (fun _ _ => ⟨rfl, e229, (by decide : 1 + 0 ≤ _), (by decide : 3 + 0 ≤ _)⟩)
  dsimp only [Pt.U, Pt.locs, Pt.cells, Pt.slots] at X231 l231 y231 z231 st231 hQ231
  replace X231 := own_sub X231 l231 y231 z231
  obtain ⟨rfl, N231q, K231c, f231_0⟩ := hQ231
  have N231 := Fr.app N0 N231q
  have OL231 : Old Z n0 T231.heap := OL229.keep K231c (allS gn_b229 all0)
  have KK231 : Keep h0 T231.heap [] := KK229.trans K231c (allS (Or.inr sz_b229) all0)
  obtain ⟨fs, hr, hrun, hended, hW, hsame⟩ := X231.leave (v := some (.ref b229)) (fun h => by rw [Bd.returns] at h; cases h)
  refine ⟨_, _, pre0 _ ?_, hrun, hended, _, _, rfl, ?_, ⟨_, rfl⟩, hW, hsame.mono (by decide) (by decide)⟩
  · show Steps p.tables e below (s₁.setTop (mkF m 0 #[.val (.ref b215), .val (.int (0 : Int32)), .val (.int (3 : Int32)), .unset, .unset, .unset] [])) _
    refine XS.iloadN X0.here hx rfl (hb hby own_d_jdk_52_method_16_code_0) rfl ?_
    refine st229 _ ?_
    show Steps p.tables e below (T229.setTop (mkF m 3 #[.val (.ref b215), .val (.int (0 : Int32)), .val (.int (3 : Int32)), .unset, .unset, .unset] [(.ref b229)])) _
    refine XS.astoreN X229.here hx rfl (hb hby own_d_jdk_52_method_16_code_3) rfl rfl (l' := #[.val (.ref b215), .val (.int (0 : Int32)), .val (.int (3 : Int32)), .val (.ref b229), .unset, .unset]) rfl ?_
    refine XS.aloadN X229.here hx rfl (hb hby own_d_jdk_52_method_16_code_4) rfl rfl ?_
    refine XS.iloadN X229.here hx rfl (hb hby own_d_jdk_52_method_16_code_5) rfl ?_
    show Steps p.tables e below (T229.setTop (mkF m 6 #[.val (.ref b215), .val (.int (0 : Int32)), .val (.int (3 : Int32)), .val (.ref b229), .unset, .unset] [(.int (0 : Int32)), (.ref b215)])) _
    refine XS.aloadN X229.here hx rfl (hb hby own_d_jdk_52_method_16_code_6) rfl rfl ?_
    refine XS.iconst X229.here hx rfl (hb hby own_d_jdk_52_method_16_code_7) ?_
    refine XS.iloadN X229.here hx rfl (hb hby own_d_jdk_52_method_16_code_8) rfl ?_
    show Steps p.tables e below (T229.setTop (mkF m 9 #[.val (.ref b215), .val (.int (0 : Int32)), .val (.int (3 : Int32)), .val (.ref b229), .unset, .unset] [(.int (3 : Int32)), (.int (0 : Int32)), (.ref b229), (.int (0 : Int32)), (.ref b215)])) _
    refine st231 _ ?_
    show Steps p.tables e below (T231.setTop (mkF m 12 #[.val (.ref b215), .val (.int (0 : Int32)), .val (.int (3 : Int32)), .val (.ref b229), .unset, .unset] [(.int (3 : Int32))])) _
    refine XS.istore X231.here hx rfl (hb hby own_d_jdk_52_method_16_code_12) rfl (l' := #[.val (.ref b215), .val (.int (0 : Int32)), .val (.int (3 : Int32)), .val (.ref b229), .val (.int (3 : Int32)), .unset]) rfl ?_
    refine XS.iload X231.here hx rfl (hb hby own_d_jdk_52_method_16_code_14) rfl ?_
    refine XS.iloadN X231.here hx rfl (hb hby own_d_jdk_52_method_16_code_16) rfl ?_
    show Steps p.tables e below (T231.setTop (mkF m 17 #[.val (.ref b215), .val (.int (0 : Int32)), .val (.int (3 : Int32)), .val (.ref b229), .val (.int (3 : Int32)), .unset] [(.int (3 : Int32)), (.int (3 : Int32))])) _
    refine XS.icmpYes X231.here hx rfl (pc0 := 17) (pc' := 57) rfl (hb hby own_d_jdk_52_method_16_code_17) rfl (teq (by decide : (3 : Int32) = (3 : Int32))).1 (by decide) (by decide) ?_
    show Steps p.tables e below (T231.setTop (mkF m 57 #[.val (.ref b215), .val (.int (0 : Int32)), .val (.int (3 : Int32)), .val (.ref b229), .val (.int (3 : Int32)), .unset] [])) _
    refine XS.aloadN X231.here hx rfl (hb hby own_d_jdk_52_method_16_code_57) rfl rfl ?_
    exact retOut X231 hx Bd.returns rfl (Or.inr (Or.inr (Or.inr (Or.inr ⟨rfl, rfl, rfl⟩)))) (hb hby own_d_jdk_52_method_16_code_58) hr
  · show Q_rm27 Z p1 p2 p3 A K cs b3 b215 b224 k215 k3 h0 n0 _ T231.heap _
    exact ⟨b229, k229, rfl, N231, KK231, ⟨gn_b229, sz_b229⟩, f231_0⟩
def Q_rm26 (Z : State) (p1 : Int32) (p2 : Int32) (p3 : Int32) (A : Nat → Addr) (K : Nat → ClassId) (cs : Int32) (b3 : Addr) (b215 : Addr) (b224 : Addr) (k215 : ClassId) (k3 : ClassId) (h0 : Heap) (n0 : Nat) (v : Option Value) (h : Heap) (L : List Loc) : Prop := ∃ b232_b229 : Addr, ∃ k232_k229 : ClassId, v = none ∧ Fr n0 L ∧ Keep h0 h [b224] ∧ (n0 ≤ b232_b229 ∧ h0.size ≤ b232_b229) ∧ (Exa Z h b224 "java/lang/String") ∧ (Fld Z h b224 "java/lang/String" "coder" "B" (.int (0 : Int32))) ∧ (Fld Z h b224 "java/lang/String" "value" "[B" (.ref b232_b229)) ∧ (Arv Z h b232_b229 k232_k229 .byte (3 : Int32) [(.int (nar .byte ((nar .char (own_C p2)).toInt8.toInt32))), (.int (32 : Int32)), (.int (nar .byte ((nar .char (own_C p3)).toInt8.toInt32)))] (.int (0 : Int32)))
theorem own_ef_rm26 (m : MethodId) (p1 : Int32) (p2 : Int32) (p3 : Int32) (A : Nat → Addr) (K : Nat → ClassId) (cs : Int32)  (b3 : Addr) (b215 : Addr) (b224 : Addr) (k215 : ClassId) (k3 : ClassId) : entryFrame m #[(.ref b224), (.ref b215), (.int (0 : Int32)), (.int (3 : Int32)), .null] 6 = mkF m 0 #[.val (.ref b224), .val (.ref b215), .val (.int (0 : Int32)), .val (.int (3 : Int32)), .val .null, .unset] [] := by first | (simp [entryFrame, mkF, argsToLocals, Value.category, maxLocals]; done) | rfl
set_option maxRecDepth 65536 in
set_option maxHeartbeats 40000000 in
theorem rm26 (l : Launch) (Z : State) (a0 : Array Value) (hw : ∀ d ∈ tables_1, d.before a0 Z = true) (ws : List Jvm.Cond) (h0 : Heap) (n0 : Nat) (p1 : Int32) (p2 : Int32) (p3 : Int32) (A : Nat → Addr) (K : Nat → ClassId) (cs : Int32)  (b3 : Addr) (b215 : Addr) (b224 : Addr) (k215 : ClassId) (k3 : ClassId) (EN : own_St Z A K cs) (OL0 : Old Z n0 h0) (G_A_b3 : Arv Z h0 b3 k3 (.object "com/example/tallywire/tallywire/wire/FieldType") (28 : Int32) [(.ref (A 0)), (.ref (A 1)), (.ref (A 2)), (.ref (A 3)), (.ref (A 4)), (.ref (A 5)), (.ref (A 6)), (.ref (A 7)), (.ref (A 8)), (.ref (A 9)), (.ref (A 10)), (.ref (A 11)), (.ref (A 12)), (.ref (A 13)), (.ref (A 14)), (.ref (A 15)), (.ref (A 16)), (.ref (A 17)), (.ref (A 18)), (.ref (A 19)), (.ref (A 20)), (.ref (A 21)), (.ref (A 22)), (.ref (A 23)), (.ref (A 24)), (.ref (A 25)), (.ref (A 26)), (.ref (A 27))] .null) (G_A_b215 : Arv Z h0 b215 k215 .char (3 : Int32) [(.int (nar .char (own_C p2))), (.int (32 : Int32)), (.int (nar .char (own_C p3)))] (.int (0 : Int32))) (G_E_b224 : Exa Z h0 b224 "java/lang/String") (G_F_b224_java_lang_String_coder : Fld Z h0 b224 "java/lang/String" "coder" "B" (.int (0 : Int32))) (G_F_b224_java_lang_String_value : Fld Z h0 b224 "java/lang/String" "value" "[B" .null) (gn_b224 : n0 ≤ b224) :
    MetFree l own_m6 (head1 (Jvm.Cond.code own_m6 jdk_42_method_149_code 6 none :: ws) ({ frames := 2, cells := 1, slots := 3, locals := 35 } : Room)) (fun a U => a = #[(.ref b224), (.ref b215), (.int (0 : Int32)), (.int (3 : Int32)), .null] ∧ Z.Warmed39 U.vm ∧ U.heap = h0) (fun _ _ _ _ _ => True) (fun _ U o U' => ∃ v L, o = .returned v ∧ Q_rm26 Z p1 p2 p3 A K cs b3 b215 b224 k215 k3 h0 n0 v U'.heap L ∧ FrameEnd U o U' L ({ frames := 2, cells := 1, slots := 3, locals := 35 } : Room).cells ({ frames := 2, cells := 1, slots := 3, locals := 35 } : Room).slots) := by
  refine MetFree.of_bodySF (plainFor_of_name own_pn3) hisR ?_
  intro p e s m args below meth c s₁ Bd hml0 hP hK
  obtain ⟨rfl, hZ, hh⟩ := hP
  have hx := Bd.exec
  have hby := Bd.bytes
  have hml : c.maxLocals = 6 := hml0
  have hown : s.vm.findClass "java/lang/String" = some m.cls := findClass_of_methodNamed Bd.named
  have hnm := (name_of_methodNamed Bd.named Bd.method).1
  have X0 : Stand p l e ({ frames := 2, cells := 1, slots := 3, locals := 35 } : Room) s m #[(.ref b224), (.ref b215), (.int (0 : Int32)), (.int (3 : Int32)), .null] below meth c s₁ [] 0 0 := Stand.of_body Bd
  have e0 : s₁.heap = h0 := by rw [← hh, Bd.state]; rfl
  have N0 := Fr.nil n0
  have pre0 : ∀ t, Steps p.tables e below (s₁.setTop (mkF m 0 #[.val (.ref b224), .val (.ref b215), .val (.int (0 : Int32)), .val (.int (3 : Int32)), .val .null, .unset] [])) t → Steps p.tables e below (s₁.setTop (entryFrame m #[(.ref b224), (.ref b215), (.int (0 : Int32)), (.int (3 : Int32)), .null] 6)) t := fun t k => castTop (own_ef_rm26 m p1 p2 p3 A K cs b3 b215 b224 k215 k3) k
  have KK0 : Keep h0 h0 [b224] := Keep.refl _ _
  obtain ⟨T227, X227, e227, st227⟩ := initO X0 hx hZ hown (hw _ (List.mem_of_getElem? (i := 84) rfl)) (hw _ (List.mem_of_getElem? (i := 85) rfl)) (hw _ (List.mem_of_getElem? (i := 86) rfl)) e0 (g := (mkF m 1 #[.val (.ref b224), .val (.ref b215), .val (.int (0 : Int32)), .val (.int (3 : Int32)), .val .null, .unset] [(.ref b224)])) rfl (by rw [hml]; rfl) rfl (hb hby own_d_jdk_42_method_149_code_1) (by decide) (W := 0) (by show 2 * 0 + _ ≤ _; exact Nat.le_of_eq rfl) (by decide)
  obtain ⟨T228, X228, e228, st228⟩ := getS2 X227 hx hZ hown (host := "") (Or.inl (hw _ (List.mem_of_getElem? (i := 87) rfl))) Via.refl e227 (EN.2.2.2.2.2.2.2.1.1.ext OL0.2) (g := (mkF m 27 #[.val (.ref b224), .val (.ref b215), .val (.int (0 : Int32)), .val (.int (3 : Int32)), .val .null, .unset] [])) rfl (hb hby own_d_jdk_42_method_149_code_27)
  obtain ⟨_, _, ⟨T232, L232, k232, n232⟩, -, X232, ⟨Lc232, hQ232, l232, y232, z232⟩, st232⟩ := Jvm.LawKit.callS X228 hx (y := own_m5) hown (mvT hZ (hw _ (List.mem_of_getElem? (i := 88) rfl))) (mvT hZ (hw _ (List.mem_of_getElem? (i := 89) rfl))) (mvT hZ (hw _ (List.mem_of_getElem? (i := 90) rfl))) (mvT hZ (hw _ (List.mem_of_getElem? (i := 91) rfl))) (by decide) (backOf (W := 0) (rm27 l Z a0 hw [] h0 n0 p1 p2 p3 A K cs b3 b215 b224 k215 k3 EN OL0 G_A_b3 G_A_b215 G_E_b224) hZ (hw _ (List.mem_of_getElem? (i := 91) rfl)) (hw _ (List.mem_of_getElem? (i := 90) rfl)) (by decide) (by decide)) (g := (mkF m 36 #[.val (.ref b224), .val (.ref b215), .val (.int (0 : Int32)), .val (.int (3 : Int32)), .val .null, .unset] [(.int (3 : Int32)), (.int (0 : Int32)), (.ref b215)])) rfl (by rw [hml]; rfl) (argsL := [(.ref b215), (.int (0 : Int32)), (.int (3 : Int32))]) (rest := []) (lenOf own_pd3 rfl) rfl (by show 2 * 0 + _ ≤ _; exact Nat.le_of_eq rfl) (hb hby own_d_jdk_42_method_149_code_36) (fun _ _ => ⟨rfl, e228, (by decide : 0 + 1 ≤ _), (by decide : 0 + 3 ≤ _)⟩)
  dsimp only [Pt.U, Pt.locs, Pt.cells, Pt.slots] at X232 l232 y232 z232 st232 hQ232
  replace X232 := own_sub X232 l232 y232 z232
  obtain ⟨b232_b229, k232_k229, rfl, N232q, K232c, ⟨gn_b232_b229, szc_b232_b229⟩, f232_0⟩ := hQ232
  have N232 := Fr.app N0 N232q
  have lt_b3_b232_b229 : b3 < b232_b229 := Nat.lt_of_lt_of_le G_A_b3.lt szc_b232_b229
  have lt_b215_b232_b229 : b215 < b232_b229 := Nat.lt_of_lt_of_le G_A_b215.lt szc_b232_b229
  have lt_b224_b232_b229 : b224 < b232_b229 := Nat.lt_of_lt_of_le G_E_b224.lt szc_b232_b229
  have sz_b232_b229 : h0.size ≤ b232_b229 := Nat.le_trans KK0.1 szc_b232_b229
  have OL232 : Old Z n0 T232.heap := OL0.keep K232c all0
  have KK232 : Keep h0 T232.heap [b224] := KK0.trans K232c all0
  obtain ⟨_, _, ⟨T233, L233, k233, n233⟩, -, X233, ⟨Lc233, hQ233, l233, y233, z233⟩, st233⟩ := Jvm.LawKit.callS X232 hx (y := own_m14) hown (mvT hZ (hw _ (List.mem_of_getElem? (i := 96) rfl))) (mvT hZ (hw _ (List.mem_of_getElem? (i := 97) rfl))) (mvT hZ (hw _ (List.mem_of_getElem? (i := 90) rfl))) (mvT hZ (hw _ (List.mem_of_getElem? (i := 98) rfl))) (by decide) (backOf (W := 1) (rm19 l Z a0 hw [] T232.heap n0 p1 p2 p3 A K cs b232_b229 k232_k229 EN OL232 f232_0) hZ (hw _ (List.mem_of_getElem? (i := 98) rfl)) (hw _ (List.mem_of_getElem? (i := 90) rfl)) (by decide) (by decide)) (g := (mkF m 45 #[.val (.ref b224), .val (.ref b215), .val (.int (0 : Int32)), .val (.int (3 : Int32)), .val .null, .val (.ref b232_b229)] [(.int (3 : Int32)), (.ref b232_b229), (.ref b224)])) rfl (by rw [hml]; rfl) (argsL := [(.ref b232_b229), (.int (3 : Int32))]) (rest := [(.ref b224)]) (lenOf own_pd4 rfl) rfl (by show 2 * 0 + _ ≤ _; exact Nat.le_of_eq rfl) (hb hby own_d_jdk_42_method_149_code_45) (fun _ _ => ⟨rfl, rfl, (by decide : 1 + 0 ≤ _), (by decide : 3 + 0 ≤ _)⟩)
  dsimp only [Pt.U, Pt.locs, Pt.cells, Pt.slots] at X233 l233 y233 z233 st233 hQ233
  replace X233 := own_sub X233 l233 y233 z233
  obtain ⟨rfl, N233q, e233⟩ := hQ233
  have N233 := Fr.app N232 N233q
  have fx234 : Fld Z T232.heap b224 "java/lang/String" "coder" "B" (.int (0 : Int32)) := (G_F_b224_java_lang_String_coder.keep K232c nin0)
  have fx235 : Exa Z T232.heap b224 "java/lang/String" := (G_E_b224.keep K232c)
  obtain ⟨T236, h236, X236, e236, W236, st236⟩ := putFN X233 hx hZ hown (hw _ (List.mem_of_getElem? (i := 99) rfl)) Via.refl e233 fx234 fx235 (Or.inr ⟨(hw _ (List.mem_of_getElem? (i := 100) rfl)), rfl, hnm⟩) (hw _ (List.mem_of_getElem? (i := 75) rfl)) (ty := .byte) (v' := (.int (0 : Int32))) (by decide) rfl (by decide) (g := (mkF m 48 #[.val (.ref b224), .val (.ref b215), .val (.int (0 : Int32)), .val (.int (3 : Int32)), .val .null, .val (.ref b232_b229)] [(.int (0 : Int32)), (.ref b224)])) rfl rfl (hb hby own_d_jdk_42_method_149_code_48)
  have NF236 := Fr.snoc X236 N233 gn_b224
  have OL236 : Old Z n0 h236 := OL232.wr W236 gn_b224
  have KK236 : Keep h0 h236 [b224] := KK232.wr W236 (Or.inl (List.mem_of_getElem? (i := 0) rfl))
  have Fw236 : Fld Z h236 b224 "java/lang/String" "coder" "B" (.int (0 : Int32)) := fx234.same W236
  have fx237 : Fld Z h236 b224 "java/lang/String" "value" "[B" .null := ((G_F_b224_java_lang_String_value.keep K232c nin0).other W236 (Or.inr (slot_ne (Or.inr (hw _ (List.mem_of_getElem? (i := 102) rfl))) (Or.inr (hw _ (List.mem_of_getElem? (i := 100) rfl))) (by decide) (t := (.array .byte)) (t' := .byte) (by decide) (by decide))))
  have fx238 : Exa Z h236 b224 "java/lang/String" := (fx235.wr W236)
  obtain ⟨T239, h239, X239, e239, W239, st239⟩ := putF X236 hx hZ hown (host := "") (Or.inl (hw _ (List.mem_of_getElem? (i := 101) rfl))) Via.refl e236 fx237 fx238 (Or.inr ⟨(hw _ (List.mem_of_getElem? (i := 102) rfl)), rfl, hnm⟩) (hw _ (List.mem_of_getElem? (i := 75) rfl)) (ty := (.array .byte)) (by decide) rfl rfl (g := (mkF m 54 #[.val (.ref b224), .val (.ref b215), .val (.int (0 : Int32)), .val (.int (3 : Int32)), .val .null, .val (.ref b232_b229)] [(.ref b232_b229), (.ref b224)])) rfl rfl (hb hby own_d_jdk_42_method_149_code_54)
  have NF239 := Fr.snoc X239 NF236 gn_b224
  have OL239 : Old Z n0 h239 := OL236.wr W239 gn_b224
  have KK239 : Keep h0 h239 [b224] := KK236.wr W239 (Or.inl (List.mem_of_getElem? (i := 0) rfl))
  have Fw239 : Fld Z h239 b224 "java/lang/String" "value" "[B" (.ref b232_b229) := fx237.same W239
  have fx240 : Exa Z h239 b224 "java/lang/String" := (fx238.wr W239)
  have fx241 : Fld Z h239 b224 "java/lang/String" "coder" "B" (.int (0 : Int32)) := (Fw236.other W239 (Or.inr (slot_ne (Or.inr (hw _ (List.mem_of_getElem? (i := 100) rfl))) (Or.inr (hw _ (List.mem_of_getElem? (i := 102) rfl))) (by decide) (t := .byte) (t' := (.array .byte)) (by decide) (by decide))))
  have fx242 : Arv Z h239 b232_b229 k232_k229 .byte (3 : Int32) [(.int (nar .byte ((nar .char (own_C p2)).toInt8.toInt32))), (.int (32 : Int32)), (.int (nar .byte ((nar .char (own_C p3)).toInt8.toInt32)))] (.int (0 : Int32)) := ((f232_0.other W236 (Ne.symm (Nat.ne_of_lt lt_b224_b232_b229))).other W239 (Ne.symm (Nat.ne_of_lt lt_b224_b232_b229)))
  obtain ⟨fs, hr, hrun, hended, hW, hsame⟩ := X239.leave (v := none) (fun _ => rfl)
  refine ⟨_, _, pre0 _ ?_, hrun, hended, _, _, rfl, ?_, ⟨_, rfl⟩, hW, hsame.mono (by decide) (by decide)⟩
  · show Steps p.tables e below (s₁.setTop (mkF m 0 #[.val (.ref b224), .val (.ref b215), .val (.int (0 : Int32)), .val (.int (3 : Int32)), .val .null, .unset] [])) _
    refine XS.aloadN X0.here hx rfl (hb hby own_d_jdk_42_method_149_code_0) rfl rfl ?_
    refine st227 _ ?_
    show Steps p.tables e below (T227.setTop (mkF m 4 #[.val (.ref b224), .val (.ref b215), .val (.int (0 : Int32)), .val (.int (3 : Int32)), .val .null, .unset] [])) _
    refine XS.iloadN X227.here hx rfl (hb hby own_d_jdk_42_method_149_code_4) rfl ?_
    refine XS.ifYes X227.here hx rfl (pc0 := 5) (pc' := 27) rfl (hb hby own_d_jdk_42_method_149_code_5) rfl ((if0 _ _).trans (feq (by decide : ¬ ((3 : Int32) = (0 : Int32)))).2) (by decide) (by decide) ?_
    show Steps p.tables e below (T227.setTop (mkF m 27 #[.val (.ref b224), .val (.ref b215), .val (.int (0 : Int32)), .val (.int (3 : Int32)), .val .null, .unset] [])) _
    refine st228 _ ?_
    show Steps p.tables e below (T228.setTop (mkF m 30 #[.val (.ref b224), .val (.ref b215), .val (.int (0 : Int32)), .val (.int (3 : Int32)), .val .null, .unset] [(.int cs)])) _
    refine XS.ifNo X228.here hx rfl (hb hby own_d_jdk_42_method_149_code_30) rfl ((if0 _ _).trans (feq EN.2.2.2.2.2.2.2.1.2.1).1) ?_
    show Steps p.tables e below (T228.setTop (mkF m 33 #[.val (.ref b224), .val (.ref b215), .val (.int (0 : Int32)), .val (.int (3 : Int32)), .val .null, .unset] [])) _
    refine XS.aloadN X228.here hx rfl (hb hby own_d_jdk_42_method_149_code_33) rfl rfl ?_
    refine XS.iloadN X228.here hx rfl (hb hby own_d_jdk_42_method_149_code_34) rfl ?_
    refine XS.iloadN X228.here hx rfl (hb hby own_d_jdk_42_method_149_code_35) rfl ?_
    show Steps p.tables e below (T228.setTop (mkF m 36 #[.val (.ref b224), .val (.ref b215), .val (.int (0 : Int32)), .val (.int (3 : Int32)), .val .null, .unset] [(.int (3 : Int32)), (.int (0 : Int32)), (.ref b215)])) _
    refine st232 _ ?_
    show Steps p.tables e below (T232.setTop (mkF m 39 #[.val (.ref b224), .val (.ref b215), .val (.int (0 : Int32)), .val (.int (3 : Int32)), .val .null, .unset] [(.ref b232_b229)])) _
    refine XS.astore X232.here hx rfl (hb hby own_d_jdk_42_method_149_code_39) rfl rfl (l' := #[.val (.ref b224), .val (.ref b215), .val (.int (0 : Int32)), .val (.int (3 : Int32)), .val .null, .val (.ref b232_b229)]) rfl ?_
    refine XS.aloadN X232.here hx rfl (hb hby own_d_jdk_42_method_149_code_41) rfl rfl ?_
    refine XS.aload X232.here hx rfl (hb hby own_d_jdk_42_method_149_code_42) rfl rfl ?_
    show Steps p.tables e below (T232.setTop (mkF m 44 #[.val (.ref b224), .val (.ref b215), .val (.int (0 : Int32)), .val (.int (3 : Int32)), .val .null, .val (.ref b232_b229)] [(.ref b232_b229), (.ref b224)])) _
    refine XS.iloadN X232.here hx rfl (hb hby own_d_jdk_42_method_149_code_44) rfl ?_
    refine st233 _ ?_
    show Steps p.tables e below (T233.setTop (mkF m 48 #[.val (.ref b224), .val (.ref b215), .val (.int (0 : Int32)), .val (.int (3 : Int32)), .val .null, .val (.ref b232_b229)] [(.int (0 : Int32)), (.ref b224)])) _
    refine st236 _ ?_
    show Steps p.tables e below (T236.setTop (mkF m 51 #[.val (.ref b224), .val (.ref b215), .val (.int (0 : Int32)), .val (.int (3 : Int32)), .val .null, .val (.ref b232_b229)] [])) _
    refine XS.aloadN X236.here hx rfl (hb hby own_d_jdk_42_method_149_code_51) rfl rfl ?_
    refine XS.aload X236.here hx rfl (hb hby own_d_jdk_42_method_149_code_52) rfl rfl ?_
    refine st239 _ ?_
    show Steps p.tables e below (T239.setTop (mkF m 57 #[.val (.ref b224), .val (.ref b215), .val (.int (0 : Int32)), .val (.int (3 : Int32)), .val .null, .val (.ref b232_b229)] [])) _
    exact X239.returnOut hx Bd.returns (hb hby own_d_jdk_42_method_149_code_57) hr
  · show Q_rm26 Z p1 p2 p3 A K cs b3 b215 b224 k215 k3 h0 n0 _ T239.heap _
    rw [e239]
    exact ⟨b232_b229, k232_k229, rfl, NF239, KK239, ⟨gn_b232_b229, sz_b232_b229⟩, fx240, fx241, Fw239, fx242⟩
def Q_rm25 (Z : State) (p1 : Int32) (p2 : Int32) (p3 : Int32) (A : Nat → Addr) (K : Nat → ClassId) (cs : Int32) (b3 : Addr) (b215 : Addr) (b224 : Addr) (k215 : ClassId) (k3 : ClassId) (h0 : Heap) (n0 : Nat) (v : Option Value) (h : Heap) (L : List Loc) : Prop := ∃ b243_b232_b229 : Addr, ∃ k243_k232_k229 : ClassId, v = none ∧ Fr n0 L ∧ Keep h0 h [b224] ∧ (n0 ≤ b243_b232_b229 ∧ h0.size ≤ b243_b232_b229) ∧ (Exa Z h b224 "java/lang/String") ∧ (Fld Z h b224 "java/lang/String" "coder" "B" (.int (0 : Int32))) ∧ (Fld Z h b224 "java/lang/String" "value" "[B" (.ref b243_b232_b229)) ∧ (Arv Z h b243_b232_b229 k243_k232_k229 .byte (3 : Int32) [(.int (nar .byte ((nar .char (own_C p2)).toInt8.toInt32))), (.int (32 : Int32)), (.int (nar .byte ((nar .char (own_C p3)).toInt8.toInt32)))] (.int (0 : Int32)))
theorem own_ef_rm25 (m : MethodId) (p1 : Int32) (p2 : Int32) (p3 : Int32) (A : Nat → Addr) (K : Nat → ClassId) (cs : Int32)  (b3 : Addr) (b215 : Addr) (b224 : Addr) (k215 : ClassId) (k3 : ClassId) : entryFrame m #[(.ref b224), (.ref b215)] 2 = mkF m 0 #[.val (.ref b224), .val (.ref b215)] [] := by first | (simp [entryFrame, mkF, argsToLocals, Value.category, maxLocals]; done) | rfl
set_option maxRecDepth 65536 in
set_option maxHeartbeats 40000000 in
theorem rm25 (l : Launch) (Z : State) (a0 : Array Value) (hw : ∀ d ∈ tables_1, d.before a0 Z = true) (ws : List Jvm.Cond) (h0 : Heap) (n0 : Nat) (p1 : Int32) (p2 : Int32) (p3 : Int32) (A : Nat → Addr) (K : Nat → ClassId) (cs : Int32)  (b3 : Addr) (b215 : Addr) (b224 : Addr) (k215 : ClassId) (k3 : ClassId) (EN : own_St Z A K cs) (OL0 : Old Z n0 h0) (G_A_b215 : Arv Z h0 b215 k215 .char (3 : Int32) [(.int (nar .char (own_C p2))), (.int (32 : Int32)), (.int (nar .char (own_C p3)))] (.int (0 : Int32))) (G_A_b3 : Arv Z h0 b3 k3 (.object "com/example/tallywire/tallywire/wire/FieldType") (28 : Int32) [(.ref (A 0)), (.ref (A 1)), (.ref (A 2)), (.ref (A 3)), (.ref (A 4)), (.ref (A 5)), (.ref (A 6)), (.ref (A 7)), (.ref (A 8)), (.ref (A 9)), (.ref (A 10)), (.ref (A 11)), (.ref (A 12)), (.ref (A 13)), (.ref (A 14)), (.ref (A 15)), (.ref (A 16)), (.ref (A 17)), (.ref (A 18)), (.ref (A 19)), (.ref (A 20)), (.ref (A 21)), (.ref (A 22)), (.ref (A 23)), (.ref (A 24)), (.ref (A 25)), (.ref (A 26)), (.ref (A 27))] .null) (G_E_b224 : Exa Z h0 b224 "java/lang/String") (G_F_b224_java_lang_String_coder : Fld Z h0 b224 "java/lang/String" "coder" "B" (.int (0 : Int32))) (G_F_b224_java_lang_String_value : Fld Z h0 b224 "java/lang/String" "value" "[B" .null) (gn_b224 : n0 ≤ b224) :
    MetFree l own_m7 (head1 (Jvm.Cond.code own_m7 jdk_42_method_3_code 2 none :: ws) ({ frames := 3, cells := 1, slots := 3, locals := 52 } : Room)) (fun a U => a = #[(.ref b224), (.ref b215)] ∧ Z.Warmed39 U.vm ∧ U.heap = h0) (fun _ _ _ _ _ => True) (fun _ U o U' => ∃ v L, o = .returned v ∧ Q_rm25 Z p1 p2 p3 A K cs b3 b215 b224 k215 k3 h0 n0 v U'.heap L ∧ FrameEnd U o U' L ({ frames := 3, cells := 1, slots := 3, locals := 52 } : Room).cells ({ frames := 3, cells := 1, slots := 3, locals := 52 } : Room).slots) := by
  refine MetFree.of_bodySF (plainFor_of_name own_pn3) hisR ?_
  intro p e s m args below meth c s₁ Bd hml0 hP hK
  obtain ⟨rfl, hZ, hh⟩ := hP
  have hx := Bd.exec
  have hby := Bd.bytes
  have hml : c.maxLocals = 2 := hml0
  have hown : s.vm.findClass "java/lang/String" = some m.cls := findClass_of_methodNamed Bd.named
  have hnm := (name_of_methodNamed Bd.named Bd.method).1
  have X0 : Stand p l e ({ frames := 3, cells := 1, slots := 3, locals := 52 } : Room) s m #[(.ref b224), (.ref b215)] below meth c s₁ [] 0 0 := Stand.of_body Bd
  have e0 : s₁.heap = h0 := by rw [← hh, Bd.state]; rfl
  have N0 := Fr.nil n0
  have pre0 : ∀ t, Steps p.tables e below (s₁.setTop (mkF m 0 #[.val (.ref b224), .val (.ref b215)] [])) t → Steps p.tables e below (s₁.setTop (entryFrame m #[(.ref b224), (.ref b215)] 2)) t := fun t k => castTop (own_ef_rm25 m p1 p2 p3 A K cs b3 b215 b224 k215 k3) k
  have KK0 : Keep h0 h0 [b224] := Keep.refl _ _
  obtain ⟨cl226, Ar226, -, Sz226, Nn226, -, -⟩ := (id G_A_b215)
  obtain ⟨_, _, ⟨T243, L243, k243, n243⟩, -, X243, ⟨Lc243, hQ243, l243, y243, z243⟩, st243⟩ := X0.specialBack hx (y := own_m6) rfl hown (mvT hZ (hw _ (List.mem_of_getElem? (i := 80) rfl))) (mvT hZ (hw _ (List.mem_of_getElem? (i := 81) rfl))) (mvT hZ (hw _ (List.mem_of_getElem? (i := 83) rfl))) (by decide) (backOf (W := 0) (rm26 l Z a0 hw [] h0 n0 p1 p2 p3 A K cs b3 b215 b224 k215 k3 EN OL0 G_A_b3 G_A_b215 G_E_b224 G_F_b224_java_lang_String_coder G_F_b224_java_lang_String_value gn_b224) hZ (hw _ (List.mem_of_getElem? (i := 83) rfl)) (hw _ (List.mem_of_getElem? (i := 76) rfl)) (by decide) (by decide)) (g := (mkF m 6 #[.val (.ref b224), .val (.ref b215)] [.null, (.int (3 : Int32)), (.int (0 : Int32)), (.ref b215), (.ref b224)])) rfl (by rw [hml]; rfl) (Steps.refl _) (a := b224) (argsL := [(.ref b215), (.int (0 : Int32)), (.int (3 : Int32)), .null]) (rest := []) (lenOf own_pd5 rfl) rfl (by show 2 * 0 + _ ≤ _; exact Nat.le_of_eq rfl) (hb hby own_d_jdk_42_method_3_code_6) (fun _ _ => ⟨rfl, e0, (by decide : 0 + 1 ≤ _), (by decide : 0 + 3 ≤ _)⟩)
  dsimp only [Pt.U, Pt.locs, Pt.cells, Pt.slots] at X243 l243 y243 z243 st243 hQ243
  replace X243 := own_sub X243 l243 y243 z243
  obtain ⟨b243_b232_b229, k243_k232_k229, rfl, N243q, K243c, ⟨gn_b243_b232_b229, szc_b243_b232_b229⟩, f243_0, f243_1, f243_2, f243_3⟩ := hQ243
  have N243 := Fr.app N0 N243q
  have lt_b3_b243_b232_b229 : b3 < b243_b232_b229 := Nat.lt_of_lt_of_le G_A_b3.lt szc_b243_b232_b229
  have lt_b215_b243_b232_b229 : b215 < b243_b232_b229 := Nat.lt_of_lt_of_le G_A_b215.lt szc_b243_b232_b229
  have lt_b224_b243_b232_b229 : b224 < b243_b232_b229 := Nat.lt_of_lt_of_le G_E_b224.lt szc_b243_b232_b229
  have sz_b243_b232_b229 : h0.size ≤ b243_b232_b229 := Nat.le_trans KK0.1 szc_b243_b232_b229
  have OL243 : Old Z n0 T243.heap := OL0.keep K243c (allS gn_b224 all0)
  have KK243 : Keep h0 T243.heap [b224] := KK0.trans K243c (allS (Or.inl (List.mem_of_getElem? (i := 0) rfl)) all0)
  obtain ⟨fs, hr, hrun, hended, hW, hsame⟩ := X243.leave (v := none) (fun _ => rfl)
  refine ⟨_, _, pre0 _ ?_, hrun, hended, _, _, rfl, ?_, ⟨_, rfl⟩, hW, hsame.mono (by decide) (by decide)⟩
  · show Steps p.tables e below (s₁.setTop (mkF m 0 #[.val (.ref b224), .val (.ref b215)] [])) _
    refine XS.aloadN X0.here hx rfl (hb hby own_d_jdk_42_method_3_code_0) rfl rfl ?_
    refine XS.aloadN X0.here hx rfl (hb hby own_d_jdk_42_method_3_code_1) rfl rfl ?_
    refine XS.iconst X0.here hx rfl (hb hby own_d_jdk_42_method_3_code_2) ?_
    show Steps p.tables e below (s₁.setTop (mkF m 3 #[.val (.ref b224), .val (.ref b215)] [(.int (0 : Int32)), (.ref b215), (.ref b224)])) _
    refine XS.aloadN X0.here hx rfl (hb hby own_d_jdk_42_method_3_code_3) rfl rfl ?_
    refine X0.arraylength hx (by rw [e0]; exact Ar226.1) (State.isArrayOf_alike hZ.alike Ar226.2.1) (g := (mkF m 4 #[.val (.ref b224), .val (.ref b215)] [(.ref b215), (.int (0 : Int32)), (.ref b215), (.ref b224)])) rfl rfl (hb hby own_d_jdk_42_method_3_code_4) _ ?_
    rw [len_of Sz226 Nn226]
    show Steps p.tables e below (s₁.setTop (mkF m 5 #[.val (.ref b224), .val (.ref b215)] [(.int (3 : Int32)), (.int (0 : Int32)), (.ref b215), (.ref b224)])) _
    refine XS.aconstNull X0.here hx rfl (hb hby own_d_jdk_42_method_3_code_5) ?_
    refine st243.trans ?_
    show Steps p.tables e below (T243.setTop (mkF m 9 #[.val (.ref b224), .val (.ref b215)] [])) _
    exact X243.returnOut hx Bd.returns (hb hby own_d_jdk_42_method_3_code_9) hr
  · show Q_rm25 Z p1 p2 p3 A K cs b3 b215 b224 k215 k3 h0 n0 _ T243.heap _
    exact ⟨b243_b232_b229, k243_k232_k229, rfl, N243, KK243, ⟨gn_b243_b232_b229, sz_b243_b232_b229⟩, f243_0, f243_1, f243_2, f243_3⟩
theorem own_ef_rm29 (m : MethodId) (p1 : Int32) (p2 : Int32) (p3 : Int32) (A : Nat → Addr) (K : Nat → ClassId) (cs : Int32)  : entryFrame m #[(.ref (A 14))] 1 = mkF m 0 #[.val (.ref (A 14))] [] := by first | (simp [entryFrame, mkF, argsToLocals, Value.category, maxLocals]; done) | rfl
set_option maxRecDepth 65536 in
set_option maxHeartbeats 40000000 in
theorem rm29 (l : Launch) (Z : State) (a0 : Array Value) (hw : ∀ d ∈ tables_1, d.before a0 Z = true) (ws : List Jvm.Cond) (h0 : Heap) (n0 : Nat) (p1 : Int32) (p2 : Int32) (p3 : Int32) (A : Nat → Addr) (K : Nat → ClassId) (cs : Int32)  (EN : own_St Z A K cs) (OL0 : Old Z n0 h0) :
    MetFree l own_m8 (head1 (Jvm.Cond.code own_m8 jdk_37_method_2_code 1 (some .int) :: ws) ({ frames := 0, cells := 0, slots := 0, locals := 0 } : Room)) (fun a U => a = #[(.ref (A 14))] ∧ Z.Warmed39 U.vm ∧ U.heap = h0) (fun _ _ _ _ _ => True) (fun _ U o U' => ∃ v L, o = .returned v ∧ (PQ (some (.int (14 : Int32))) h0 n0) v U'.heap L ∧ FrameEnd U o U' L ({ frames := 0, cells := 0, slots := 0, locals := 0 } : Room).cells ({ frames := 0, cells := 0, slots := 0, locals := 0 } : Room).slots) := by
  refine MetFree.of_bodySF (plainFor_of_name own_pn4) hisR ?_
  intro p e s m args below meth c s₁ Bd hml0 hP hK
  obtain ⟨rfl, hZ, hh⟩ := hP
  have hx := Bd.exec
  have hby := Bd.bytes
  have hml : c.maxLocals = 1 := hml0
  have hown : s.vm.findClass "java/lang/Enum" = some m.cls := findClass_of_methodNamed Bd.named
  have hnm := (name_of_methodNamed Bd.named Bd.method).1
  have X0 : Stand p l e ({ frames := 0, cells := 0, slots := 0, locals := 0 } : Room) s m #[(.ref (A 14))] below meth c s₁ [] 0 0 := Stand.of_body Bd
  have e0 : s₁.heap = h0 := by rw [← hh, Bd.state]; rfl
  have N0 := Fr.nil n0
  have pre0 : ∀ t, Steps p.tables e below (s₁.setTop (mkF m 0 #[.val (.ref (A 14))] [])) t → Steps p.tables e below (s₁.setTop (entryFrame m #[(.ref (A 14))] 1)) t := fun t k => castTop (own_ef_rm29 m p1 p2 p3 A K cs ) k
  have KK0 : Keep h0 h0 [] := Keep.refl _ _
  obtain ⟨T248, X248, e248, st248⟩ := getF X0 hx hZ hown (host := "") (Or.inl (hw _ (List.mem_of_getElem? (i := 125) rfl))) Via.refl e0 (EN.2.2.2.2.2.2.2.1.2.2.2.2.2.1.ext OL0.2) (g := (mkF m 1 #[.val (.ref (A 14))] [(.ref (A 14))])) rfl rfl (hb hby own_d_jdk_37_method_2_code_1)
  obtain ⟨fs, hr, hrun, hended, hW, hsame⟩ := X248.leave (v := some (.int (14 : Int32))) (fun h => by rw [Bd.returns] at h; cases h)
  refine ⟨_, _, pre0 _ ?_, hrun, hended, _, _, rfl, ?_, ⟨_, rfl⟩, hW, hsame.mono (by decide) (by decide)⟩
  · show Steps p.tables e below (s₁.setTop (mkF m 0 #[.val (.ref (A 14))] [])) _
    refine XS.aloadN X0.here hx rfl (hb hby own_d_jdk_37_method_2_code_0) rfl rfl ?_
    refine st248 _ ?_
    show Steps p.tables e below (T248.setTop (mkF m 4 #[.val (.ref (A 14))] [(.int (14 : Int32))])) _
    exact retI X248 hx Bd.returns (hb hby own_d_jdk_37_method_2_code_4) hr
  · show PQ (some (.int (14 : Int32))) h0 n0 _ T248.heap _
    rw [e248]
    exact ⟨rfl, N0, rfl⟩
theorem own_ef_rm28 (m : MethodId) (p1 : Int32) (p2 : Int32) (p3 : Int32) (A : Nat → Addr) (K : Nat → ClassId) (cs : Int32)  (b224 : Addr) (b246_b243_b232_b229 : Addr) (k246_k243_k232_k229 : ClassId) : entryFrame m #[(.ref (A 14)), (.ref b224)] 3 = mkF m 0 #[.val (.ref (A 14)), .val (.ref b224), .unset] [] := by first | (simp [entryFrame, mkF, argsToLocals, Value.category, maxLocals]; done) | rfl
set_option maxRecDepth 65536 in
set_option maxHeartbeats 40000000 in
theorem rm28 (l : Launch) (Z : State) (a0 : Array Value) (hw : ∀ d ∈ tables_1, d.before a0 Z = true) (ws : List Jvm.Cond) (h0 : Heap) (n0 : Nat) (p1 : Int32) (p2 : Int32) (p3 : Int32) (A : Nat → Addr) (K : Nat → ClassId) (cs : Int32)  (b224 : Addr) (b246_b243_b232_b229 : Addr) (k246_k243_k232_k229 : ClassId) (EN : own_St Z A K cs) (OL0 : Old Z n0 h0) (G_E_b224 : Exa Z h0 b224 "java/lang/String") (G_F_b224_java_lang_String_value : Fld Z h0 b224 "java/lang/String" "value" "[B" (.ref b246_b243_b232_b229)) (G_A_b246_b243_b232_b229 : Arv Z h0 b246_b243_b232_b229 k246_k243_k232_k229 .byte (3 : Int32) [(.int (nar .byte ((nar .char (own_C p2)).toInt8.toInt32))), (.int (32 : Int32)), (.int (nar .byte ((nar .char (own_C p3)).toInt8.toInt32)))] (.int (0 : Int32))) (G_F_b224_java_lang_String_coder : Fld Z h0 b224 "java/lang/String" "coder" "B" (.int (0 : Int32))) :
    MetFree l own_m3 (head1 (Jvm.Cond.code own_m3 prog_40_method_7_code 3 (some .boolean) :: ws) ({ frames := 2, cells := 0, slots := 0, locals := 25 } : Room)) (fun a U => a = #[(.ref (A 14)), (.ref b224)] ∧ Z.Warmed39 U.vm ∧ U.heap = h0) (fun _ _ _ _ _ => True) (fun _ U o U' => ∃ v L, o = .returned v ∧ (PQ (some (.int (1 : Int32))) h0 n0) v U'.heap L ∧ FrameEnd U o U' L ({ frames := 2, cells := 0, slots := 0, locals := 25 } : Room).cells ({ frames := 2, cells := 0, slots := 0, locals := 25 } : Room).slots) := by
  refine MetFree.of_bodySF (plainFor_of_name own_pn1) hisR ?_
  intro p e s m args below meth c s₁ Bd hml0 hP hK
  obtain ⟨rfl, hZ, hh⟩ := hP
  have hx := Bd.exec
  have hby := Bd.bytes
  have hml : c.maxLocals = 3 := hml0
  have hown : s.vm.findClass "com/example/tallywire/tallywire/wire/FieldType" = some m.cls := findClass_of_methodNamed Bd.named
  have hnm := (name_of_methodNamed Bd.named Bd.method).1
  have X0 : Stand p l e ({ frames := 2, cells := 0, slots := 0, locals := 25 } : Room) s m #[(.ref (A 14)), (.ref b224)] below meth c s₁ [] 0 0 := Stand.of_body Bd
  have e0 : s₁.heap = h0 := by rw [← hh, Bd.state]; rfl
  have N0 := Fr.nil n0
  have pre0 : ∀ t, Steps p.tables e below (s₁.setTop (mkF m 0 #[.val (.ref (A 14)), .val (.ref b224), .unset] [])) t → Steps p.tables e below (s₁.setTop (entryFrame m #[(.ref (A 14)), (.ref b224)] 3)) t := fun t k => castTop (own_ef_rm28 m p1 p2 p3 A K cs b224 b246_b243_b232_b229 k246_k243_k232_k229) k
  have KK0 : Keep h0 h0 [] := Keep.refl _ _
  obtain ⟨cq247, kq247, q247a, q247b, q247c⟩ := isOf hZ e0 G_E_b224
  obtain ⟨_, _, ⟨T247, L247, k247, n247⟩, -, X247, ⟨Lc247, hQ247, l247, y247, z247⟩, st247⟩ := X0.virtualBack hx (y := own_m1) (z := own_m1) hown (mvT hZ (hw _ (List.mem_of_getElem? (i := 108) rfl))) (mvT hZ (hw _ (List.mem_of_getElem? (i := 109) rfl))) (notFace_of_selects (args := #[]) (mvT hZ (hw _ (List.mem_of_getElem? (i := 111) rfl)))) (mvT hZ (hw _ (List.mem_of_getElem? (i := 111) rfl))) (mvT hZ (hw _ (List.mem_of_getElem? (i := 110) rfl))) (by decide) (backOf (W := 0) (rm21 l Z a0 hw [] h0 n0 p1 p2 p3 A K cs b224 b246_b243_b232_b229 k246_k243_k232_k229 EN OL0 G_F_b224_java_lang_String_value G_A_b246_b243_b232_b229 G_E_b224 G_F_b224_java_lang_String_coder) hZ (hw _ (List.mem_of_getElem? (i := 112) rfl)) (hw _ (List.mem_of_getElem? (i := 76) rfl)) (by decide) (by decide)) q247a q247c (g := (mkF m 1 #[.val (.ref (A 14)), .val (.ref b224), .unset] [(.ref b224)])) rfl (by rw [hml]; rfl) (Steps.refl _) (argsL := []) (rest := []) (lenOf own_pd8 rfl) rfl (by show 2 * 0 + _ ≤ _; exact Nat.le_of_eq rfl) (hb hby own_d_prog_40_method_7_code_1) (fun _ _ => ⟨rfl, e0, (by decide : 0 + 0 ≤ _), (by decide : 0 + 0 ≤ _)⟩)
  dsimp only [Pt.U, Pt.locs, Pt.cells, Pt.slots] at X247 l247 y247 z247 st247 hQ247
  replace X247 := own_sub X247 l247 y247 z247
  obtain ⟨rfl, N247q, e247⟩ := hQ247
  have N247 := Fr.app N0 N247q
  obtain ⟨cq249, kq249, q249a, q249b, q249c⟩ := isOf hZ e247 (EN.2.2.2.1.2.2.2.2.2.1.ext OL0.2)
  obtain ⟨_, _, ⟨T249, L249, k249, n249⟩, -, X249, ⟨Lc249, hQ249, l249, y249, z249⟩, st249⟩ := X247.virtualBackUp hx (x := own_m16) (y := own_m8) (owner := "java/lang/Enum") hown (mvT hZ (hw _ (List.mem_of_getElem? (i := 118) rfl))) (mvT hZ (hw _ (List.mem_of_getElem? (i := 119) rfl))) (mvT hZ (hw _ (List.mem_of_getElem? (i := 120) rfl))) (by decide) (mvT hZ (hw _ (List.mem_of_getElem? (i := 122) rfl))) (mvT hZ (hw _ (List.mem_of_getElem? (i := 121) rfl))) (backOf (W := 0) (rm29 l Z a0 hw [] h0 n0 p1 p2 p3 A K cs EN OL0) hZ (hw _ (List.mem_of_getElem? (i := 124) rfl)) (hw _ (List.mem_of_getElem? (i := 123) rfl)) (by decide) (by decide)) q249a q249c (g := (mkF m 12 #[.val (.ref (A 14)), .val (.ref b224), .val (.int (3 : Int32))] [(.ref (A 14))])) rfl (by rw [hml]; rfl) (Steps.refl _) (argsL := []) (rest := []) (lenOf own_pd8 rfl) rfl (by show 2 * 0 + _ ≤ _; exact Nat.le_of_eq rfl) (hb hby own_d_prog_40_method_7_code_12) (fun _ _ => ⟨rfl, e247, (by decide : 0 + 0 ≤ _), (by decide : 0 + 0 ≤ _)⟩)
  dsimp only [Pt.U, Pt.locs, Pt.cells, Pt.slots] at X249 l249 y249 z249 st249 hQ249
  replace X249 := own_sub X249 l249 y249 z249
  obtain ⟨rfl, N249q, e249⟩ := hQ249
  have N249 := Fr.app N247 N249q
  obtain ⟨fs, hr, hrun, hended, hW, hsame⟩ := X249.leave (v := some (.int (1 : Int32))) (fun h => by rw [Bd.returns] at h; cases h)
  refine ⟨_, _, pre0 _ ?_, hrun, hended, _, _, rfl, ?_, ⟨_, rfl⟩, hW, hsame.mono (by decide) (by decide)⟩
  · show Steps p.tables e below (s₁.setTop (mkF m 0 #[.val (.ref (A 14)), .val (.ref b224), .unset] [])) _
    refine XS.aloadN X0.here hx rfl (hb hby own_d_prog_40_method_7_code_0) rfl rfl ?_
    refine st247.trans ?_
    show Steps p.tables e below (T247.setTop (mkF m 4 #[.val (.ref (A 14)), .val (.ref b224), .unset] [(.int (3 : Int32))])) _
    refine XS.istoreN X247.here hx rfl (hb hby own_d_prog_40_method_7_code_4) rfl (l' := #[.val (.ref (A 14)), .val (.ref b224), .val (.int (3 : Int32))]) rfl ?_
    refine XS.iloadN X247.here hx rfl (hb hby own_d_prog_40_method_7_code_5) rfl ?_
    refine XS.ifYes X247.here hx rfl (pc0 := 6) (pc' := 11) rfl (hb hby own_d_prog_40_method_7_code_6) rfl ((if0 _ _).trans (feq (by decide : ¬ ((3 : Int32) = (0 : Int32)))).2) (by decide) (by decide) ?_
    show Steps p.tables e below (T247.setTop (mkF m 11 #[.val (.ref (A 14)), .val (.ref b224), .val (.int (3 : Int32))] [])) _
    refine XS.aloadN X247.here hx rfl (hb hby own_d_prog_40_method_7_code_11) rfl rfl ?_
    refine st249.trans ?_
    show Steps p.tables e below (T249.setTop (mkF m 15 #[.val (.ref (A 14)), .val (.ref b224), .val (.int (3 : Int32))] [(.int (14 : Int32))])) _
    refine XS.tswIn X249.here hx rfl (pc0 := 15) (pc' := 302) rfl (hb hby own_d_prog_40_method_7_code_15) rfl (by decide) (o := 287) (by decide) (by decide) (by decide) ?_
    show Steps p.tables e below (T249.setTop (mkF m 302 #[.val (.ref (A 14)), .val (.ref b224), .val (.int (3 : Int32))] [])) _
    refine XS.iconst X249.here hx rfl (hb hby own_d_prog_40_method_7_code_302) ?_
    refine XS.goto X249.here hx rfl (pc0 := 303) (pc' := 426) rfl (hb hby own_d_prog_40_method_7_code_303) (by decide) (by decide) ?_
    exact retN X249 hx (t := .boolean) Bd.returns (by simp) (hb hby own_d_prog_40_method_7_code_426) hr
  · show PQ (some (.int (1 : Int32))) h0 n0 _ T249.heap _
    rw [e249]
    exact ⟨rfl, N249, rfl⟩
theorem own_ef_rm30 (m : MethodId) (p1 : Int32) (p2 : Int32) (p3 : Int32) (A : Nat → Addr) (K : Nat → ClassId) (cs : Int32)  : entryFrame m #[(.ref (A 15))] 1 = mkF m 0 #[.val (.ref (A 15))] [] := by first | (simp [entryFrame, mkF, argsToLocals, Value.category, maxLocals]; done) | rfl
set_option maxRecDepth 65536 in
set_option maxHeartbeats 40000000 in
theorem rm30 (l : Launch) (Z : State) (a0 : Array Value) (hw : ∀ d ∈ tables_1, d.before a0 Z = true) (ws : List Jvm.Cond) (h0 : Heap) (n0 : Nat) (p1 : Int32) (p2 : Int32) (p3 : Int32) (A : Nat → Addr) (K : Nat → ClassId) (cs : Int32)  (EN : own_St Z A K cs) (OL0 : Old Z n0 h0) :
    MetFree l own_m0 (head1 (Jvm.Cond.code own_m0 prog_40_method_6_code 1 (some .boolean) :: ws) ({ frames := 0, cells := 0, slots := 0, locals := 0 } : Room)) (fun a U => a = #[(.ref (A 15))] ∧ Z.Warmed39 U.vm ∧ U.heap = h0) (fun _ _ _ _ _ => True) (fun _ U o U' => ∃ v L, o = .returned v ∧ (PQ (some (.int (1 : Int32))) h0 n0) v U'.heap L ∧ FrameEnd U o U' L ({ frames := 0, cells := 0, slots := 0, locals := 0 } : Room).cells ({ frames := 0, cells := 0, slots := 0, locals := 0 } : Room).slots) := by
  refine MetFree.of_bodySF (plainFor_of_name own_pn1) hisR ?_
  intro p e s m args below meth c s₁ Bd hml0 hP hK
  obtain ⟨rfl, hZ, hh⟩ := hP
  have hx := Bd.exec
  have hby := Bd.bytes
  have hml : c.maxLocals = 1 := hml0
  have hown : s.vm.findClass "com/example/tallywire/tallywire/wire/FieldType" = some m.cls := findClass_of_methodNamed Bd.named
  have hnm := (name_of_methodNamed Bd.named Bd.method).1
  have X0 : Stand p l e ({ frames := 0, cells := 0, slots := 0, locals := 0 } : Room) s m #[(.ref (A 15))] below meth c s₁ [] 0 0 := Stand.of_body Bd
  have e0 : s₁.heap = h0 := by rw [← hh, Bd.state]; rfl
  have N0 := Fr.nil n0
  have pre0 : ∀ t, Steps p.tables e below (s₁.setTop (mkF m 0 #[.val (.ref (A 15))] [])) t → Steps p.tables e below (s₁.setTop (entryFrame m #[(.ref (A 15))] 1)) t := fun t k => castTop (own_ef_rm30 m p1 p2 p3 A K cs ) k
  have KK0 : Keep h0 h0 [] := Keep.refl _ _
  obtain ⟨T252, X252, e252, st252⟩ := getS2 X0 hx hZ hown (host := "") (Or.inl (hw _ (List.mem_of_getElem? (i := 66) rfl))) Via.refl e0 (EN.2.2.2.1.2.2.1.ext OL0.2) (g := (mkF m 1 #[.val (.ref (A 15))] [(.ref (A 15))])) rfl (hb hby own_d_prog_40_method_6_code_1)
  obtain ⟨T253, X253, e253, st253⟩ := getS2 X252 hx hZ hown (host := "") (Or.inl (hw _ (List.mem_of_getElem? (i := 67) rfl))) Via.refl e252 (EN.2.2.2.1.2.2.2.2.1.ext OL0.2) (g := (mkF m 8 #[.val (.ref (A 15))] [(.ref (A 15))])) rfl (hb hby own_d_prog_40_method_6_code_8)
  obtain ⟨T254, X254, e254, st254⟩ := getS2 X253 hx hZ hown (host := "") (Or.inl (hw _ (List.mem_of_getElem? (i := 68) rfl))) Via.refl e253 (EN.2.2.2.1.2.2.2.2.2.2.1.ext OL0.2) (g := (mkF m 15 #[.val (.ref (A 15))] [(.ref (A 15))])) rfl (hb hby own_d_prog_40_method_6_code_15)
  obtain ⟨fs, hr, hrun, hended, hW, hsame⟩ := X254.leave (v := some (.int (1 : Int32))) (fun h => by rw [Bd.returns] at h; cases h)
  refine ⟨_, _, pre0 _ ?_, hrun, hended, _, _, rfl, ?_, ⟨_, rfl⟩, hW, hsame.mono (by decide) (by decide)⟩
  · show Steps p.tables e below (s₁.setTop (mkF m 0 #[.val (.ref (A 15))] [])) _
    refine XS.aloadN X0.here hx rfl (hb hby own_d_prog_40_method_6_code_0) rfl rfl ?_
    refine st252 _ ?_
    show Steps p.tables e below (T252.setTop (mkF m 4 #[.val (.ref (A 15))] [(.ref (A 13)), (.ref (A 15))])) _
    refine Jvm.RoadKit.acmp (g := (mkF m 4 #[.val (.ref (A 15))] [(.ref (A 13)), (.ref (A 15))])) X252 hx rfl rfl rfl (pc0 := 4) (pc' := 7) (same := false) rfl (hb hby own_d_prog_40_method_6_code_4) rfl (decide_eq_false fun q => (Fld.ne EN.2.2.2.2.2.2.2.1.2.2.2.2.2.2.1 EN.2.2.2.2.2.2.2.1.2.2.2.2.1 (fun h => by injection h with h; exact absurd h (by decide))) (Value.ref.inj q)) (by decide) (by decide) ?_
    show Steps p.tables e below (T252.setTop (mkF m 7 #[.val (.ref (A 15))] [])) _
    refine XS.aloadN X252.here hx rfl (hb hby own_d_prog_40_method_6_code_7) rfl rfl ?_
    refine st253 _ ?_
    show Steps p.tables e below (T253.setTop (mkF m 11 #[.val (.ref (A 15))] [(.ref (A 14)), (.ref (A 15))])) _
    refine Jvm.RoadKit.acmp (g := (mkF m 11 #[.val (.ref (A 15))] [(.ref (A 14)), (.ref (A 15))])) X253 hx rfl rfl rfl (pc0 := 11) (pc' := 14) (same := false) rfl (hb hby own_d_prog_40_method_6_code_11) rfl (decide_eq_false fun q => (Fld.ne EN.2.2.2.2.2.2.2.1.2.2.2.2.2.2.1 EN.2.2.2.2.2.2.2.1.2.2.2.2.2.1 (fun h => by injection h with h; exact absurd h (by decide))) (Value.ref.inj q)) (by decide) (by decide) ?_
    show Steps p.tables e below (T253.setTop (mkF m 14 #[.val (.ref (A 15))] [])) _
    refine XS.aloadN X253.here hx rfl (hb hby own_d_prog_40_method_6_code_14) rfl rfl ?_
    refine st254 _ ?_
    show Steps p.tables e below (T254.setTop (mkF m 18 #[.val (.ref (A 15))] [(.ref (A 15)), (.ref (A 15))])) _
    refine Jvm.RoadKit.acmp (g := (mkF m 18 #[.val (.ref (A 15))] [(.ref (A 15)), (.ref (A 15))])) X254 hx rfl rfl rfl (pc0 := 18) (pc' := 21) (same := true) rfl (hb hby own_d_prog_40_method_6_code_18) rfl (decide_eq_true rfl) (by decide) (by decide) ?_
    show Steps p.tables e below (T254.setTop (mkF m 21 #[.val (.ref (A 15))] [])) _
    refine XS.iconst X254.here hx rfl (hb hby own_d_prog_40_method_6_code_21) ?_
    refine XS.goto X254.here hx rfl (pc0 := 22) (pc' := 26) rfl (hb hby own_d_prog_40_method_6_code_22) (by decide) (by decide) ?_
    exact retN X254 hx (t := .boolean) Bd.returns (by simp) (hb hby own_d_prog_40_method_6_code_26) hr
  · show PQ (some (.int (1 : Int32))) h0 n0 _ T254.heap _
    rw [e254]
    exact ⟨rfl, N0, rfl⟩
def Q_rm33 (Z : State) (p1 : Int32) (p2 : Int32) (p3 : Int32) (A : Nat → Addr) (K : Nat → ClassId) (cs : Int32) (b3 : Addr) (b256 : Addr) (b265 : Addr) (k256 : ClassId) (k3 : ClassId) (h0 : Heap) (n0 : Nat) (v : Option Value) (h : Heap) (L : List Loc) : Prop := ∃ b270 : Addr, ∃ k270 : ClassId, v = (some (.ref b270)) ∧ Fr n0 L ∧ Keep h0 h [] ∧ (n0 ≤ b270 ∧ h0.size ≤ b270) ∧ (Arv Z h b270 k270 .byte (3 : Int32) [(.int (nar .byte ((nar .char (own_C p2)).toInt8.toInt32))), (.int (32 : Int32)), (.int (nar .byte ((nar .char (own_C p3)).toInt8.toInt32)))] (.int (0 : Int32)))
theorem own_ef_rm33 (m : MethodId) (p1 : Int32) (p2 : Int32) (p3 : Int32) (A : Nat → Addr) (K : Nat → ClassId) (cs : Int32)  (b3 : Addr) (b256 : Addr) (b265 : Addr) (k256 : ClassId) (k3 : ClassId) : entryFrame m #[(.ref b256), (.int (0 : Int32)), (.int (3 : Int32))] 6 = mkF m 0 #[.val (.ref b256), .val (.int (0 : Int32)), .val (.int (3 : Int32)), .unset, .unset, .unset] [] := by first | (simp [entryFrame, mkF, argsToLocals, Value.category, maxLocals]; done) | rfl
set_option maxRecDepth 65536 in
set_option maxHeartbeats 40000000 in
theorem rm33 (l : Launch) (Z : State) (a0 : Array Value) (hw : ∀ d ∈ tables_1, d.before a0 Z = true) (ws : List Jvm.Cond) (h0 : Heap) (n0 : Nat) (p1 : Int32) (p2 : Int32) (p3 : Int32) (A : Nat → Addr) (K : Nat → ClassId) (cs : Int32)  (b3 : Addr) (b256 : Addr) (b265 : Addr) (k256 : ClassId) (k3 : ClassId) (EN : own_St Z A K cs) (OL0 : Old Z n0 h0) (G_A_b3 : Arv Z h0 b3 k3 (.object "com/example/tallywire/tallywire/wire/FieldType") (28 : Int32) [(.ref (A 0)), (.ref (A 1)), (.ref (A 2)), (.ref (A 3)), (.ref (A 4)), (.ref (A 5)), (.ref (A 6)), (.ref (A 7)), (.ref (A 8)), (.ref (A 9)), (.ref (A 10)), (.ref (A 11)), (.ref (A 12)), (.ref (A 13)), (.ref (A 14)), (.ref (A 15)), (.ref (A 16)), (.ref (A 17)), (.ref (A 18)), (.ref (A 19)), (.ref (A 20)), (.ref (A 21)), (.ref (A 22)), (.ref (A 23)), (.ref (A 24)), (.ref (A 25)), (.ref (A 26)), (.ref (A 27))] .null) (G_A_b256 : Arv Z h0 b256 k256 .char (3 : Int32) [(.int (nar .char (own_C p2))), (.int (32 : Int32)), (.int (nar .char (own_C p3)))] (.int (0 : Int32))) (G_E_b265 : Exa Z h0 b265 "java/lang/String") :
    MetFree l own_m5 (head1 (Jvm.Cond.code own_m5 jdk_52_method_16_code 6 (some (.array .byte)) :: ws) ({ frames := 1, cells := 1, slots := 3, locals := 18 } : Room)) (fun a U => a = #[(.ref b256), (.int (0 : Int32)), (.int (3 : Int32))] ∧ Z.Warmed39 U.vm ∧ U.heap = h0) (fun _ _ _ _ _ => True) (fun _ U o U' => ∃ v L, o = .returned v ∧ Q_rm33 Z p1 p2 p3 A K cs b3 b256 b265 k256 k3 h0 n0 v U'.heap L ∧ FrameEnd U o U' L ({ frames := 1, cells := 1, slots := 3, locals := 18 } : Room).cells ({ frames := 1, cells := 1, slots := 3, locals := 18 } : Room).slots) := by
  refine MetFree.of_bodySF (plainFor_of_name own_pn2) hisR ?_
  intro p e s m args below meth c s₁ Bd hml0 hP hK
  obtain ⟨rfl, hZ, hh⟩ := hP
  have hx := Bd.exec
  have hby := Bd.bytes
  have hml : c.maxLocals = 6 := hml0
  have hown : s.vm.findClass "java/lang/StringUTF16" = some m.cls := findClass_of_methodNamed Bd.named
  have hnm := (name_of_methodNamed Bd.named Bd.method).1
  have X0 : Stand p l e ({ frames := 1, cells := 1, slots := 3, locals := 18 } : Room) s m #[(.ref b256), (.int (0 : Int32)), (.int (3 : Int32))] below meth c s₁ [] 0 0 := Stand.of_body Bd
  have e0 : s₁.heap = h0 := by rw [← hh, Bd.state]; rfl
  have N0 := Fr.nil n0
  have pre0 : ∀ t, Steps p.tables e below (s₁.setTop (mkF m 0 #[.val (.ref b256), .val (.int (0 : Int32)), .val (.int (3 : Int32)), .unset, .unset, .unset] [])) t → Steps p.tables e below (s₁.setTop (entryFrame m #[(.ref b256), (.int (0 : Int32)), (.int (3 : Int32))] 6)) t := fun t k => castTop (own_ef_rm33 m p1 p2 p3 A K cs b3 b256 b265 k256 k3) k
  have KK0 : Keep h0 h0 [] := Keep.refl _ _
  obtain ⟨T270, h270, k270, X270, e270, E270, A270, st270⟩ := newP X0 hx hZ (hw _ (List.mem_of_getElem? (i := 92) rfl)) e0 (g := (mkF m 1 #[.val (.ref b256), .val (.int (0 : Int32)), .val (.int (3 : Int32)), .unset, .unset, .unset] [(.int (3 : Int32))])) rfl (hb hby own_d_jdk_52_method_16_code_1) rfl (by decide) (cap := 3) (by decide) (by decide) (by decide) (by decide)
  obtain ⟨b270, g270⟩ : ∃ z, z = h0.size := ⟨_, rfl⟩
  rw [← g270] at A270 st270
  have gn_b270 : n0 ≤ b270 := Nat.le_trans (OL0.1 ▸ OL0.2.1) (Nat.le_of_eq g270.symm)
  have sz_b270 : h0.size ≤ b270 := Nat.le_trans KK0.1 (Nat.le_of_eq g270.symm)
  have lt_b3_b270 : b3 < b270 := Nat.lt_of_lt_of_le G_A_b3.lt (Nat.le_of_eq g270.symm)
  have lt_b256_b270 : b256 < b270 := Nat.lt_of_lt_of_le G_A_b256.lt (Nat.le_of_eq g270.symm)
  have lt_b265_b270 : b265 < b270 := Nat.lt_of_lt_of_le G_E_b265.lt (Nat.le_of_eq g270.symm)
  have OL270 : Old Z n0 h270 := OL0.ext E270
  have KK270 : Keep h0 h270 [] := KK0.ext E270
  have V270 : Arv Z h270 b270 k270 .byte (3 : Int32) [] (.int (0 : Int32)) := Arv.new A270 (by decide)
  have fx271 : Arv Z h270 b256 k256 .char (3 : Int32) [(.int (nar .char (own_C p2))), (.int (32 : Int32)), (.int (nar .char (own_C p3)))] (.int (0 : Int32)) := (G_A_b256.ext E270)
  obtain ⟨_, _, ⟨T272, L272, k272, n272⟩, -, X272, ⟨Lc272, hQ272, l272, y272, z272⟩, st272⟩ := Jvm.LawKit.callS X270 hx (y := own_m13) hown (mvT hZ (hw _ (List.mem_of_getElem? (i := 93) rfl))) (mvT hZ (hw _ (List.mem_of_getElem? (i := 94) rfl))) (mvT hZ (hw _ (List.mem_of_getElem? (i := 90) rfl))) (mvT hZ (hw _ (List.mem_of_getElem? (i := 95) rfl))) (by decide) (backOf (W := 0) (rm18 l Z a0 hw [] h270 n0 p1 p2 p3 A K cs b256 b270 k256 k270 EN OL270 fx271 V270 (Nat.ne_of_lt lt_b256_b270) gn_b270) hZ (hw _ (List.mem_of_getElem? (i := 95) rfl)) (hw _ (List.mem_of_getElem? (i := 90) rfl)) (by decide) (by decide)) (g := (mkF m 9 #[.val (.ref b256), .val (.int (0 : Int32)), .val (.int (3 : Int32)), .val (.ref b270), .unset, .unset] [(.int (3 : Int32)), (.int (0 : Int32)), (.ref b270), (.int (0 : Int32)), (.ref b256)])) rfl (by rw [hml]; rfl) (argsL := [(.ref b256), (.int (0 : Int32)), (.ref b270), (.int (0 : Int32)), (.int (3 : Int32))]) (rest := []) (lenOf own_pd2 rfl) rfl (by show 2 * 0 + _ ≤ _; exact Nat.le_of_eq rfl) (hb hby own_d_jdk_52_method_16_code_9) (fun _ _ => ⟨rfl, e270, (by decide : 1 + 0 ≤ _), (by decide : 3 + 0 ≤ _)⟩)
  dsimp only [Pt.U, Pt.locs, Pt.cells, Pt.slots] at X272 l272 y272 z272 st272 hQ272
  replace X272 := own_sub X272 l272 y272 z272
  obtain ⟨rfl, N272q, K272c, f272_0⟩ := hQ272
  have N272 := Fr.app N0 N272q
  have OL272 : Old Z n0 T272.heap := OL270.keep K272c (allS gn_b270 all0)
  have KK272 : Keep h0 T272.heap [] := KK270.trans K272c (allS (Or.inr sz_b270) all0)
  obtain ⟨fs, hr, hrun, hended, hW, hsame⟩ := X272.leave (v := some (.ref b270)) (fun h => by rw [Bd.returns] at h; cases h)
  refine ⟨_, _, pre0 _ ?_, hrun, hended, _, _, rfl, ?_, ⟨_, rfl⟩, hW, hsame.mono (by decide) (by decide)⟩
  · show Steps p.tables e below (s₁.setTop (mkF m 0 #[.val (.ref b256), .val (.int (0 : Int32)), .val (.int (3 : Int32)), .unset, .unset, .unset] [])) _
    refine XS.iloadN X0.here hx rfl (hb hby own_d_jdk_52_method_16_code_0) rfl ?_
    refine st270 _ ?_
    show Steps p.tables e below (T270.setTop (mkF m 3 #[.val (.ref b256), .val (.int (0 : Int32)), .val (.int (3 : Int32)), .unset, .unset, .unset] [(.ref b270)])) _
    refine XS.astoreN X270.here hx rfl (hb hby own_d_jdk_52_method_16_code_3) rfl rfl (l' := #[.val (.ref b256), .val (.int (0 : Int32)), .val (.int (3 : Int32)), .val (.ref b270), .unset, .unset]) rfl ?_
    refine XS.aloadN X270.here hx rfl (hb hby own_d_jdk_52_method_16_code_4) rfl rfl ?_
    refine XS.iloadN X270.here hx rfl (hb hby own_d_jdk_52_method_16_code_5) rfl ?_
    show Steps p.tables e below (T270.setTop (mkF m 6 #[.val (.ref b256), .val (.int (0 : Int32)), .val (.int (3 : Int32)), .val (.ref b270), .unset, .unset] [(.int (0 : Int32)), (.ref b256)])) _
    refine XS.aloadN X270.here hx rfl (hb hby own_d_jdk_52_method_16_code_6) rfl rfl ?_
    refine XS.iconst X270.here hx rfl (hb hby own_d_jdk_52_method_16_code_7) ?_
    refine XS.iloadN X270.here hx rfl (hb hby own_d_jdk_52_method_16_code_8) rfl ?_
    show Steps p.tables e below (T270.setTop (mkF m 9 #[.val (.ref b256), .val (.int (0 : Int32)), .val (.int (3 : Int32)), .val (.ref b270), .unset, .unset] [(.int (3 : Int32)), (.int (0 : Int32)), (.ref b270), (.int (0 : Int32)), (.ref b256)])) _
    refine st272 _ ?_
    show Steps p.tables e below (T272.setTop (mkF m 12 #[.val (.ref b256), .val (.int (0 : Int32)), .val (.int (3 : Int32)), .val (.ref b270), .unset, .unset] [(.int (3 : Int32))])) _
    refine XS.istore X272.here hx rfl (hb hby own_d_jdk_52_method_16_code_12) rfl (l' := #[.val (.ref b256), .val (.int (0 : Int32)), .val (.int (3 : Int32)), .val (.ref b270), .val (.int (3 : Int32)), .unset]) rfl ?_
    refine XS.iload X272.here hx rfl (hb hby own_d_jdk_52_method_16_code_14) rfl ?_
    refine XS.iloadN X272.here hx rfl (hb hby own_d_jdk_52_method_16_code_16) rfl ?_
    show Steps p.tables e below (T272.setTop (mkF m 17 #[.val (.ref b256), .val (.int (0 : Int32)), .val (.int (3 : Int32)), .val (.ref b270), .val (.int (3 : Int32)), .unset] [(.int (3 : Int32)), (.int (3 : Int32))])) _
    refine XS.icmpYes X272.here hx rfl (pc0 := 17) (pc' := 57) rfl (hb hby own_d_jdk_52_method_16_code_17) rfl (teq (by decide : (3 : Int32) = (3 : Int32))).1 (by decide) (by decide) ?_
    show Steps p.tables e below (T272.setTop (mkF m 57 #[.val (.ref b256), .val (.int (0 : Int32)), .val (.int (3 : Int32)), .val (.ref b270), .val (.int (3 : Int32)), .unset] [])) _
    refine XS.aloadN X272.here hx rfl (hb hby own_d_jdk_52_method_16_code_57) rfl rfl ?_
    exact retOut X272 hx Bd.returns rfl (Or.inr (Or.inr (Or.inr (Or.inr ⟨rfl, rfl, rfl⟩)))) (hb hby own_d_jdk_52_method_16_code_58) hr
  · show Q_rm33 Z p1 p2 p3 A K cs b3 b256 b265 k256 k3 h0 n0 _ T272.heap _
    exact ⟨b270, k270, rfl, N272, KK272, ⟨gn_b270, sz_b270⟩, f272_0⟩
def Q_rm32 (Z : State) (p1 : Int32) (p2 : Int32) (p3 : Int32) (A : Nat → Addr) (K : Nat → ClassId) (cs : Int32) (b3 : Addr) (b256 : Addr) (b265 : Addr) (k256 : ClassId) (k3 : ClassId) (h0 : Heap) (n0 : Nat) (v : Option Value) (h : Heap) (L : List Loc) : Prop := ∃ b273_b270 : Addr, ∃ k273_k270 : ClassId, v = none ∧ Fr n0 L ∧ Keep h0 h [b265] ∧ (n0 ≤ b273_b270 ∧ h0.size ≤ b273_b270) ∧ (Exa Z h b265 "java/lang/String") ∧ (Fld Z h b265 "java/lang/String" "coder" "B" (.int (0 : Int32))) ∧ (Fld Z h b265 "java/lang/String" "value" "[B" (.ref b273_b270)) ∧ (Arv Z h b273_b270 k273_k270 .byte (3 : Int32) [(.int (nar .byte ((nar .char (own_C p2)).toInt8.toInt32))), (.int (32 : Int32)), (.int (nar .byte ((nar .char (own_C p3)).toInt8.toInt32)))] (.int (0 : Int32)))
theorem own_ef_rm32 (m : MethodId) (p1 : Int32) (p2 : Int32) (p3 : Int32) (A : Nat → Addr) (K : Nat → ClassId) (cs : Int32)  (b3 : Addr) (b256 : Addr) (b265 : Addr) (k256 : ClassId) (k3 : ClassId) : entryFrame m #[(.ref b265), (.ref b256), (.int (0 : Int32)), (.int (3 : Int32)), .null] 6 = mkF m 0 #[.val (.ref b265), .val (.ref b256), .val (.int (0 : Int32)), .val (.int (3 : Int32)), .val .null, .unset] [] := by first | (simp [entryFrame, mkF, argsToLocals, Value.category, maxLocals]; done) | rfl
set_option maxRecDepth 65536 in
set_option maxHeartbeats 40000000 in
theorem rm32 (l : Launch) (Z : State) (a0 : Array Value) (hw : ∀ d ∈ tables_1, d.before a0 Z = true) (ws : List Jvm.Cond) (h0 : Heap) (n0 : Nat) (p1 : Int32) (p2 : Int32) (p3 : Int32) (A : Nat → Addr) (K : Nat → ClassId) (cs : Int32)  (b3 : Addr) (b256 : Addr) (b265 : Addr) (k256 : ClassId) (k3 : ClassId) (EN : own_St Z A K cs) (OL0 : Old Z n0 h0) (G_A_b3 : Arv Z h0 b3 k3 (.object "com/example/tallywire/tallywire/wire/FieldType") (28 : Int32) [(.ref (A 0)), (.ref (A 1)), (.ref (A 2)), (.ref (A 3)), (.ref (A 4)), (.ref (A 5)), (.ref (A 6)), (.ref (A 7)), (.ref (A 8)), (.ref (A 9)), (.ref (A 10)), (.ref (A 11)), (.ref (A 12)), (.ref (A 13)), (.ref (A 14)), (.ref (A 15)), (.ref (A 16)), (.ref (A 17)), (.ref (A 18)), (.ref (A 19)), (.ref (A 20)), (.ref (A 21)), (.ref (A 22)), (.ref (A 23)), (.ref (A 24)), (.ref (A 25)), (.ref (A 26)), (.ref (A 27))] .null) (G_A_b256 : Arv Z h0 b256 k256 .char (3 : Int32) [(.int (nar .char (own_C p2))), (.int (32 : Int32)), (.int (nar .char (own_C p3)))] (.int (0 : Int32))) (G_E_b265 : Exa Z h0 b265 "java/lang/String") (G_F_b265_java_lang_String_coder : Fld Z h0 b265 "java/lang/String" "coder" "B" (.int (0 : Int32))) (G_F_b265_java_lang_String_value : Fld Z h0 b265 "java/lang/String" "value" "[B" .null) (gn_b265 : n0 ≤ b265) :
    MetFree l own_m6 (head1 (Jvm.Cond.code own_m6 jdk_42_method_149_code 6 none :: ws) ({ frames := 2, cells := 1, slots := 3, locals := 35 } : Room)) (fun a U => a = #[(.ref b265), (.ref b256), (.int (0 : Int32)), (.int (3 : Int32)), .null] ∧ Z.Warmed39 U.vm ∧ U.heap = h0) (fun _ _ _ _ _ => True) (fun _ U o U' => ∃ v L, o = .returned v ∧ Q_rm32 Z p1 p2 p3 A K cs b3 b256 b265 k256 k3 h0 n0 v U'.heap L ∧ FrameEnd U o U' L ({ frames := 2, cells := 1, slots := 3, locals := 35 } : Room).cells ({ frames := 2, cells := 1, slots := 3, locals := 35 } : Room).slots) := by
  refine MetFree.of_bodySF (plainFor_of_name own_pn3) hisR ?_
  intro p e s m args below meth c s₁ Bd hml0 hP hK
  obtain ⟨rfl, hZ, hh⟩ := hP
  have hx := Bd.exec
  have hby := Bd.bytes
  have hml : c.maxLocals = 6 := hml0
  have hown : s.vm.findClass "java/lang/String" = some m.cls := findClass_of_methodNamed Bd.named
  have hnm := (name_of_methodNamed Bd.named Bd.method).1
  have X0 : Stand p l e ({ frames := 2, cells := 1, slots := 3, locals := 35 } : Room) s m #[(.ref b265), (.ref b256), (.int (0 : Int32)), (.int (3 : Int32)), .null] below meth c s₁ [] 0 0 := Stand.of_body Bd
  have e0 : s₁.heap = h0 := by rw [← hh, Bd.state]; rfl
  have N0 := Fr.nil n0
  have pre0 : ∀ t, Steps p.tables e below (s₁.setTop (mkF m 0 #[.val (.ref b265), .val (.ref b256), .val (.int (0 : Int32)), .val (.int (3 : Int32)), .val .null, .unset] [])) t → Steps p.tables e below (s₁.setTop (entryFrame m #[(.ref b265), (.ref b256), (.int (0 : Int32)), (.int (3 : Int32)), .null] 6)) t := fun t k => castTop (own_ef_rm32 m p1 p2 p3 A K cs b3 b256 b265 k256 k3) k
  have KK0 : Keep h0 h0 [b265] := Keep.refl _ _
  obtain ⟨T268, X268, e268, st268⟩ := initO X0 hx hZ hown (hw _ (List.mem_of_getElem? (i := 84) rfl)) (hw _ (List.mem_of_getElem? (i := 85) rfl)) (hw _ (List.mem_of_getElem? (i := 86) rfl)) e0 (g := (mkF m 1 #[.val (.ref b265), .val (.ref b256), .val (.int (0 : Int32)), .val (.int (3 : Int32)), .val .null, .unset] [(.ref b265)])) rfl (by rw [hml]; rfl) rfl (hb hby own_d_jdk_42_method_149_code_1) (by decide) (W := 0) (by show 2 * 0 + _ ≤ _; exact Nat.le_of_eq rfl) (by decide)
  obtain ⟨T269, X269, e269, st269⟩ := getS2 X268 hx hZ hown (host := "") (Or.inl (hw _ (List.mem_of_getElem? (i := 87) rfl))) Via.refl e268 (EN.2.2.2.2.2.2.2.1.1.ext OL0.2) (g := (mkF m 27 #[.val (.ref b265), .val (.ref b256), .val (.int (0 : Int32)), .val (.int (3 : Int32)), .val .null, .unset] [])) rfl (hb hby own_d_jdk_42_method_149_code_27)
  obtain ⟨_, _, ⟨T273, L273, k273, n273⟩, -, X273, ⟨Lc273, hQ273, l273, y273, z273⟩, st273⟩ := Jvm.LawKit.callS X269 hx (y := own_m5) hown (mvT hZ (hw _ (List.mem_of_getElem? (i := 88) rfl))) (mvT hZ (hw _ (List.mem_of_getElem? (i := 89) rfl))) (mvT hZ (hw _ (List.mem_of_getElem? (i := 90) rfl))) (mvT hZ (hw _ (List.mem_of_getElem? (i := 91) rfl))) (by decide) (backOf (W := 0) (rm33 l Z a0 hw [] h0 n0 p1 p2 p3 A K cs b3 b256 b265 k256 k3 EN OL0 G_A_b3 G_A_b256 G_E_b265) hZ (hw _ (List.mem_of_getElem? (i := 91) rfl)) (hw _ (List.mem_of_getElem? (i := 90) rfl)) (by decide) (by decide)) (g := (mkF m 36 #[.val (.ref b265), .val (.ref b256), .val (.int (0 : Int32)), .val (.int (3 : Int32)), .val .null, .unset] [(.int (3 : Int32)), (.int (0 : Int32)), (.ref b256)])) rfl (by rw [hml]; rfl) (argsL := [(.ref b256), (.int (0 : Int32)), (.int (3 : Int32))]) (rest := []) (lenOf own_pd3 rfl) rfl (by show 2 * 0 + _ ≤ _; exact Nat.le_of_eq rfl) (hb hby own_d_jdk_42_method_149_code_36) (fun _ _ => ⟨rfl, e269, (by decide : 0 + 1 ≤ _), (by decide : 0 + 3 ≤ _)⟩)
  dsimp only [Pt.U, Pt.locs, Pt.cells, Pt.slots] at X273 l273 y273 z273 st273 hQ273
  replace X273 := own_sub X273 l273 y273 z273
  obtain ⟨b273_b270, k273_k270, rfl, N273q, K273c, ⟨gn_b273_b270, szc_b273_b270⟩, f273_0⟩ := hQ273
  have N273 := Fr.app N0 N273q
  have lt_b3_b273_b270 : b3 < b273_b270 := Nat.lt_of_lt_of_le G_A_b3.lt szc_b273_b270
  have lt_b256_b273_b270 : b256 < b273_b270 := Nat.lt_of_lt_of_le G_A_b256.lt szc_b273_b270
  have lt_b265_b273_b270 : b265 < b273_b270 := Nat.lt_of_lt_of_le G_E_b265.lt szc_b273_b270
  have sz_b273_b270 : h0.size ≤ b273_b270 := Nat.le_trans KK0.1 szc_b273_b270
  have OL273 : Old Z n0 T273.heap := OL0.keep K273c all0
  have KK273 : Keep h0 T273.heap [b265] := KK0.trans K273c all0
  obtain ⟨_, _, ⟨T274, L274, k274, n274⟩, -, X274, ⟨Lc274, hQ274, l274, y274, z274⟩, st274⟩ := Jvm.LawKit.callS X273 hx (y := own_m14) hown (mvT hZ (hw _ (List.mem_of_getElem? (i := 96) rfl))) (mvT hZ (hw _ (List.mem_of_getElem? (i := 97) rfl))) (mvT hZ (hw _ (List.mem_of_getElem? (i := 90) rfl))) (mvT hZ (hw _ (List.mem_of_getElem? (i := 98) rfl))) (by decide) (backOf (W := 1) (rm19 l Z a0 hw [] T273.heap n0 p1 p2 p3 A K cs b273_b270 k273_k270 EN OL273 f273_0) hZ (hw _ (List.mem_of_getElem? (i := 98) rfl)) (hw _ (List.mem_of_getElem? (i := 90) rfl)) (by decide) (by decide)) (g := (mkF m 45 #[.val (.ref b265), .val (.ref b256), .val (.int (0 : Int32)), .val (.int (3 : Int32)), .val .null, .val (.ref b273_b270)] [(.int (3 : Int32)), (.ref b273_b270), (.ref b265)])) rfl (by rw [hml]; rfl) (argsL := [(.ref b273_b270), (.int (3 : Int32))]) (rest := [(.ref b265)]) (lenOf own_pd4 rfl) rfl (by show 2 * 0 + _ ≤ _; exact Nat.le_of_eq rfl) (hb hby own_d_jdk_42_method_149_code_45) (fun _ _ => ⟨rfl, rfl, (by decide : 1 + 0 ≤ _), (by decide : 3 + 0 ≤ _)⟩)
  dsimp only [Pt.U, Pt.locs, Pt.cells, Pt.slots] at X274 l274 y274 z274 st274 hQ274
  replace X274 := own_sub X274 l274 y274 z274
  obtain ⟨rfl, N274q, e274⟩ := hQ274
  have N274 := Fr.app N273 N274q
  have fx275 : Fld Z T273.heap b265 "java/lang/String" "coder" "B" (.int (0 : Int32)) := (G_F_b265_java_lang_String_coder.keep K273c nin0)
  have fx276 : Exa Z T273.heap b265 "java/lang/String" := (G_E_b265.keep K273c)
  obtain ⟨T277, h277, X277, e277, W277, st277⟩ := putFN X274 hx hZ hown (hw _ (List.mem_of_getElem? (i := 99) rfl)) Via.refl e274 fx275 fx276 (Or.inr ⟨(hw _ (List.mem_of_getElem? (i := 100) rfl)), rfl, hnm⟩) (hw _ (List.mem_of_getElem? (i := 75) rfl)) (ty := .byte) (v' := (.int (0 : Int32))) (by decide) rfl (by decide) (g := (mkF m 48 #[.val (.ref b265), .val (.ref b256), .val (.int (0 : Int32)), .val (.int (3 : Int32)), .val .null, .val (.ref b273_b270)] [(.int (0 : Int32)), (.ref b265)])) rfl rfl (hb hby own_d_jdk_42_method_149_code_48)
  have NF277 := Fr.snoc X277 N274 gn_b265
  have OL277 : Old Z n0 h277 := OL273.wr W277 gn_b265
  have KK277 : Keep h0 h277 [b265] := KK273.wr W277 (Or.inl (List.mem_of_getElem? (i := 0) rfl))
  have Fw277 : Fld Z h277 b265 "java/lang/String" "coder" "B" (.int (0 : Int32)) := fx275.same W277
  have fx278 : Fld Z h277 b265 "java/lang/String" "value" "[B" .null := ((G_F_b265_java_lang_String_value.keep K273c nin0).other W277 (Or.inr (slot_ne (Or.inr (hw _ (List.mem_of_getElem? (i := 102) rfl))) (Or.inr (hw _ (List.mem_of_getElem? (i := 100) rfl))) (by decide) (t := (.array .byte)) (t' := .byte) (by decide) (by decide))))
  have fx279 : Exa Z h277 b265 "java/lang/String" := (fx276.wr W277)
  obtain ⟨T280, h280, X280, e280, W280, st280⟩ := putF X277 hx hZ hown (host := "") (Or.inl (hw _ (List.mem_of_getElem? (i := 101) rfl))) Via.refl e277 fx278 fx279 (Or.inr ⟨(hw _ (List.mem_of_getElem? (i := 102) rfl)), rfl, hnm⟩) (hw _ (List.mem_of_getElem? (i := 75) rfl)) (ty := (.array .byte)) (by decide) rfl rfl (g := (mkF m 54 #[.val (.ref b265), .val (.ref b256), .val (.int (0 : Int32)), .val (.int (3 : Int32)), .val .null, .val (.ref b273_b270)] [(.ref b273_b270), (.ref b265)])) rfl rfl (hb hby own_d_jdk_42_method_149_code_54)
  have NF280 := Fr.snoc X280 NF277 gn_b265
  have OL280 : Old Z n0 h280 := OL277.wr W280 gn_b265
  have KK280 : Keep h0 h280 [b265] := KK277.wr W280 (Or.inl (List.mem_of_getElem? (i := 0) rfl))
  have Fw280 : Fld Z h280 b265 "java/lang/String" "value" "[B" (.ref b273_b270) := fx278.same W280
  have fx281 : Exa Z h280 b265 "java/lang/String" := (fx279.wr W280)
  have fx282 : Fld Z h280 b265 "java/lang/String" "coder" "B" (.int (0 : Int32)) := (Fw277.other W280 (Or.inr (slot_ne (Or.inr (hw _ (List.mem_of_getElem? (i := 100) rfl))) (Or.inr (hw _ (List.mem_of_getElem? (i := 102) rfl))) (by decide) (t := .byte) (t' := (.array .byte)) (by decide) (by decide))))
  have fx283 : Arv Z h280 b273_b270 k273_k270 .byte (3 : Int32) [(.int (nar .byte ((nar .char (own_C p2)).toInt8.toInt32))), (.int (32 : Int32)), (.int (nar .byte ((nar .char (own_C p3)).toInt8.toInt32)))] (.int (0 : Int32)) := ((f273_0.other W277 (Ne.symm (Nat.ne_of_lt lt_b265_b273_b270))).other W280 (Ne.symm (Nat.ne_of_lt lt_b265_b273_b270)))
  obtain ⟨fs, hr, hrun, hended, hW, hsame⟩ := X280.leave (v := none) (fun _ => rfl)
  refine ⟨_, _, pre0 _ ?_, hrun, hended, _, _, rfl, ?_, ⟨_, rfl⟩, hW, hsame.mono (by decide) (by decide)⟩
  · show Steps p.tables e below (s₁.setTop (mkF m 0 #[.val (.ref b265), .val (.ref b256), .val (.int (0 : Int32)), .val (.int (3 : Int32)), .val .null, .unset] [])) _
    refine XS.aloadN X0.here hx rfl (hb hby own_d_jdk_42_method_149_code_0) rfl rfl ?_
    refine st268 _ ?_
    show Steps p.tables e below (T268.setTop (mkF m 4 #[.val (.ref b265), .val (.ref b256), .val (.int (0 : Int32)), .val (.int (3 : Int32)), .val .null, .unset] [])) _
    refine XS.iloadN X268.here hx rfl (hb hby own_d_jdk_42_method_149_code_4) rfl ?_
    refine XS.ifYes X268.here hx rfl (pc0 := 5) (pc' := 27) rfl (hb hby own_d_jdk_42_method_149_code_5) rfl ((if0 _ _).trans (feq (by decide : ¬ ((3 : Int32) = (0 : Int32)))).2) (by decide) (by decide) ?_
    show Steps p.tables e below (T268.setTop (mkF m 27 #[.val (.ref b265), .val (.ref b256), .val (.int (0 : Int32)), .val (.int (3 : Int32)), .val .null, .unset] [])) _
    refine st269 _ ?_
    show Steps p.tables e below (T269.setTop (mkF m 30 #[.val (.ref b265), .val (.ref b256), .val (.int (0 : Int32)), .val (.int (3 : Int32)), .val .null, .unset] [(.int cs)])) _
    refine XS.ifNo X269.here hx rfl (hb hby own_d_jdk_42_method_149_code_30) rfl ((if0 _ _).trans (feq EN.2.2.2.2.2.2.2.1.2.1).1) ?_
    show Steps p.tables e below (T269.setTop (mkF m 33 #[.val (.ref b265), .val (.ref b256), .val (.int (0 : Int32)), .val (.int (3 : Int32)), .val .null, .unset] [])) _
    refine XS.aloadN X269.here hx rfl (hb hby own_d_jdk_42_method_149_code_33) rfl rfl ?_
    refine XS.iloadN X269.here hx rfl (hb hby own_d_jdk_42_method_149_code_34) rfl ?_
    refine XS.iloadN X269.here hx rfl (hb hby own_d_jdk_42_method_149_code_35) rfl ?_
    show Steps p.tables e below (T269.setTop (mkF m 36 #[.val (.ref b265), .val (.ref b256), .val (.int (0 : Int32)), .val (.int (3 : Int32)), .val .null, .unset] [(.int (3 : Int32)), (.int (0 : Int32)), (.ref b256)])) _
    refine st273 _ ?_
    show Steps p.tables e below (T273.setTop (mkF m 39 #[.val (.ref b265), .val (.ref b256), .val (.int (0 : Int32)), .val (.int (3 : Int32)), .val .null, .unset] [(.ref b273_b270)])) _
    refine XS.astore X273.here hx rfl (hb hby own_d_jdk_42_method_149_code_39) rfl rfl (l' := #[.val (.ref b265), .val (.ref b256), .val (.int (0 : Int32)), .val (.int (3 : Int32)), .val .null, .val (.ref b273_b270)]) rfl ?_
    refine XS.aloadN X273.here hx rfl (hb hby own_d_jdk_42_method_149_code_41) rfl rfl ?_
    refine XS.aload X273.here hx rfl (hb hby own_d_jdk_42_method_149_code_42) rfl rfl ?_
    show Steps p.tables e below (T273.setTop (mkF m 44 #[.val (.ref b265), .val (.ref b256), .val (.int (0 : Int32)), .val (.int (3 : Int32)), .val .null, .val (.ref b273_b270)] [(.ref b273_b270), (.ref b265)])) _
    refine XS.iloadN X273.here hx rfl (hb hby own_d_jdk_42_method_149_code_44) rfl ?_
    refine st274 _ ?_
    show Steps p.tables e below (T274.setTop (mkF m 48 #[.val (.ref b265), .val (.ref b256), .val (.int (0 : Int32)), .val (.int (3 : Int32)), .val .null, .val (.ref b273_b270)] [(.int (0 : Int32)), (.ref b265)])) _
    refine st277 _ ?_
    show Steps p.tables e below (T277.setTop (mkF m 51 #[.val (.ref b265), .val (.ref b256), .val (.int (0 : Int32)), .val (.int (3 : Int32)), .val .null, .val (.ref b273_b270)] [])) _
    refine XS.aloadN X277.here hx rfl (hb hby own_d_jdk_42_method_149_code_51) rfl rfl ?_
    refine XS.aload X277.here hx rfl (hb hby own_d_jdk_42_method_149_code_52) rfl rfl ?_
    refine st280 _ ?_
    show Steps p.tables e below (T280.setTop (mkF m 57 #[.val (.ref b265), .val (.ref b256), .val (.int (0 : Int32)), .val (.int (3 : Int32)), .val .null, .val (.ref b273_b270)] [])) _
    exact X280.returnOut hx Bd.returns (hb hby own_d_jdk_42_method_149_code_57) hr
  · show Q_rm32 Z p1 p2 p3 A K cs b3 b256 b265 k256 k3 h0 n0 _ T280.heap _
    rw [e280]
    exact ⟨b273_b270, k273_k270, rfl, NF280, KK280, ⟨gn_b273_b270, sz_b273_b270⟩, fx281, fx282, Fw280, fx283⟩
def Q_rm31 (Z : State) (p1 : Int32) (p2 : Int32) (p3 : Int32) (A : Nat → Addr) (K : Nat → ClassId) (cs : Int32) (b3 : Addr) (b256 : Addr) (b265 : Addr) (k256 : ClassId) (k3 : ClassId) (h0 : Heap) (n0 : Nat) (v : Option Value) (h : Heap) (L : List Loc) : Prop := ∃ b284_b273_b270 : Addr, ∃ k284_k273_k270 : ClassId, v = none ∧ Fr n0 L ∧ Keep h0 h [b265] ∧ (n0 ≤ b284_b273_b270 ∧ h0.size ≤ b284_b273_b270) ∧ (Exa Z h b265 "java/lang/String") ∧ (Fld Z h b265 "java/lang/String" "coder" "B" (.int (0 : Int32))) ∧ (Fld Z h b265 "java/lang/String" "value" "[B" (.ref b284_b273_b270)) ∧ (Arv Z h b284_b273_b270 k284_k273_k270 .byte (3 : Int32) [(.int (nar .byte ((nar .char (own_C p2)).toInt8.toInt32))), (.int (32 : Int32)), (.int (nar .byte ((nar .char (own_C p3)).toInt8.toInt32)))] (.int (0 : Int32)))
theorem own_ef_rm31 (m : MethodId) (p1 : Int32) (p2 : Int32) (p3 : Int32) (A : Nat → Addr) (K : Nat → ClassId) (cs : Int32)  (b3 : Addr) (b256 : Addr) (b265 : Addr) (k256 : ClassId) (k3 : ClassId) : entryFrame m #[(.ref b265), (.ref b256)] 2 = mkF m 0 #[.val (.ref b265), .val (.ref b256)] [] := by first | (simp [entryFrame, mkF, argsToLocals, Value.category, maxLocals]; done) | rfl
set_option maxRecDepth 65536 in
set_option maxHeartbeats 40000000 in
theorem rm31 (l : Launch) (Z : State) (a0 : Array Value) (hw : ∀ d ∈ tables_1, d.before a0 Z = true) (ws : List Jvm.Cond) (h0 : Heap) (n0 : Nat) (p1 : Int32) (p2 : Int32) (p3 : Int32) (A : Nat → Addr) (K : Nat → ClassId) (cs : Int32)  (b3 : Addr) (b256 : Addr) (b265 : Addr) (k256 : ClassId) (k3 : ClassId) (EN : own_St Z A K cs) (OL0 : Old Z n0 h0) (G_A_b256 : Arv Z h0 b256 k256 .char (3 : Int32) [(.int (nar .char (own_C p2))), (.int (32 : Int32)), (.int (nar .char (own_C p3)))] (.int (0 : Int32))) (G_A_b3 : Arv Z h0 b3 k3 (.object "com/example/tallywire/tallywire/wire/FieldType") (28 : Int32) [(.ref (A 0)), (.ref (A 1)), (.ref (A 2)), (.ref (A 3)), (.ref (A 4)), (.ref (A 5)), (.ref (A 6)), (.ref (A 7)), (.ref (A 8)), (.ref (A 9)), (.ref (A 10)), (.ref (A 11)), (.ref (A 12)), (.ref (A 13)), (.ref (A 14)), (.ref (A 15)), (.ref (A 16)), (.ref (A 17)), (.ref (A 18)), (.ref (A 19)), (.ref (A 20)), (.ref (A 21)), (.ref (A 22)), (.ref (A 23)), (.ref (A 24)), (.ref (A 25)), (.ref (A 26)), (.ref (A 27))] .null) (G_E_b265 : Exa Z h0 b265 "java/lang/String") (G_F_b265_java_lang_String_coder : Fld Z h0 b265 "java/lang/String" "coder" "B" (.int (0 : Int32))) (G_F_b265_java_lang_String_value : Fld Z h0 b265 "java/lang/String" "value" "[B" .null) (gn_b265 : n0 ≤ b265) :
    MetFree l own_m7 (head1 (Jvm.Cond.code own_m7 jdk_42_method_3_code 2 none :: ws) ({ frames := 3, cells := 1, slots := 3, locals := 52 } : Room)) (fun a U => a = #[(.ref b265), (.ref b256)] ∧ Z.Warmed39 U.vm ∧ U.heap = h0) (fun _ _ _ _ _ => True) (fun _ U o U' => ∃ v L, o = .returned v ∧ Q_rm31 Z p1 p2 p3 A K cs b3 b256 b265 k256 k3 h0 n0 v U'.heap L ∧ FrameEnd U o U' L ({ frames := 3, cells := 1, slots := 3, locals := 52 } : Room).cells ({ frames := 3, cells := 1, slots := 3, locals := 52 } : Room).slots) := by
  refine MetFree.of_bodySF (plainFor_of_name own_pn3) hisR ?_
  intro p e s m args below meth c s₁ Bd hml0 hP hK
  obtain ⟨rfl, hZ, hh⟩ := hP
  have hx := Bd.exec
  have hby := Bd.bytes
  have hml : c.maxLocals = 2 := hml0
  have hown : s.vm.findClass "java/lang/String" = some m.cls := findClass_of_methodNamed Bd.named
  have hnm := (name_of_methodNamed Bd.named Bd.method).1
  have X0 : Stand p l e ({ frames := 3, cells := 1, slots := 3, locals := 52 } : Room) s m #[(.ref b265), (.ref b256)] below meth c s₁ [] 0 0 := Stand.of_body Bd
  have e0 : s₁.heap = h0 := by rw [← hh, Bd.state]; rfl
  have N0 := Fr.nil n0
  have pre0 : ∀ t, Steps p.tables e below (s₁.setTop (mkF m 0 #[.val (.ref b265), .val (.ref b256)] [])) t → Steps p.tables e below (s₁.setTop (entryFrame m #[(.ref b265), (.ref b256)] 2)) t := fun t k => castTop (own_ef_rm31 m p1 p2 p3 A K cs b3 b256 b265 k256 k3) k
  have KK0 : Keep h0 h0 [b265] := Keep.refl _ _
  obtain ⟨cl267, Ar267, -, Sz267, Nn267, -, -⟩ := (id G_A_b256)
  obtain ⟨_, _, ⟨T284, L284, k284, n284⟩, -, X284, ⟨Lc284, hQ284, l284, y284, z284⟩, st284⟩ := X0.specialBack hx (y := own_m6) rfl hown (mvT hZ (hw _ (List.mem_of_getElem? (i := 80) rfl))) (mvT hZ (hw _ (List.mem_of_getElem? (i := 81) rfl))) (mvT hZ (hw _ (List.mem_of_getElem? (i := 83) rfl))) (by decide) (backOf (W := 0) (rm32 l Z a0 hw [] h0 n0 p1 p2 p3 A K cs b3 b256 b265 k256 k3 EN OL0 G_A_b3 G_A_b256 G_E_b265 G_F_b265_java_lang_String_coder G_F_b265_java_lang_String_value gn_b265) hZ (hw _ (List.mem_of_getElem? (i := 83) rfl)) (hw _ (List.mem_of_getElem? (i := 76) rfl)) (by decide) (by decide)) (g := (mkF m 6 #[.val (.ref b265), .val (.ref b256)] [.null, (.int (3 : Int32)), (.int (0 : Int32)), (.ref b256), (.ref b265)])) rfl (by rw [hml]; rfl) (Steps.refl _) (a := b265) (argsL := [(.ref b256), (.int (0 : Int32)), (.int (3 : Int32)), .null]) (rest := []) (lenOf own_pd5 rfl) rfl (by show 2 * 0 + _ ≤ _; exact Nat.le_of_eq rfl) (hb hby own_d_jdk_42_method_3_code_6) (fun _ _ => ⟨rfl, e0, (by decide : 0 + 1 ≤ _), (by decide : 0 + 3 ≤ _)⟩)
  dsimp only [Pt.U, Pt.locs, Pt.cells, Pt.slots] at X284 l284 y284 z284 st284 hQ284
  replace X284 := own_sub X284 l284 y284 z284
  obtain ⟨b284_b273_b270, k284_k273_k270, rfl, N284q, K284c, ⟨gn_b284_b273_b270, szc_b284_b273_b270⟩, f284_0, f284_1, f284_2, f284_3⟩ := hQ284
  have N284 := Fr.app N0 N284q
  have lt_b3_b284_b273_b270 : b3 < b284_b273_b270 := Nat.lt_of_lt_of_le G_A_b3.lt szc_b284_b273_b270
  have lt_b256_b284_b273_b270 : b256 < b284_b273_b270 := Nat.lt_of_lt_of_le G_A_b256.lt szc_b284_b273_b270
  have lt_b265_b284_b273_b270 : b265 < b284_b273_b270 := Nat.lt_of_lt_of_le G_E_b265.lt szc_b284_b273_b270
  have sz_b284_b273_b270 : h0.size ≤ b284_b273_b270 := Nat.le_trans KK0.1 szc_b284_b273_b270
  have OL284 : Old Z n0 T284.heap := OL0.keep K284c (allS gn_b265 all0)
  have KK284 : Keep h0 T284.heap [b265] := KK0.trans K284c (allS (Or.inl (List.mem_of_getElem? (i := 0) rfl)) all0)
  obtain ⟨fs, hr, hrun, hended, hW, hsame⟩ := X284.leave (v := none) (fun _ => rfl)
  refine ⟨_, _, pre0 _ ?_, hrun, hended, _, _, rfl, ?_, ⟨_, rfl⟩, hW, hsame.mono (by decide) (by decide)⟩
  · show Steps p.tables e below (s₁.setTop (mkF m 0 #[.val (.ref b265), .val (.ref b256)] [])) _
    refine XS.aloadN X0.here hx rfl (hb hby own_d_jdk_42_method_3_code_0) rfl rfl ?_
    refine XS.aloadN X0.here hx rfl (hb hby own_d_jdk_42_method_3_code_1) rfl rfl ?_
    refine XS.iconst X0.here hx rfl (hb hby own_d_jdk_42_method_3_code_2) ?_
    show Steps p.tables e below (s₁.setTop (mkF m 3 #[.val (.ref b265), .val (.ref b256)] [(.int (0 : Int32)), (.ref b256), (.ref b265)])) _
    refine XS.aloadN X0.here hx rfl (hb hby own_d_jdk_42_method_3_code_3) rfl rfl ?_
    refine X0.arraylength hx (by rw [e0]; exact Ar267.1) (State.isArrayOf_alike hZ.alike Ar267.2.1) (g := (mkF m 4 #[.val (.ref b265), .val (.ref b256)] [(.ref b256), (.int (0 : Int32)), (.ref b256), (.ref b265)])) rfl rfl (hb hby own_d_jdk_42_method_3_code_4) _ ?_
    rw [len_of Sz267 Nn267]
    show Steps p.tables e below (s₁.setTop (mkF m 5 #[.val (.ref b265), .val (.ref b256)] [(.int (3 : Int32)), (.int (0 : Int32)), (.ref b256), (.ref b265)])) _
    refine XS.aconstNull X0.here hx rfl (hb hby own_d_jdk_42_method_3_code_5) ?_
    refine st284.trans ?_
    show Steps p.tables e below (T284.setTop (mkF m 9 #[.val (.ref b265), .val (.ref b256)] [])) _
    exact X284.returnOut hx Bd.returns (hb hby own_d_jdk_42_method_3_code_9) hr
  · show Q_rm31 Z p1 p2 p3 A K cs b3 b256 b265 k256 k3 h0 n0 _ T284.heap _
    exact ⟨b284_b273_b270, k284_k273_k270, rfl, N284, KK284, ⟨gn_b284_b273_b270, sz_b284_b273_b270⟩, f284_0, f284_1, f284_2, f284_3⟩
theorem own_ef_rm35 (m : MethodId) (p1 : Int32) (p2 : Int32) (p3 : Int32) (A : Nat → Addr) (K : Nat → ClassId) (cs : Int32)  : entryFrame m #[(.ref (A 15))] 1 = mkF m 0 #[.val (.ref (A 15))] [] := by first | (simp [entryFrame, mkF, argsToLocals, Value.category, maxLocals]; done) | rfl
set_option maxRecDepth 65536 in
set_option maxHeartbeats 40000000 in
theorem rm35 (l : Launch) (Z : State) (a0 : Array Value) (hw : ∀ d ∈ tables_1, d.before a0 Z = true) (ws : List Jvm.Cond) (h0 : Heap) (n0 : Nat) (p1 : Int32) (p2 : Int32) (p3 : Int32) (A : Nat → Addr) (K : Nat → ClassId) (cs : Int32)  (EN : own_St Z A K cs) (OL0 : Old Z n0 h0) :
    MetFree l own_m8 (head1 (Jvm.Cond.code own_m8 jdk_37_method_2_code 1 (some .int) :: ws) ({ frames := 0, cells := 0, slots := 0, locals := 0 } : Room)) (fun a U => a = #[(.ref (A 15))] ∧ Z.Warmed39 U.vm ∧ U.heap = h0) (fun _ _ _ _ _ => True) (fun _ U o U' => ∃ v L, o = .returned v ∧ (PQ (some (.int (15 : Int32))) h0 n0) v U'.heap L ∧ FrameEnd U o U' L ({ frames := 0, cells := 0, slots := 0, locals := 0 } : Room).cells ({ frames := 0, cells := 0, slots := 0, locals := 0 } : Room).slots) := by
  refine MetFree.of_bodySF (plainFor_of_name own_pn4) hisR ?_
  intro p e s m args below meth c s₁ Bd hml0 hP hK
  obtain ⟨rfl, hZ, hh⟩ := hP
  have hx := Bd.exec
  have hby := Bd.bytes
  have hml : c.maxLocals = 1 := hml0
  have hown : s.vm.findClass "java/lang/Enum" = some m.cls := findClass_of_methodNamed Bd.named
  have hnm := (name_of_methodNamed Bd.named Bd.method).1
  have X0 : Stand p l e ({ frames := 0, cells := 0, slots := 0, locals := 0 } : Room) s m #[(.ref (A 15))] below meth c s₁ [] 0 0 := Stand.of_body Bd
  have e0 : s₁.heap = h0 := by rw [← hh, Bd.state]; rfl
  have N0 := Fr.nil n0
  have pre0 : ∀ t, Steps p.tables e below (s₁.setTop (mkF m 0 #[.val (.ref (A 15))] [])) t → Steps p.tables e below (s₁.setTop (entryFrame m #[(.ref (A 15))] 1)) t := fun t k => castTop (own_ef_rm35 m p1 p2 p3 A K cs ) k
  have KK0 : Keep h0 h0 [] := Keep.refl _ _
  obtain ⟨T289, X289, e289, st289⟩ := getF X0 hx hZ hown (host := "") (Or.inl (hw _ (List.mem_of_getElem? (i := 125) rfl))) Via.refl e0 (EN.2.2.2.2.2.2.2.1.2.2.2.2.2.2.1.ext OL0.2) (g := (mkF m 1 #[.val (.ref (A 15))] [(.ref (A 15))])) rfl rfl (hb hby own_d_jdk_37_method_2_code_1)
  obtain ⟨fs, hr, hrun, hended, hW, hsame⟩ := X289.leave (v := some (.int (15 : Int32))) (fun h => by rw [Bd.returns] at h; cases h)
  refine ⟨_, _, pre0 _ ?_, hrun, hended, _, _, rfl, ?_, ⟨_, rfl⟩, hW, hsame.mono (by decide) (by decide)⟩
  · show Steps p.tables e below (s₁.setTop (mkF m 0 #[.val (.ref (A 15))] [])) _
    refine XS.aloadN X0.here hx rfl (hb hby own_d_jdk_37_method_2_code_0) rfl rfl ?_
    refine st289 _ ?_
    show Steps p.tables e below (T289.setTop (mkF m 4 #[.val (.ref (A 15))] [(.int (15 : Int32))])) _
    exact retI X289 hx Bd.returns (hb hby own_d_jdk_37_method_2_code_4) hr
  · show PQ (some (.int (15 : Int32))) h0 n0 _ T289.heap _
    rw [e289]
    exact ⟨rfl, N0, rfl⟩
theorem own_d_jdk_42_method_154_code_0 : decode jdk_42_method_154_code 0 = .ok (.getstatic 38, 3) := by decide +kernel
theorem own_d_jdk_42_method_154_code_3 : decode jdk_42_method_154_code 3 = .ok (.ifCond .eq 14, 3) := by decide +kernel
theorem own_d_jdk_42_method_154_code_6 : decode jdk_42_method_154_code 6 = .ok (.aload_n 0, 1) := by decide +kernel
theorem own_d_jdk_42_method_154_code_7 : decode jdk_42_method_154_code 7 = .ok (.getfield 15, 3) := by decide +kernel
theorem own_d_jdk_42_method_154_code_10 : decode jdk_42_method_154_code 10 = .ok (.ifCond .ne 7, 3) := by decide +kernel
theorem own_d_jdk_42_method_154_code_13 : decode jdk_42_method_154_code 13 = .ok (.iconst 1, 1) := by decide +kernel
theorem own_d_jdk_42_method_154_code_14 : decode jdk_42_method_154_code 14 = .ok (.goto 4, 3) := by decide +kernel
theorem own_d_jdk_42_method_154_code_18 : decode jdk_42_method_154_code 18 = .ok (.ireturn, 1) := by decide +kernel
theorem own_ef_rm38 (m : MethodId) (p1 : Int32) (p2 : Int32) (p3 : Int32) (A : Nat → Addr) (K : Nat → ClassId) (cs : Int32)  (b265 : Addr) : entryFrame m #[(.ref b265)] 1 = mkF m 0 #[.val (.ref b265)] [] := by first | (simp [entryFrame, mkF, argsToLocals, Value.category, maxLocals]; done) | rfl
set_option maxRecDepth 65536 in
set_option maxHeartbeats 40000000 in
theorem rm38 (l : Launch) (Z : State) (a0 : Array Value) (hw : ∀ d ∈ tables_1, d.before a0 Z = true) (ws : List Jvm.Cond) (h0 : Heap) (n0 : Nat) (p1 : Int32) (p2 : Int32) (p3 : Int32) (A : Nat → Addr) (K : Nat → ClassId) (cs : Int32)  (b265 : Addr) (EN : own_St Z A K cs) (OL0 : Old Z n0 h0) (G_F_b265_java_lang_String_coder : Fld Z h0 b265 "java/lang/String" "coder" "B" (.int (0 : Int32))) :
    MetFree l own_m12 (head1 (Jvm.Cond.code own_m12 jdk_42_method_154_code 1 (some .boolean) :: ws) ({ frames := 0, cells := 0, slots := 0, locals := 0 } : Room)) (fun a U => a = #[(.ref b265)] ∧ Z.Warmed39 U.vm ∧ U.heap = h0) (fun _ _ _ _ _ => True) (fun _ U o U' => ∃ v L, o = .returned v ∧ (PQ (some (.int (1 : Int32))) h0 n0) v U'.heap L ∧ FrameEnd U o U' L ({ frames := 0, cells := 0, slots := 0, locals := 0 } : Room).cells ({ frames := 0, cells := 0, slots := 0, locals := 0 } : Room).slots) := by
  refine MetFree.of_bodySF (plainFor_of_name own_pn3) hisR ?_
  intro p e s m args below meth c s₁ Bd hml0 hP hK
  obtain ⟨rfl, hZ, hh⟩ := hP
  have hx := Bd.exec
  have hby := Bd.bytes
  have hml : c.maxLocals = 1 := hml0
  have hown : s.vm.findClass "java/lang/String" = some m.cls := findClass_of_methodNamed Bd.named
  have hnm := (name_of_methodNamed Bd.named Bd.method).1
  have X0 : Stand p l e ({ frames := 0, cells := 0, slots := 0, locals := 0 } : Room) s m #[(.ref b265)] below meth c s₁ [] 0 0 := Stand.of_body Bd
  have e0 : s₁.heap = h0 := by rw [← hh, Bd.state]; rfl
  have N0 := Fr.nil n0
  have pre0 : ∀ t, Steps p.tables e below (s₁.setTop (mkF m 0 #[.val (.ref b265)] [])) t → Steps p.tables e below (s₁.setTop (entryFrame m #[(.ref b265)] 1)) t := fun t k => castTop (own_ef_rm38 m p1 p2 p3 A K cs b265) k
  have KK0 : Keep h0 h0 [] := Keep.refl _ _
  obtain ⟨T292, X292, e292, st292⟩ := getS2 X0 hx hZ hown (host := "") (Or.inl (hw _ (List.mem_of_getElem? (i := 87) rfl))) Via.refl e0 (EN.2.2.2.2.2.2.2.1.1.ext OL0.2) (g := (mkF m 0 #[.val (.ref b265)] [])) rfl (hb hby own_d_jdk_42_method_154_code_0)
  obtain ⟨T293, X293, e293, st293⟩ := getF X292 hx hZ hown (host := "") (Or.inl (hw _ (List.mem_of_getElem? (i := 99) rfl))) Via.refl e292 G_F_b265_java_lang_String_coder (g := (mkF m 7 #[.val (.ref b265)] [(.ref b265)])) rfl rfl (hb hby own_d_jdk_42_method_154_code_7)
  obtain ⟨fs, hr, hrun, hended, hW, hsame⟩ := X293.leave (v := some (.int (1 : Int32))) (fun h => by rw [Bd.returns] at h; cases h)
  refine ⟨_, _, pre0 _ ?_, hrun, hended, _, _, rfl, ?_, ⟨_, rfl⟩, hW, hsame.mono (by decide) (by decide)⟩
  · show Steps p.tables e below (s₁.setTop (mkF m 0 #[.val (.ref b265)] [])) _
    refine st292 _ ?_
    show Steps p.tables e below (T292.setTop (mkF m 3 #[.val (.ref b265)] [(.int cs)])) _
    refine XS.ifNo X292.here hx rfl (hb hby own_d_jdk_42_method_154_code_3) rfl ((if0 _ _).trans (feq EN.2.2.2.2.2.2.2.1.2.1).1) ?_
    show Steps p.tables e below (T292.setTop (mkF m 6 #[.val (.ref b265)] [])) _
    refine XS.aloadN X292.here hx rfl (hb hby own_d_jdk_42_method_154_code_6) rfl rfl ?_
    refine st293 _ ?_
    show Steps p.tables e below (T293.setTop (mkF m 10 #[.val (.ref b265)] [(.int (0 : Int32))])) _
    refine XS.ifNo X293.here hx rfl (hb hby own_d_jdk_42_method_154_code_10) rfl ((if0 _ _).trans (teq (by decide : (0 : Int32) = (0 : Int32))).2) ?_
    show Steps p.tables e below (T293.setTop (mkF m 13 #[.val (.ref b265)] [])) _
    refine XS.iconst X293.here hx rfl (hb hby own_d_jdk_42_method_154_code_13) ?_
    refine XS.goto X293.here hx rfl (pc0 := 14) (pc' := 18) rfl (hb hby own_d_jdk_42_method_154_code_14) (by decide) (by decide) ?_
    exact retN X293 hx (t := .boolean) Bd.returns (by simp) (hb hby own_d_jdk_42_method_154_code_18) hr
  · show PQ (some (.int (1 : Int32))) h0 n0 _ T293.heap _
    rw [e293]
    exact ⟨rfl, N0, rfl⟩
theorem own_d_jdk_41_method_11_code_0 : decode jdk_41_method_11_code 0 = .ok (.iload_n 0, 1) := by decide +kernel
theorem own_d_jdk_41_method_11_code_1 : decode jdk_41_method_11_code 1 = .ok (.ifCond .lt 8, 3) := by decide +kernel
theorem own_d_jdk_41_method_11_code_4 : decode jdk_41_method_11_code 4 = .ok (.iload_n 0, 1) := by decide +kernel
theorem own_d_jdk_41_method_11_code_5 : decode jdk_41_method_11_code 5 = .ok (.iload_n 1, 1) := by decide +kernel
theorem own_d_jdk_41_method_11_code_6 : decode jdk_41_method_11_code 6 = .ok (.if_icmp .lt 10, 3) := by decide +kernel
theorem own_d_jdk_41_method_11_code_16 : decode jdk_41_method_11_code 16 = .ok (.iload_n 0, 1) := by decide +kernel
theorem own_d_jdk_41_method_11_code_17 : decode jdk_41_method_11_code 17 = .ok (.ireturn, 1) := by decide +kernel
theorem own_pn5 : plainName "jdk/internal/util/Preconditions" = true := by first | (simp [plainName, overriddenIn]; done) | decide +kernel
theorem own_ef_rm41 (m : MethodId) (p1 : Int32) (p2 : Int32) (p3 : Int32) (A : Nat → Addr) (K : Nat → ClassId) (cs : Int32)  : entryFrame m #[(.int (0 : Int32)), (.int (3 : Int32)), .null] 3 = mkF m 0 #[.val (.int (0 : Int32)), .val (.int (3 : Int32)), .val .null] [] := by first | (simp [entryFrame, mkF, argsToLocals, Value.category, maxLocals]; done) | rfl
set_option maxRecDepth 65536 in
set_option maxHeartbeats 40000000 in
theorem rm41 (l : Launch) (Z : State) (a0 : Array Value) (hw : ∀ d ∈ tables_1, d.before a0 Z = true) (ws : List Jvm.Cond) (h0 : Heap) (n0 : Nat) (p1 : Int32) (p2 : Int32) (p3 : Int32) (A : Nat → Addr) (K : Nat → ClassId) (cs : Int32)  (EN : own_St Z A K cs) (OL0 : Old Z n0 h0) :
    MetFree l own_m2 (head1 (Jvm.Cond.code own_m2 jdk_41_method_11_code 3 (some .int) :: ws) ({ frames := 0, cells := 0, slots := 0, locals := 0 } : Room)) (fun a U => a = #[(.int (0 : Int32)), (.int (3 : Int32)), .null] ∧ Z.Warmed39 U.vm ∧ U.heap = h0) (fun _ _ _ _ _ => True) (fun _ U o U' => ∃ v L, o = .returned v ∧ (PQ (some (.int (0 : Int32))) h0 n0) v U'.heap L ∧ FrameEnd U o U' L ({ frames := 0, cells := 0, slots := 0, locals := 0 } : Room).cells ({ frames := 0, cells := 0, slots := 0, locals := 0 } : Room).slots) := by
  refine MetFree.of_bodySF (plainFor_of_name own_pn5) hisR ?_
  intro p e s m args below meth c s₁ Bd hml0 hP hK
  obtain ⟨rfl, hZ, hh⟩ := hP
  have hx := Bd.exec
  have hby := Bd.bytes
  have hml : c.maxLocals = 3 := hml0
  have hown : s.vm.findClass "jdk/internal/util/Preconditions" = some m.cls := findClass_of_methodNamed Bd.named
  have hnm := (name_of_methodNamed Bd.named Bd.method).1
  have X0 : Stand p l e ({ frames := 0, cells := 0, slots := 0, locals := 0 } : Room) s m #[(.int (0 : Int32)), (.int (3 : Int32)), .null] below meth c s₁ [] 0 0 := Stand.of_body Bd
  have e0 : s₁.heap = h0 := by rw [← hh, Bd.state]; rfl
  have N0 := Fr.nil n0
  have pre0 : ∀ t, Steps p.tables e below (s₁.setTop (mkF m 0 #[.val (.int (0 : Int32)), .val (.int (3 : Int32)), .val .null] [])) t → Steps p.tables e below (s₁.setTop (entryFrame m #[(.int (0 : Int32)), (.int (3 : Int32)), .null] 3)) t := fun t k => castTop (own_ef_rm41 m p1 p2 p3 A K cs ) k
  have KK0 : Keep h0 h0 [] := Keep.refl _ _
  obtain ⟨fs, hr, hrun, hended, hW, hsame⟩ := X0.leave (v := some (.int (0 : Int32))) (fun h => by rw [Bd.returns] at h; cases h)
  refine ⟨_, _, pre0 _ ?_, hrun, hended, _, _, rfl, ?_, ⟨_, rfl⟩, hW, hsame.mono (by decide) (by decide)⟩
  · show Steps p.tables e below (s₁.setTop (mkF m 0 #[.val (.int (0 : Int32)), .val (.int (3 : Int32)), .val .null] [])) _
    refine XS.iloadN X0.here hx rfl (hb hby own_d_jdk_41_method_11_code_0) rfl ?_
    refine XS.ifNo X0.here hx rfl (hb hby own_d_jdk_41_method_11_code_1) rfl ((if0 _ _).trans (flt (by decide : ¬ ((0 : Int32) < (0 : Int32)))).1) ?_
    show Steps p.tables e below (s₁.setTop (mkF m 4 #[.val (.int (0 : Int32)), .val (.int (3 : Int32)), .val .null] [])) _
    refine XS.iloadN X0.here hx rfl (hb hby own_d_jdk_41_method_11_code_4) rfl ?_
    refine XS.iloadN X0.here hx rfl (hb hby own_d_jdk_41_method_11_code_5) rfl ?_
    refine XS.icmpYes X0.here hx rfl (pc0 := 6) (pc' := 16) rfl (hb hby own_d_jdk_41_method_11_code_6) rfl (tlt (by decide : (0 : Int32) < (3 : Int32))).1 (by decide) (by decide) ?_
    show Steps p.tables e below (s₁.setTop (mkF m 16 #[.val (.int (0 : Int32)), .val (.int (3 : Int32)), .val .null] [])) _
    refine XS.iloadN X0.here hx rfl (hb hby own_d_jdk_41_method_11_code_16) rfl ?_
    exact retI X0 hx Bd.returns (hb hby own_d_jdk_41_method_11_code_17) hr
  · show PQ (some (.int (0 : Int32))) h0 n0 _ s₁.heap _
    rw [e0]
    exact ⟨rfl, N0, rfl⟩
theorem own_ef_rm42 (m : MethodId) (p1 : Int32) (p2 : Int32) (p3 : Int32) (A : Nat → Addr) (K : Nat → ClassId) (cs : Int32)  (af298 : Addr) : entryFrame m #[(.int (0 : Int32)), (.int (3 : Int32)), (.ref af298)] 3 = mkF m 0 #[.val (.int (0 : Int32)), .val (.int (3 : Int32)), .val (.ref af298)] [] := by first | (simp [entryFrame, mkF, argsToLocals, Value.category, maxLocals]; done) | rfl
set_option maxRecDepth 65536 in
set_option maxHeartbeats 40000000 in
theorem rm42 (l : Launch) (Z : State) (a0 : Array Value) (hw : ∀ d ∈ tables_1, d.before a0 Z = true) (ws : List Jvm.Cond) (h0 : Heap) (n0 : Nat) (p1 : Int32) (p2 : Int32) (p3 : Int32) (A : Nat → Addr) (K : Nat → ClassId) (cs : Int32)  (af298 : Addr) (EN : own_St Z A K cs) (OL0 : Old Z n0 h0) :
    MetFree l own_m2 (head1 (Jvm.Cond.code own_m2 jdk_41_method_11_code 3 (some .int) :: ws) ({ frames := 0, cells := 0, slots := 0, locals := 0 } : Room)) (fun a U => a = #[(.int (0 : Int32)), (.int (3 : Int32)), (.ref af298)] ∧ Z.Warmed39 U.vm ∧ U.heap = h0) (fun _ _ _ _ _ => True) (fun _ U o U' => ∃ v L, o = .returned v ∧ (PQ (some (.int (0 : Int32))) h0 n0) v U'.heap L ∧ FrameEnd U o U' L ({ frames := 0, cells := 0, slots := 0, locals := 0 } : Room).cells ({ frames := 0, cells := 0, slots := 0, locals := 0 } : Room).slots) := by
  refine MetFree.of_bodySF (plainFor_of_name own_pn5) hisR ?_
  intro p e s m args below meth c s₁ Bd hml0 hP hK
  obtain ⟨rfl, hZ, hh⟩ := hP
  have hx := Bd.exec
  have hby := Bd.bytes
  have hml : c.maxLocals = 3 := hml0
  have hown : s.vm.findClass "jdk/internal/util/Preconditions" = some m.cls := findClass_of_methodNamed Bd.named
  have hnm := (name_of_methodNamed Bd.named Bd.method).1
  have X0 : Stand p l e ({ frames := 0, cells := 0, slots := 0, locals := 0 } : Room) s m #[(.int (0 : Int32)), (.int (3 : Int32)), (.ref af298)] below meth c s₁ [] 0 0 := Stand.of_body Bd
  have e0 : s₁.heap = h0 := by rw [← hh, Bd.state]; rfl
  have N0 := Fr.nil n0
  have pre0 : ∀ t, Steps p.tables e below (s₁.setTop (mkF m 0 #[.val (.int (0 : Int32)), .val (.int (3 : Int32)), .val (.ref af298)] [])) t → Steps p.tables e below (s₁.setTop (entryFrame m #[(.int (0 : Int32)), (.int (3 : Int32)), (.ref af298)] 3)) t := fun t k => castTop (own_ef_rm42 m p1 p2 p3 A K cs af298) k
  have KK0 : Keep h0 h0 [] := Keep.refl _ _
  obtain ⟨fs, hr, hrun, hended, hW, hsame⟩ := X0.leave (v := some (.int (0 : Int32))) (fun h => by rw [Bd.returns] at h; cases h)
  refine ⟨_, _, pre0 _ ?_, hrun, hended, _, _, rfl, ?_, ⟨_, rfl⟩, hW, hsame.mono (by decide) (by decide)⟩
  · show Steps p.tables e below (s₁.setTop (mkF m 0 #[.val (.int (0 : Int32)), .val (.int (3 : Int32)), .val (.ref af298)] [])) _
    refine XS.iloadN X0.here hx rfl (hb hby own_d_jdk_41_method_11_code_0) rfl ?_
    refine XS.ifNo X0.here hx rfl (hb hby own_d_jdk_41_method_11_code_1) rfl ((if0 _ _).trans (flt (by decide : ¬ ((0 : Int32) < (0 : Int32)))).1) ?_
    show Steps p.tables e below (s₁.setTop (mkF m 4 #[.val (.int (0 : Int32)), .val (.int (3 : Int32)), .val (.ref af298)] [])) _
    refine XS.iloadN X0.here hx rfl (hb hby own_d_jdk_41_method_11_code_4) rfl ?_
    refine XS.iloadN X0.here hx rfl (hb hby own_d_jdk_41_method_11_code_5) rfl ?_
    refine XS.icmpYes X0.here hx rfl (pc0 := 6) (pc' := 16) rfl (hb hby own_d_jdk_41_method_11_code_6) rfl (tlt (by decide : (0 : Int32) < (3 : Int32))).1 (by decide) (by decide) ?_
    show Steps p.tables e below (s₁.setTop (mkF m 16 #[.val (.int (0 : Int32)), .val (.int (3 : Int32)), .val (.ref af298)] [])) _
    refine XS.iloadN X0.here hx rfl (hb hby own_d_jdk_41_method_11_code_16) rfl ?_
    exact retI X0 hx Bd.returns (hb hby own_d_jdk_41_method_11_code_17) hr
  · show PQ (some (.int (0 : Int32))) h0 n0 _ s₁.heap _
    rw [e0]
    exact ⟨rfl, N0, rfl⟩
theorem own_d_jdk_42_method_155_code_0 : decode jdk_42_method_155_code 0 = .ok (.iload_n 0, 1) := by decide +kernel
theorem own_d_jdk_42_method_155_code_1 : decode jdk_42_method_155_code 1 = .ok (.iload_n 1, 1) := by decide +kernel
theorem own_d_jdk_42_method_155_code_2 : decode jdk_42_method_155_code 2 = .ok (.getstatic 1053, 3) := by decide +kernel
theorem own_d_jdk_42_method_155_code_5 : decode jdk_42_method_155_code 5 = .ok (.invokestatic 1059, 3) := by decide +kernel
theorem own_d_jdk_42_method_155_code_8 : decode jdk_42_method_155_code 8 = .ok (.pop, 1) := by decide +kernel
theorem own_d_jdk_42_method_155_code_9 : decode jdk_42_method_155_code 9 = .ok (.return_, 1) := by decide +kernel
theorem own_ef_rm40 (m : MethodId) (p1 : Int32) (p2 : Int32) (p3 : Int32) (A : Nat → Addr) (K : Nat → ClassId) (cs : Int32)  : entryFrame m #[(.int (0 : Int32)), (.int (3 : Int32))] 2 = mkF m 0 #[.val (.int (0 : Int32)), .val (.int (3 : Int32))] [] := by first | (simp [entryFrame, mkF, argsToLocals, Value.category, maxLocals]; done) | rfl
set_option maxRecDepth 65536 in
set_option maxHeartbeats 40000000 in
theorem rm40 (l : Launch) (Z : State) (a0 : Array Value) (hw : ∀ d ∈ tables_1, d.before a0 Z = true) (ws : List Jvm.Cond) (h0 : Heap) (n0 : Nat) (p1 : Int32) (p2 : Int32) (p3 : Int32) (A : Nat → Addr) (K : Nat → ClassId) (cs : Int32)  (EN : own_St Z A K cs) (OL0 : Old Z n0 h0) :
    MetFree l own_m9 (head1 (Jvm.Cond.code own_m9 jdk_42_method_155_code 2 none :: ws) ({ frames := 1, cells := 0, slots := 0, locals := 14 } : Room)) (fun a U => a = #[(.int (0 : Int32)), (.int (3 : Int32))] ∧ Z.Warmed39 U.vm ∧ U.heap = h0) (fun _ _ _ _ _ => True) (fun _ U o U' => ∃ v L, o = .returned v ∧ (PQ none h0 n0) v U'.heap L ∧ FrameEnd U o U' L ({ frames := 1, cells := 0, slots := 0, locals := 14 } : Room).cells ({ frames := 1, cells := 0, slots := 0, locals := 14 } : Room).slots) := by
  refine MetFree.of_bodySF (plainFor_of_name own_pn3) hisR ?_
  intro p e s m args below meth c s₁ Bd hml0 hP hK
  obtain ⟨rfl, hZ, hh⟩ := hP
  have hx := Bd.exec
  have hby := Bd.bytes
  have hml : c.maxLocals = 2 := hml0
  have hown : s.vm.findClass "java/lang/String" = some m.cls := findClass_of_methodNamed Bd.named
  have hnm := (name_of_methodNamed Bd.named Bd.method).1
  have X0 : Stand p l e ({ frames := 1, cells := 0, slots := 0, locals := 14 } : Room) s m #[(.int (0 : Int32)), (.int (3 : Int32))] below meth c s₁ [] 0 0 := Stand.of_body Bd
  have e0 : s₁.heap = h0 := by rw [← hh, Bd.state]; rfl
  have N0 := Fr.nil n0
  have pre0 : ∀ t, Steps p.tables e below (s₁.setTop (mkF m 0 #[.val (.int (0 : Int32)), .val (.int (3 : Int32))] [])) t → Steps p.tables e below (s₁.setTop (entryFrame m #[(.int (0 : Int32)), (.int (3 : Int32))] 2)) t := fun t k => castTop (own_ef_rm40 m p1 p2 p3 A K cs ) k
  have KK0 : Keep h0 h0 [] := Keep.refl _ _
  have pre297 : ∀ t, Steps p.tables e below (s₁.setTop (mkF m 2 #[.val (.int (0 : Int32)), .val (.int (3 : Int32))] [(.int (3 : Int32)), (.int (0 : Int32))])) t → Steps p.tables e below (s₁.setTop (entryFrame m #[(.int (0 : Int32)), (.int (3 : Int32))] 2)) t := fun t k => pre0 t (by
    show Steps p.tables e below (s₁.setTop (mkF m 0 #[.val (.int (0 : Int32)), .val (.int (3 : Int32))] [])) _
    refine XS.iloadN X0.here hx rfl (hb hby own_d_jdk_42_method_155_code_0) rfl ?_
    refine XS.iloadN X0.here hx rfl (hb hby own_d_jdk_42_method_155_code_1) rfl ?_
    exact k)
  rcases EN.2.2.2.2.2.2.2.1.2.2.1 with SF298 | ⟨af298, SF298⟩
  · obtain ⟨T299, X299, e299, st299⟩ := getS2 X0 hx hZ hown (host := "") (Or.inl (hw _ (List.mem_of_getElem? (i := 147) rfl))) Via.refl e0 (SF298.ext OL0.2) (g := (mkF m 2 #[.val (.int (0 : Int32)), .val (.int (3 : Int32))] [(.int (3 : Int32)), (.int (0 : Int32))])) rfl (hb hby own_d_jdk_42_method_155_code_2)
    obtain ⟨_, _, ⟨T300, L300, k300, n300⟩, -, X300, ⟨Lc300, hQ300, l300, y300, z300⟩, st300⟩ := Jvm.LawKit.callS X299 hx (y := own_m2) hown (mvT hZ (hw _ (List.mem_of_getElem? (i := 149) rfl))) (mvT hZ (hw _ (List.mem_of_getElem? (i := 150) rfl))) (mvT hZ (hw _ (List.mem_of_getElem? (i := 148) rfl))) (mvT hZ (hw _ (List.mem_of_getElem? (i := 151) rfl))) (by decide) (backOf (W := 0) (rm41 l Z a0 hw [] h0 n0 p1 p2 p3 A K cs EN OL0) hZ (hw _ (List.mem_of_getElem? (i := 151) rfl)) (hw _ (List.mem_of_getElem? (i := 148) rfl)) (by decide) (by decide)) (g := (mkF m 5 #[.val (.int (0 : Int32)), .val (.int (3 : Int32))] [.null, (.int (3 : Int32)), (.int (0 : Int32))])) rfl (by rw [hml]; rfl) (argsL := [(.int (0 : Int32)), (.int (3 : Int32)), .null]) (rest := []) (lenOf own_pd10 rfl) rfl (by show 2 * 0 + _ ≤ _; exact Nat.le_of_eq rfl) (hb hby own_d_jdk_42_method_155_code_5) (fun _ _ => ⟨rfl, e299, (by decide : 0 + 0 ≤ _), (by decide : 0 + 0 ≤ _)⟩)
    dsimp only [Pt.U, Pt.locs, Pt.cells, Pt.slots] at X300 l300 y300 z300 st300 hQ300
    replace X300 := own_sub X300 l300 y300 z300
    obtain ⟨rfl, N300q, e300⟩ := hQ300
    have N300 := Fr.app N0 N300q
    obtain ⟨fs, hr, hrun, hended, hW, hsame⟩ := X300.leave (v := none) (fun _ => rfl)
    refine ⟨_, _, pre297 _ ?_, hrun, hended, _, _, rfl, ?_, ⟨_, rfl⟩, hW, hsame.mono (by decide) (by decide)⟩
    · show Steps p.tables e below (s₁.setTop (mkF m 2 #[.val (.int (0 : Int32)), .val (.int (3 : Int32))] [(.int (3 : Int32)), (.int (0 : Int32))])) _
      refine st299 _ ?_
      show Steps p.tables e below (T299.setTop (mkF m 5 #[.val (.int (0 : Int32)), .val (.int (3 : Int32))] [.null, (.int (3 : Int32)), (.int (0 : Int32))])) _
      refine st300 _ ?_
      show Steps p.tables e below (T300.setTop (mkF m 8 #[.val (.int (0 : Int32)), .val (.int (3 : Int32))] [(.int (0 : Int32))])) _
      refine XS.pop X300.here hx rfl (hb hby own_d_jdk_42_method_155_code_8) rfl rfl ?_
      exact X300.returnOut hx Bd.returns (hb hby own_d_jdk_42_method_155_code_9) hr
    · show PQ none h0 n0 _ T300.heap _
      rw [e300]
      exact ⟨rfl, N300, rfl⟩
  · obtain ⟨T301, X301, e301, st301⟩ := getS2 X0 hx hZ hown (host := "") (Or.inl (hw _ (List.mem_of_getElem? (i := 147) rfl))) Via.refl e0 (SF298.ext OL0.2) (g := (mkF m 2 #[.val (.int (0 : Int32)), .val (.int (3 : Int32))] [(.int (3 : Int32)), (.int (0 : Int32))])) rfl (hb hby own_d_jdk_42_method_155_code_2)
    obtain ⟨_, _, ⟨T302, L302, k302, n302⟩, -, X302, ⟨Lc302, hQ302, l302, y302, z302⟩, st302⟩ := Jvm.LawKit.callS X301 hx (y := own_m2) hown (mvT hZ (hw _ (List.mem_of_getElem? (i := 149) rfl))) (mvT hZ (hw _ (List.mem_of_getElem? (i := 150) rfl))) (mvT hZ (hw _ (List.mem_of_getElem? (i := 148) rfl))) (mvT hZ (hw _ (List.mem_of_getElem? (i := 151) rfl))) (by decide) (backOf (W := 0) (rm42 l Z a0 hw [] h0 n0 p1 p2 p3 A K cs af298 EN OL0) hZ (hw _ (List.mem_of_getElem? (i := 151) rfl)) (hw _ (List.mem_of_getElem? (i := 148) rfl)) (by decide) (by decide)) (g := (mkF m 5 #[.val (.int (0 : Int32)), .val (.int (3 : Int32))] [(.ref af298), (.int (3 : Int32)), (.int (0 : Int32))])) rfl (by rw [hml]; rfl) (argsL := [(.int (0 : Int32)), (.int (3 : Int32)), (.ref af298)]) (rest := []) (lenOf own_pd10 rfl) rfl (by show 2 * 0 + _ ≤ _; exact Nat.le_of_eq rfl) (hb hby own_d_jdk_42_method_155_code_5) (fun _ _ => ⟨rfl, e301, (by decide : 0 + 0 ≤ _), (by decide : 0 + 0 ≤ _)⟩)
    dsimp only [Pt.U, Pt.locs, Pt.cells, Pt.slots] at X302 l302 y302 z302 st302 hQ302
    replace X302 := own_sub X302 l302 y302 z302
    obtain ⟨rfl, N302q, e302⟩ := hQ302
    have N302 := Fr.app N0 N302q
    obtain ⟨fs, hr, hrun, hended, hW, hsame⟩ := X302.leave (v := none) (fun _ => rfl)
    refine ⟨_, _, pre297 _ ?_, hrun, hended, _, _, rfl, ?_, ⟨_, rfl⟩, hW, hsame.mono (by decide) (by decide)⟩
    · show Steps p.tables e below (s₁.setTop (mkF m 2 #[.val (.int (0 : Int32)), .val (.int (3 : Int32))] [(.int (3 : Int32)), (.int (0 : Int32))])) _
      refine st301 _ ?_
      show Steps p.tables e below (T301.setTop (mkF m 5 #[.val (.int (0 : Int32)), .val (.int (3 : Int32))] [(.ref af298), (.int (3 : Int32)), (.int (0 : Int32))])) _
      refine st302 _ ?_
      show Steps p.tables e below (T302.setTop (mkF m 8 #[.val (.int (0 : Int32)), .val (.int (3 : Int32))] [(.int (0 : Int32))])) _
      refine XS.pop X302.here hx rfl (hb hby own_d_jdk_42_method_155_code_8) rfl rfl ?_
      exact X302.returnOut hx Bd.returns (hb hby own_d_jdk_42_method_155_code_9) hr
    · show PQ none h0 n0 _ T302.heap _
      rw [e302]
      exact ⟨rfl, N302, rfl⟩
theorem own_d_jdk_43_method_2_code_0 : decode jdk_43_method_2_code 0 = .ok (.iload_n 1, 1) := by decide +kernel
theorem own_d_jdk_43_method_2_code_1 : decode jdk_43_method_2_code 1 = .ok (.aload_n 0, 1) := by decide +kernel
theorem own_d_jdk_43_method_2_code_2 : decode jdk_43_method_2_code 2 = .ok (.arraylength, 1) := by decide +kernel
theorem own_d_jdk_43_method_2_code_3 : decode jdk_43_method_2_code 3 = .ok (.invokestatic 9, 3) := by decide +kernel
theorem own_d_jdk_43_method_2_code_6 : decode jdk_43_method_2_code 6 = .ok (.aload_n 0, 1) := by decide +kernel
theorem own_d_jdk_43_method_2_code_7 : decode jdk_43_method_2_code 7 = .ok (.iload_n 1, 1) := by decide +kernel
theorem own_d_jdk_43_method_2_code_8 : decode jdk_43_method_2_code 8 = .ok (.baload, 1) := by decide +kernel
theorem own_d_jdk_43_method_2_code_9 : decode jdk_43_method_2_code 9 = .ok (.sipush 255, 3) := by decide +kernel
theorem own_d_jdk_43_method_2_code_12 : decode jdk_43_method_2_code 12 = .ok (.iand, 1) := by decide +kernel
theorem own_d_jdk_43_method_2_code_13 : decode jdk_43_method_2_code 13 = .ok (.i2c, 1) := by decide +kernel
theorem own_d_jdk_43_method_2_code_14 : decode jdk_43_method_2_code 14 = .ok (.ireturn, 1) := by decide +kernel
theorem own_pn6 : plainName "java/lang/StringLatin1" = true := by first | (simp [plainName, overriddenIn]; done) | decide +kernel
theorem own_ef_rm39 (m : MethodId) (p1 : Int32) (p2 : Int32) (p3 : Int32) (A : Nat → Addr) (K : Nat → ClassId) (cs : Int32)  (b287_b284_b273_b270 : Addr) (k287_k284_k273_k270 : ClassId) : entryFrame m #[(.ref b287_b284_b273_b270), (.int (0 : Int32))] 2 = mkF m 0 #[.val (.ref b287_b284_b273_b270), .val (.int (0 : Int32))] [] := by first | (simp [entryFrame, mkF, argsToLocals, Value.category, maxLocals]; done) | rfl
set_option maxRecDepth 65536 in
set_option maxHeartbeats 40000000 in
theorem rm39 (l : Launch) (Z : State) (a0 : Array Value) (hw : ∀ d ∈ tables_1, d.before a0 Z = true) (ws : List Jvm.Cond) (h0 : Heap) (n0 : Nat) (p1 : Int32) (p2 : Int32) (p3 : Int32) (A : Nat → Addr) (K : Nat → ClassId) (cs : Int32)  (b287_b284_b273_b270 : Addr) (k287_k284_k273_k270 : ClassId) (EN : own_St Z A K cs) (OL0 : Old Z n0 h0) (G_A_b287_b284_b273_b270 : Arv Z h0 b287_b284_b273_b270 k287_k284_k273_k270 .byte (3 : Int32) [(.int (nar .byte ((nar .char (own_C p2)).toInt8.toInt32))), (.int (32 : Int32)), (.int (nar .byte ((nar .char (own_C p3)).toInt8.toInt32)))] (.int (0 : Int32))) :
    MetFree l own_m10 (head1 (Jvm.Cond.code own_m10 jdk_43_method_2_code 2 (some .char) :: ws) ({ frames := 2, cells := 0, slots := 0, locals := 27 } : Room)) (fun a U => a = #[(.ref b287_b284_b273_b270), (.int (0 : Int32))] ∧ Z.Warmed39 U.vm ∧ U.heap = h0) (fun _ _ _ _ _ => True) (fun _ U o U' => ∃ v L, o = .returned v ∧ (PQ (some (.int (nar .char (((nar .byte ((nar .char (own_C p2)).toInt8.toInt32)) &&& (255 : Int32)).toUInt32.toUInt16.toUInt32.toInt32)))) h0 n0) v U'.heap L ∧ FrameEnd U o U' L ({ frames := 2, cells := 0, slots := 0, locals := 27 } : Room).cells ({ frames := 2, cells := 0, slots := 0, locals := 27 } : Room).slots) := by
  refine MetFree.of_bodySF (plainFor_of_name own_pn6) hisR ?_
  intro p e s m args below meth c s₁ Bd hml0 hP hK
  obtain ⟨rfl, hZ, hh⟩ := hP
  have hx := Bd.exec
  have hby := Bd.bytes
  have hml : c.maxLocals = 2 := hml0
  have hown : s.vm.findClass "java/lang/StringLatin1" = some m.cls := findClass_of_methodNamed Bd.named
  have hnm := (name_of_methodNamed Bd.named Bd.method).1
  have X0 : Stand p l e ({ frames := 2, cells := 0, slots := 0, locals := 27 } : Room) s m #[(.ref b287_b284_b273_b270), (.int (0 : Int32))] below meth c s₁ [] 0 0 := Stand.of_body Bd
  have e0 : s₁.heap = h0 := by rw [← hh, Bd.state]; rfl
  have N0 := Fr.nil n0
  have pre0 : ∀ t, Steps p.tables e below (s₁.setTop (mkF m 0 #[.val (.ref b287_b284_b273_b270), .val (.int (0 : Int32))] [])) t → Steps p.tables e below (s₁.setTop (entryFrame m #[(.ref b287_b284_b273_b270), (.int (0 : Int32))] 2)) t := fun t k => castTop (own_ef_rm39 m p1 p2 p3 A K cs b287_b284_b273_b270 k287_k284_k273_k270) k
  have KK0 : Keep h0 h0 [] := Keep.refl _ _
  obtain ⟨cl296, Ar296, -, Sz296, Nn296, -, -⟩ := (id G_A_b287_b284_b273_b270)
  obtain ⟨_, _, ⟨T303, L303, k303, n303⟩, -, X303, ⟨Lc303, hQ303, l303, y303, z303⟩, st303⟩ := Jvm.LawKit.callS X0 hx (y := own_m9) hown (mvT hZ (hw _ (List.mem_of_getElem? (i := 144) rfl))) (mvT hZ (hw _ (List.mem_of_getElem? (i := 145) rfl))) (mvT hZ (hw _ (List.mem_of_getElem? (i := 76) rfl))) (mvT hZ (hw _ (List.mem_of_getElem? (i := 146) rfl))) (by decide) (backOf (W := 0) (rm40 l Z a0 hw [] h0 n0 p1 p2 p3 A K cs EN OL0) hZ (hw _ (List.mem_of_getElem? (i := 146) rfl)) (hw _ (List.mem_of_getElem? (i := 76) rfl)) (by decide) (by decide)) (g := (mkF m 3 #[.val (.ref b287_b284_b273_b270), .val (.int (0 : Int32))] [(.int (3 : Int32)), (.int (0 : Int32))])) rfl (by rw [hml]; rfl) (argsL := [(.int (0 : Int32)), (.int (3 : Int32))]) (rest := []) (lenOf own_pd11 rfl) rfl (by show 2 * 0 + _ ≤ _; exact Nat.le_of_eq rfl) (hb hby own_d_jdk_43_method_2_code_3) (fun _ _ => ⟨rfl, e0, (by decide : 0 + 0 ≤ _), (by decide : 0 + 0 ≤ _)⟩)
  dsimp only [Pt.U, Pt.locs, Pt.cells, Pt.slots] at X303 l303 y303 z303 st303 hQ303
  replace X303 := own_sub X303 l303 y303 z303
  obtain ⟨rfl, N303q, e303⟩ := hQ303
  have N303 := Fr.app N0 N303q
  obtain ⟨cl304, Ar304, q304, Sz304, Nn304, Hh304, Gg304⟩ := (id G_A_b287_b284_b273_b270)
  have hin304 : ¬ ((0 : Int32) < 0 ∨ cl304.slots.size ≤ ((0 : Int32)).toNatClampNeg) := inb_of Sz304 ⟨by decide, by decide⟩
  have hat304 : cl304.slots[((0 : Int32)).toNatClampNeg]? = some (.int (nar .byte ((nar .char (own_C p2)).toInt8.toInt32))) := Has.at Hh304 hin304 rfl
  obtain ⟨fs, hr, hrun, hended, hW, hsame⟩ := X303.leave (v := some (.int (nar .char (((nar .byte ((nar .char (own_C p2)).toInt8.toInt32)) &&& (255 : Int32)).toUInt32.toUInt16.toUInt32.toInt32)))) (fun h => by rw [Bd.returns] at h; cases h)
  refine ⟨_, _, pre0 _ ?_, hrun, hended, _, _, rfl, ?_, ⟨_, rfl⟩, hW, hsame.mono (by decide) (by decide)⟩
  · show Steps p.tables e below (s₁.setTop (mkF m 0 #[.val (.ref b287_b284_b273_b270), .val (.int (0 : Int32))] [])) _
    refine XS.iloadN X0.here hx rfl (hb hby own_d_jdk_43_method_2_code_0) rfl ?_
    refine XS.aloadN X0.here hx rfl (hb hby own_d_jdk_43_method_2_code_1) rfl rfl ?_
    refine X0.arraylength hx (by rw [e0]; exact Ar296.1) (State.isArrayOf_alike hZ.alike Ar296.2.1) (g := (mkF m 2 #[.val (.ref b287_b284_b273_b270), .val (.int (0 : Int32))] [(.ref b287_b284_b273_b270), (.int (0 : Int32))])) rfl rfl (hb hby own_d_jdk_43_method_2_code_2) _ ?_
    rw [len_of Sz296 Nn296]
    show Steps p.tables e below (s₁.setTop (mkF m 3 #[.val (.ref b287_b284_b273_b270), .val (.int (0 : Int32))] [(.int (3 : Int32)), (.int (0 : Int32))])) _
    refine st303 _ ?_
    show Steps p.tables e below (T303.setTop (mkF m 6 #[.val (.ref b287_b284_b273_b270), .val (.int (0 : Int32))] [])) _
    refine XS.aloadN X303.here hx rfl (hb hby own_d_jdk_43_method_2_code_6) rfl rfl ?_
    refine XS.iloadN X303.here hx rfl (hb hby own_d_jdk_43_method_2_code_7) rfl ?_
    refine X303.baloadBytes hx (j := (0 : Int32)) (v := (.int (nar .byte ((nar .char (own_C p2)).toInt8.toInt32)))) (by rw [e303]; exact Ar304.1) (State.isArrayOf_alike hZ.alike Ar304.2.1) Ar304.2.2 hin304 hat304 (g := (mkF m 8 #[.val (.ref b287_b284_b273_b270), .val (.int (0 : Int32))] [(.int (0 : Int32)), (.ref b287_b284_b273_b270)])) rfl rfl (hb hby own_d_jdk_43_method_2_code_8) _ ?_
    show Steps p.tables e below (T303.setTop (mkF m 9 #[.val (.ref b287_b284_b273_b270), .val (.int (0 : Int32))] [(.int (nar .byte ((nar .char (own_C p2)).toInt8.toInt32)))])) _
    refine XS.sipush X303.here hx rfl (hb hby own_d_jdk_43_method_2_code_9) ?_
    refine XS.iand X303.here hx rfl (hb hby own_d_jdk_43_method_2_code_12) rfl ?_
    show Steps p.tables e below (T303.setTop (mkF m 13 #[.val (.ref b287_b284_b273_b270), .val (.int (0 : Int32))] [(.int ((nar .byte ((nar .char (own_C p2)).toInt8.toInt32)) &&& (255 : Int32)))])) _
    refine XS.i2c X303.here hx rfl (hb hby own_d_jdk_43_method_2_code_13) rfl ?_
    show Steps p.tables e below (T303.setTop (mkF m 14 #[.val (.ref b287_b284_b273_b270), .val (.int (0 : Int32))] [(.int (((nar .byte ((nar .char (own_C p2)).toInt8.toInt32)) &&& (255 : Int32)).toUInt32.toUInt16.toUInt32.toInt32))])) _
    exact retN X303 hx (t := .char) Bd.returns (by simp) (hb hby own_d_jdk_43_method_2_code_14) hr
  · show PQ (some (.int (nar .char (((nar .byte ((nar .char (own_C p2)).toInt8.toInt32)) &&& (255 : Int32)).toUInt32.toUInt16.toUInt32.toInt32)))) h0 n0 _ T303.heap _
    rw [e303]
    exact ⟨rfl, N303, rfl⟩
theorem own_d_jdk_42_method_56_code_0 : decode jdk_42_method_56_code 0 = .ok (.aload_n 0, 1) := by decide +kernel
theorem own_d_jdk_42_method_56_code_1 : decode jdk_42_method_56_code 1 = .ok (.invokevirtual 492, 3) := by decide +kernel
theorem own_d_jdk_42_method_56_code_4 : decode jdk_42_method_56_code 4 = .ok (.ifCond .eq 12, 3) := by decide +kernel
theorem own_d_jdk_42_method_56_code_7 : decode jdk_42_method_56_code 7 = .ok (.aload_n 0, 1) := by decide +kernel
theorem own_d_jdk_42_method_56_code_8 : decode jdk_42_method_56_code 8 = .ok (.getfield 9, 3) := by decide +kernel
theorem own_d_jdk_42_method_56_code_11 : decode jdk_42_method_56_code 11 = .ok (.iload_n 1, 1) := by decide +kernel
theorem own_d_jdk_42_method_56_code_12 : decode jdk_42_method_56_code 12 = .ok (.invokestatic 495, 3) := by decide +kernel
theorem own_d_jdk_42_method_56_code_15 : decode jdk_42_method_56_code 15 = .ok (.ireturn, 1) := by decide +kernel
theorem own_ef_rm37 (m : MethodId) (p1 : Int32) (p2 : Int32) (p3 : Int32) (A : Nat → Addr) (K : Nat → ClassId) (cs : Int32)  (b265 : Addr) (b287_b284_b273_b270 : Addr) (k287_k284_k273_k270 : ClassId) : entryFrame m #[(.ref b265), (.int (0 : Int32))] 2 = mkF m 0 #[.val (.ref b265), .val (.int (0 : Int32))] [] := by first | (simp [entryFrame, mkF, argsToLocals, Value.category, maxLocals]; done) | rfl
set_option maxRecDepth 65536 in
set_option maxHeartbeats 40000000 in
theorem rm37 (l : Launch) (Z : State) (a0 : Array Value) (hw : ∀ d ∈ tables_1, d.before a0 Z = true) (ws : List Jvm.Cond) (h0 : Heap) (n0 : Nat) (p1 : Int32) (p2 : Int32) (p3 : Int32) (A : Nat → Addr) (K : Nat → ClassId) (cs : Int32)  (b265 : Addr) (b287_b284_b273_b270 : Addr) (k287_k284_k273_k270 : ClassId) (EN : own_St Z A K cs) (OL0 : Old Z n0 h0) (G_E_b265 : Exa Z h0 b265 "java/lang/String") (G_F_b265_java_lang_String_coder : Fld Z h0 b265 "java/lang/String" "coder" "B" (.int (0 : Int32))) (G_F_b265_java_lang_String_value : Fld Z h0 b265 "java/lang/String" "value" "[B" (.ref b287_b284_b273_b270)) (G_A_b287_b284_b273_b270 : Arv Z h0 b287_b284_b273_b270 k287_k284_k273_k270 .byte (3 : Int32) [(.int (nar .byte ((nar .char (own_C p2)).toInt8.toInt32))), (.int (32 : Int32)), (.int (nar .byte ((nar .char (own_C p3)).toInt8.toInt32)))] (.int (0 : Int32))) :
    MetFree l own_m4 (head1 (Jvm.Cond.code own_m4 jdk_42_method_56_code 2 (some .char) :: ws) ({ frames := 3, cells := 0, slots := 0, locals := 40 } : Room)) (fun a U => a = #[(.ref b265), (.int (0 : Int32))] ∧ Z.Warmed39 U.vm ∧ U.heap = h0) (fun _ _ _ _ _ => True) (fun _ U o U' => ∃ v L, o = .returned v ∧ (PQ (some (.int (nar .char (nar .char (((nar .byte ((nar .char (own_C p2)).toInt8.toInt32)) &&& (255 : Int32)).toUInt32.toUInt16.toUInt32.toInt32))))) h0 n0) v U'.heap L ∧ FrameEnd U o U' L ({ frames := 3, cells := 0, slots := 0, locals := 40 } : Room).cells ({ frames := 3, cells := 0, slots := 0, locals := 40 } : Room).slots) := by
  refine MetFree.of_bodySF (plainFor_of_name own_pn3) hisR ?_
  intro p e s m args below meth c s₁ Bd hml0 hP hK
  obtain ⟨rfl, hZ, hh⟩ := hP
  have hx := Bd.exec
  have hby := Bd.bytes
  have hml : c.maxLocals = 2 := hml0
  have hown : s.vm.findClass "java/lang/String" = some m.cls := findClass_of_methodNamed Bd.named
  have hnm := (name_of_methodNamed Bd.named Bd.method).1
  have X0 : Stand p l e ({ frames := 3, cells := 0, slots := 0, locals := 40 } : Room) s m #[(.ref b265), (.int (0 : Int32))] below meth c s₁ [] 0 0 := Stand.of_body Bd
  have e0 : s₁.heap = h0 := by rw [← hh, Bd.state]; rfl
  have N0 := Fr.nil n0
  have pre0 : ∀ t, Steps p.tables e below (s₁.setTop (mkF m 0 #[.val (.ref b265), .val (.int (0 : Int32))] [])) t → Steps p.tables e below (s₁.setTop (entryFrame m #[(.ref b265), (.int (0 : Int32))] 2)) t := fun t k => castTop (own_ef_rm37 m p1 p2 p3 A K cs b265 b287_b284_b273_b270 k287_k284_k273_k270) k
  have KK0 : Keep h0 h0 [] := Keep.refl _ _
  obtain ⟨cq294, kq294, q294a, q294b, q294c⟩ := isOf hZ e0 G_E_b265
  obtain ⟨_, _, ⟨T294, L294, k294, n294⟩, -, X294, ⟨Lc294, hQ294, l294, y294, z294⟩, st294⟩ := X0.virtualBack hx (y := own_m12) (z := own_m12) hown (mvT hZ (hw _ (List.mem_of_getElem? (i := 135) rfl))) (mvT hZ (hw _ (List.mem_of_getElem? (i := 136) rfl))) (notFace_of_selects (args := #[]) (mvT hZ (hw _ (List.mem_of_getElem? (i := 138) rfl)))) (mvT hZ (hw _ (List.mem_of_getElem? (i := 138) rfl))) (mvT hZ (hw _ (List.mem_of_getElem? (i := 137) rfl))) (by decide) (backOf (W := 0) (rm38 l Z a0 hw [] h0 n0 p1 p2 p3 A K cs b265 EN OL0 G_F_b265_java_lang_String_coder) hZ (hw _ (List.mem_of_getElem? (i := 139) rfl)) (hw _ (List.mem_of_getElem? (i := 76) rfl)) (by decide) (by decide)) q294a q294c (g := (mkF m 1 #[.val (.ref b265), .val (.int (0 : Int32))] [(.ref b265)])) rfl (by rw [hml]; rfl) (Steps.refl _) (argsL := []) (rest := []) (lenOf own_pd0 rfl) rfl (by show 2 * 0 + _ ≤ _; exact Nat.le_of_eq rfl) (hb hby own_d_jdk_42_method_56_code_1) (fun _ _ => ⟨rfl, e0, (by decide : 0 + 0 ≤ _), (by decide : 0 + 0 ≤ _)⟩)
  dsimp only [Pt.U, Pt.locs, Pt.cells, Pt.slots] at X294 l294 y294 z294 st294 hQ294
  replace X294 := own_sub X294 l294 y294 z294
  obtain ⟨rfl, N294q, e294⟩ := hQ294
  have N294 := Fr.app N0 N294q
  obtain ⟨T295, X295, e295, st295⟩ := getF X294 hx hZ hown (host := "") (Or.inl (hw _ (List.mem_of_getElem? (i := 101) rfl))) Via.refl e294 G_F_b265_java_lang_String_value (g := (mkF m 8 #[.val (.ref b265), .val (.int (0 : Int32))] [(.ref b265)])) rfl rfl (hb hby own_d_jdk_42_method_56_code_8)
  obtain ⟨_, _, ⟨T305, L305, k305, n305⟩, -, X305, ⟨Lc305, hQ305, l305, y305, z305⟩, st305⟩ := Jvm.LawKit.callS X295 hx (y := own_m10) hown (mvT hZ (hw _ (List.mem_of_getElem? (i := 140) rfl))) (mvT hZ (hw _ (List.mem_of_getElem? (i := 141) rfl))) (mvT hZ (hw _ (List.mem_of_getElem? (i := 142) rfl))) (mvT hZ (hw _ (List.mem_of_getElem? (i := 143) rfl))) (by decide) (backOf (W := 0) (rm39 l Z a0 hw [] h0 n0 p1 p2 p3 A K cs b287_b284_b273_b270 k287_k284_k273_k270 EN OL0 G_A_b287_b284_b273_b270) hZ (hw _ (List.mem_of_getElem? (i := 143) rfl)) (hw _ (List.mem_of_getElem? (i := 142) rfl)) (by decide) (by decide)) (g := (mkF m 12 #[.val (.ref b265), .val (.int (0 : Int32))] [(.int (0 : Int32)), (.ref b287_b284_b273_b270)])) rfl (by rw [hml]; rfl) (argsL := [(.ref b287_b284_b273_b270), (.int (0 : Int32))]) (rest := []) (lenOf own_pd12 rfl) rfl (by show 2 * 0 + _ ≤ _; exact Nat.le_of_eq rfl) (hb hby own_d_jdk_42_method_56_code_12) (fun _ _ => ⟨rfl, e295, (by decide : 0 + 0 ≤ _), (by decide : 0 + 0 ≤ _)⟩)
  dsimp only [Pt.U, Pt.locs, Pt.cells, Pt.slots] at X305 l305 y305 z305 st305 hQ305
  replace X305 := own_sub X305 l305 y305 z305
  obtain ⟨rfl, N305q, e305⟩ := hQ305
  have N305 := Fr.app N294 N305q
  obtain ⟨fs, hr, hrun, hended, hW, hsame⟩ := X305.leave (v := some (.int (nar .char (nar .char (((nar .byte ((nar .char (own_C p2)).toInt8.toInt32)) &&& (255 : Int32)).toUInt32.toUInt16.toUInt32.toInt32))))) (fun h => by rw [Bd.returns] at h; cases h)
  refine ⟨_, _, pre0 _ ?_, hrun, hended, _, _, rfl, ?_, ⟨_, rfl⟩, hW, hsame.mono (by decide) (by decide)⟩
  · show Steps p.tables e below (s₁.setTop (mkF m 0 #[.val (.ref b265), .val (.int (0 : Int32))] [])) _
    refine XS.aloadN X0.here hx rfl (hb hby own_d_jdk_42_method_56_code_0) rfl rfl ?_
    refine st294.trans ?_
    show Steps p.tables e below (T294.setTop (mkF m 4 #[.val (.ref b265), .val (.int (0 : Int32))] [(.int (1 : Int32))])) _
    refine XS.ifNo X294.here hx rfl (hb hby own_d_jdk_42_method_56_code_4) rfl ((if0 _ _).trans (feq (by decide : ¬ ((1 : Int32) = (0 : Int32)))).1) ?_
    show Steps p.tables e below (T294.setTop (mkF m 7 #[.val (.ref b265), .val (.int (0 : Int32))] [])) _
    refine XS.aloadN X294.here hx rfl (hb hby own_d_jdk_42_method_56_code_7) rfl rfl ?_
    refine st295 _ ?_
    show Steps p.tables e below (T295.setTop (mkF m 11 #[.val (.ref b265), .val (.int (0 : Int32))] [(.ref b287_b284_b273_b270)])) _
    refine XS.iloadN X295.here hx rfl (hb hby own_d_jdk_42_method_56_code_11) rfl ?_
    refine st305 _ ?_
    show Steps p.tables e below (T305.setTop (mkF m 15 #[.val (.ref b265), .val (.int (0 : Int32))] [(.int (nar .char (((nar .byte ((nar .char (own_C p2)).toInt8.toInt32)) &&& (255 : Int32)).toUInt32.toUInt16.toUInt32.toInt32)))])) _
    exact retN X305 hx (t := .char) Bd.returns (by simp) (hb hby own_d_jdk_42_method_56_code_15) hr
  · show PQ (some (.int (nar .char (nar .char (((nar .byte ((nar .char (own_C p2)).toInt8.toInt32)) &&& (255 : Int32)).toUInt32.toUInt16.toUInt32.toInt32))))) h0 n0 _ T305.heap _
    rw [e305]
    exact ⟨rfl, N305, rfl⟩
theorem own_ef_rm46 (m : MethodId) (p1 : Int32) (p2 : Int32) (p3 : Int32) (A : Nat → Addr) (K : Nat → ClassId) (cs : Int32)  : entryFrame m #[(.int (1 : Int32)), (.int (3 : Int32)), .null] 3 = mkF m 0 #[.val (.int (1 : Int32)), .val (.int (3 : Int32)), .val .null] [] := by first | (simp [entryFrame, mkF, argsToLocals, Value.category, maxLocals]; done) | rfl
set_option maxRecDepth 65536 in
set_option maxHeartbeats 40000000 in
theorem rm46 (l : Launch) (Z : State) (a0 : Array Value) (hw : ∀ d ∈ tables_1, d.before a0 Z = true) (ws : List Jvm.Cond) (h0 : Heap) (n0 : Nat) (p1 : Int32) (p2 : Int32) (p3 : Int32) (A : Nat → Addr) (K : Nat → ClassId) (cs : Int32)  (EN : own_St Z A K cs) (OL0 : Old Z n0 h0) :
    MetFree l own_m2 (head1 (Jvm.Cond.code own_m2 jdk_41_method_11_code 3 (some .int) :: ws) ({ frames := 0, cells := 0, slots := 0, locals := 0 } : Room)) (fun a U => a = #[(.int (1 : Int32)), (.int (3 : Int32)), .null] ∧ Z.Warmed39 U.vm ∧ U.heap = h0) (fun _ _ _ _ _ => True) (fun _ U o U' => ∃ v L, o = .returned v ∧ (PQ (some (.int (1 : Int32))) h0 n0) v U'.heap L ∧ FrameEnd U o U' L ({ frames := 0, cells := 0, slots := 0, locals := 0 } : Room).cells ({ frames := 0, cells := 0, slots := 0, locals := 0 } : Room).slots) := by
  refine MetFree.of_bodySF (plainFor_of_name own_pn5) hisR ?_
  intro p e s m args below meth c s₁ Bd hml0 hP hK
  obtain ⟨rfl, hZ, hh⟩ := hP
  have hx := Bd.exec
  have hby := Bd.bytes
  have hml : c.maxLocals = 3 := hml0
  have hown : s.vm.findClass "jdk/internal/util/Preconditions" = some m.cls := findClass_of_methodNamed Bd.named
  have hnm := (name_of_methodNamed Bd.named Bd.method).1
  have X0 : Stand p l e ({ frames := 0, cells := 0, slots := 0, locals := 0 } : Room) s m #[(.int (1 : Int32)), (.int (3 : Int32)), .null] below meth c s₁ [] 0 0 := Stand.of_body Bd
  have e0 : s₁.heap = h0 := by rw [← hh, Bd.state]; rfl
  have N0 := Fr.nil n0
  have pre0 : ∀ t, Steps p.tables e below (s₁.setTop (mkF m 0 #[.val (.int (1 : Int32)), .val (.int (3 : Int32)), .val .null] [])) t → Steps p.tables e below (s₁.setTop (entryFrame m #[(.int (1 : Int32)), (.int (3 : Int32)), .null] 3)) t := fun t k => castTop (own_ef_rm46 m p1 p2 p3 A K cs ) k
  have KK0 : Keep h0 h0 [] := Keep.refl _ _
  obtain ⟨fs, hr, hrun, hended, hW, hsame⟩ := X0.leave (v := some (.int (1 : Int32))) (fun h => by rw [Bd.returns] at h; cases h)
  refine ⟨_, _, pre0 _ ?_, hrun, hended, _, _, rfl, ?_, ⟨_, rfl⟩, hW, hsame.mono (by decide) (by decide)⟩
  · show Steps p.tables e below (s₁.setTop (mkF m 0 #[.val (.int (1 : Int32)), .val (.int (3 : Int32)), .val .null] [])) _
    refine XS.iloadN X0.here hx rfl (hb hby own_d_jdk_41_method_11_code_0) rfl ?_
    refine XS.ifNo X0.here hx rfl (hb hby own_d_jdk_41_method_11_code_1) rfl ((if0 _ _).trans (flt (by decide : ¬ ((1 : Int32) < (0 : Int32)))).1) ?_
    show Steps p.tables e below (s₁.setTop (mkF m 4 #[.val (.int (1 : Int32)), .val (.int (3 : Int32)), .val .null] [])) _
    refine XS.iloadN X0.here hx rfl (hb hby own_d_jdk_41_method_11_code_4) rfl ?_
    refine XS.iloadN X0.here hx rfl (hb hby own_d_jdk_41_method_11_code_5) rfl ?_
    refine XS.icmpYes X0.here hx rfl (pc0 := 6) (pc' := 16) rfl (hb hby own_d_jdk_41_method_11_code_6) rfl (tlt (by decide : (1 : Int32) < (3 : Int32))).1 (by decide) (by decide) ?_
    show Steps p.tables e below (s₁.setTop (mkF m 16 #[.val (.int (1 : Int32)), .val (.int (3 : Int32)), .val .null] [])) _
    refine XS.iloadN X0.here hx rfl (hb hby own_d_jdk_41_method_11_code_16) rfl ?_
    exact retI X0 hx Bd.returns (hb hby own_d_jdk_41_method_11_code_17) hr
  · show PQ (some (.int (1 : Int32))) h0 n0 _ s₁.heap _
    rw [e0]
    exact ⟨rfl, N0, rfl⟩
theorem own_ef_rm47 (m : MethodId) (p1 : Int32) (p2 : Int32) (p3 : Int32) (A : Nat → Addr) (K : Nat → ClassId) (cs : Int32)  (af312 : Addr) : entryFrame m #[(.int (1 : Int32)), (.int (3 : Int32)), (.ref af312)] 3 = mkF m 0 #[.val (.int (1 : Int32)), .val (.int (3 : Int32)), .val (.ref af312)] [] := by first | (simp [entryFrame, mkF, argsToLocals, Value.category, maxLocals]; done) | rfl
set_option maxRecDepth 65536 in
set_option maxHeartbeats 40000000 in
theorem rm47 (l : Launch) (Z : State) (a0 : Array Value) (hw : ∀ d ∈ tables_1, d.before a0 Z = true) (ws : List Jvm.Cond) (h0 : Heap) (n0 : Nat) (p1 : Int32) (p2 : Int32) (p3 : Int32) (A : Nat → Addr) (K : Nat → ClassId) (cs : Int32)  (af312 : Addr) (EN : own_St Z A K cs) (OL0 : Old Z n0 h0) :
    MetFree l own_m2 (head1 (Jvm.Cond.code own_m2 jdk_41_method_11_code 3 (some .int) :: ws) ({ frames := 0, cells := 0, slots := 0, locals := 0 } : Room)) (fun a U => a = #[(.int (1 : Int32)), (.int (3 : Int32)), (.ref af312)] ∧ Z.Warmed39 U.vm ∧ U.heap = h0) (fun _ _ _ _ _ => True) (fun _ U o U' => ∃ v L, o = .returned v ∧ (PQ (some (.int (1 : Int32))) h0 n0) v U'.heap L ∧ FrameEnd U o U' L ({ frames := 0, cells := 0, slots := 0, locals := 0 } : Room).cells ({ frames := 0, cells := 0, slots := 0, locals := 0 } : Room).slots) := by
  refine MetFree.of_bodySF (plainFor_of_name own_pn5) hisR ?_
  intro p e s m args below meth c s₁ Bd hml0 hP hK
  obtain ⟨rfl, hZ, hh⟩ := hP
  have hx := Bd.exec
  have hby := Bd.bytes
  have hml : c.maxLocals = 3 := hml0
  have hown : s.vm.findClass "jdk/internal/util/Preconditions" = some m.cls := findClass_of_methodNamed Bd.named
  have hnm := (name_of_methodNamed Bd.named Bd.method).1
  have X0 : Stand p l e ({ frames := 0, cells := 0, slots := 0, locals := 0 } : Room) s m #[(.int (1 : Int32)), (.int (3 : Int32)), (.ref af312)] below meth c s₁ [] 0 0 := Stand.of_body Bd
  have e0 : s₁.heap = h0 := by rw [← hh, Bd.state]; rfl
  have N0 := Fr.nil n0
  have pre0 : ∀ t, Steps p.tables e below (s₁.setTop (mkF m 0 #[.val (.int (1 : Int32)), .val (.int (3 : Int32)), .val (.ref af312)] [])) t → Steps p.tables e below (s₁.setTop (entryFrame m #[(.int (1 : Int32)), (.int (3 : Int32)), (.ref af312)] 3)) t := fun t k => castTop (own_ef_rm47 m p1 p2 p3 A K cs af312) k
  have KK0 : Keep h0 h0 [] := Keep.refl _ _
  obtain ⟨fs, hr, hrun, hended, hW, hsame⟩ := X0.leave (v := some (.int (1 : Int32))) (fun h => by rw [Bd.returns] at h; cases h)
  refine ⟨_, _, pre0 _ ?_, hrun, hended, _, _, rfl, ?_, ⟨_, rfl⟩, hW, hsame.mono (by decide) (by decide)⟩
  · show Steps p.tables e below (s₁.setTop (mkF m 0 #[.val (.int (1 : Int32)), .val (.int (3 : Int32)), .val (.ref af312)] [])) _
    refine XS.iloadN X0.here hx rfl (hb hby own_d_jdk_41_method_11_code_0) rfl ?_
    refine XS.ifNo X0.here hx rfl (hb hby own_d_jdk_41_method_11_code_1) rfl ((if0 _ _).trans (flt (by decide : ¬ ((1 : Int32) < (0 : Int32)))).1) ?_
    show Steps p.tables e below (s₁.setTop (mkF m 4 #[.val (.int (1 : Int32)), .val (.int (3 : Int32)), .val (.ref af312)] [])) _
    refine XS.iloadN X0.here hx rfl (hb hby own_d_jdk_41_method_11_code_4) rfl ?_
    refine XS.iloadN X0.here hx rfl (hb hby own_d_jdk_41_method_11_code_5) rfl ?_
    refine XS.icmpYes X0.here hx rfl (pc0 := 6) (pc' := 16) rfl (hb hby own_d_jdk_41_method_11_code_6) rfl (tlt (by decide : (1 : Int32) < (3 : Int32))).1 (by decide) (by decide) ?_
    show Steps p.tables e below (s₁.setTop (mkF m 16 #[.val (.int (1 : Int32)), .val (.int (3 : Int32)), .val (.ref af312)] [])) _
    refine XS.iloadN X0.here hx rfl (hb hby own_d_jdk_41_method_11_code_16) rfl ?_
    exact retI X0 hx Bd.returns (hb hby own_d_jdk_41_method_11_code_17) hr
  · show PQ (some (.int (1 : Int32))) h0 n0 _ s₁.heap _
    rw [e0]
    exact ⟨rfl, N0, rfl⟩
theorem own_ef_rm45 (m : MethodId) (p1 : Int32) (p2 : Int32) (p3 : Int32) (A : Nat → Addr) (K : Nat → ClassId) (cs : Int32)  : entryFrame m #[(.int (1 : Int32)), (.int (3 : Int32))] 2 = mkF m 0 #[.val (.int (1 : Int32)), .val (.int (3 : Int32))] [] := by first | (simp [entryFrame, mkF, argsToLocals, Value.category, maxLocals]; done) | rfl
set_option maxRecDepth 65536 in
set_option maxHeartbeats 40000000 in
theorem rm45 (l : Launch) (Z : State) (a0 : Array Value) (hw : ∀ d ∈ tables_1, d.before a0 Z = true) (ws : List Jvm.Cond) (h0 : Heap) (n0 : Nat) (p1 : Int32) (p2 : Int32) (p3 : Int32) (A : Nat → Addr) (K : Nat → ClassId) (cs : Int32)  (EN : own_St Z A K cs) (OL0 : Old Z n0 h0) :
    MetFree l own_m9 (head1 (Jvm.Cond.code own_m9 jdk_42_method_155_code 2 none :: ws) ({ frames := 1, cells := 0, slots := 0, locals := 14 } : Room)) (fun a U => a = #[(.int (1 : Int32)), (.int (3 : Int32))] ∧ Z.Warmed39 U.vm ∧ U.heap = h0) (fun _ _ _ _ _ => True) (fun _ U o U' => ∃ v L, o = .returned v ∧ (PQ none h0 n0) v U'.heap L ∧ FrameEnd U o U' L ({ frames := 1, cells := 0, slots := 0, locals := 14 } : Room).cells ({ frames := 1, cells := 0, slots := 0, locals := 14 } : Room).slots) := by
  refine MetFree.of_bodySF (plainFor_of_name own_pn3) hisR ?_
  intro p e s m args below meth c s₁ Bd hml0 hP hK
  obtain ⟨rfl, hZ, hh⟩ := hP
  have hx := Bd.exec
  have hby := Bd.bytes
  have hml : c.maxLocals = 2 := hml0
  have hown : s.vm.findClass "java/lang/String" = some m.cls := findClass_of_methodNamed Bd.named
  have hnm := (name_of_methodNamed Bd.named Bd.method).1
  have X0 : Stand p l e ({ frames := 1, cells := 0, slots := 0, locals := 14 } : Room) s m #[(.int (1 : Int32)), (.int (3 : Int32))] below meth c s₁ [] 0 0 := Stand.of_body Bd
  have e0 : s₁.heap = h0 := by rw [← hh, Bd.state]; rfl
  have N0 := Fr.nil n0
  have pre0 : ∀ t, Steps p.tables e below (s₁.setTop (mkF m 0 #[.val (.int (1 : Int32)), .val (.int (3 : Int32))] [])) t → Steps p.tables e below (s₁.setTop (entryFrame m #[(.int (1 : Int32)), (.int (3 : Int32))] 2)) t := fun t k => castTop (own_ef_rm45 m p1 p2 p3 A K cs ) k
  have KK0 : Keep h0 h0 [] := Keep.refl _ _
  have pre311 : ∀ t, Steps p.tables e below (s₁.setTop (mkF m 2 #[.val (.int (1 : Int32)), .val (.int (3 : Int32))] [(.int (3 : Int32)), (.int (1 : Int32))])) t → Steps p.tables e below (s₁.setTop (entryFrame m #[(.int (1 : Int32)), (.int (3 : Int32))] 2)) t := fun t k => pre0 t (by
    show Steps p.tables e below (s₁.setTop (mkF m 0 #[.val (.int (1 : Int32)), .val (.int (3 : Int32))] [])) _
    refine XS.iloadN X0.here hx rfl (hb hby own_d_jdk_42_method_155_code_0) rfl ?_
    refine XS.iloadN X0.here hx rfl (hb hby own_d_jdk_42_method_155_code_1) rfl ?_
    exact k)
  rcases EN.2.2.2.2.2.2.2.1.2.2.1 with SF312 | ⟨af312, SF312⟩
  · obtain ⟨T313, X313, e313, st313⟩ := getS2 X0 hx hZ hown (host := "") (Or.inl (hw _ (List.mem_of_getElem? (i := 147) rfl))) Via.refl e0 (SF312.ext OL0.2) (g := (mkF m 2 #[.val (.int (1 : Int32)), .val (.int (3 : Int32))] [(.int (3 : Int32)), (.int (1 : Int32))])) rfl (hb hby own_d_jdk_42_method_155_code_2)
    obtain ⟨_, _, ⟨T314, L314, k314, n314⟩, -, X314, ⟨Lc314, hQ314, l314, y314, z314⟩, st314⟩ := Jvm.LawKit.callS X313 hx (y := own_m2) hown (mvT hZ (hw _ (List.mem_of_getElem? (i := 149) rfl))) (mvT hZ (hw _ (List.mem_of_getElem? (i := 150) rfl))) (mvT hZ (hw _ (List.mem_of_getElem? (i := 148) rfl))) (mvT hZ (hw _ (List.mem_of_getElem? (i := 151) rfl))) (by decide) (backOf (W := 0) (rm46 l Z a0 hw [] h0 n0 p1 p2 p3 A K cs EN OL0) hZ (hw _ (List.mem_of_getElem? (i := 151) rfl)) (hw _ (List.mem_of_getElem? (i := 148) rfl)) (by decide) (by decide)) (g := (mkF m 5 #[.val (.int (1 : Int32)), .val (.int (3 : Int32))] [.null, (.int (3 : Int32)), (.int (1 : Int32))])) rfl (by rw [hml]; rfl) (argsL := [(.int (1 : Int32)), (.int (3 : Int32)), .null]) (rest := []) (lenOf own_pd10 rfl) rfl (by show 2 * 0 + _ ≤ _; exact Nat.le_of_eq rfl) (hb hby own_d_jdk_42_method_155_code_5) (fun _ _ => ⟨rfl, e313, (by decide : 0 + 0 ≤ _), (by decide : 0 + 0 ≤ _)⟩)
    dsimp only [Pt.U, Pt.locs, Pt.cells, Pt.slots] at X314 l314 y314 z314 st314 hQ314
    replace X314 := own_sub X314 l314 y314 z314
    obtain ⟨rfl, N314q, e314⟩ := hQ314
    have N314 := Fr.app N0 N314q
    obtain ⟨fs, hr, hrun, hended, hW, hsame⟩ := X314.leave (v := none) (fun _ => rfl)
    refine ⟨_, _, pre311 _ ?_, hrun, hended, _, _, rfl, ?_, ⟨_, rfl⟩, hW, hsame.mono (by decide) (by decide)⟩
    · show Steps p.tables e below (s₁.setTop (mkF m 2 #[.val (.int (1 : Int32)), .val (.int (3 : Int32))] [(.int (3 : Int32)), (.int (1 : Int32))])) _
      refine st313 _ ?_
      show Steps p.tables e below (T313.setTop (mkF m 5 #[.val (.int (1 : Int32)), .val (.int (3 : Int32))] [.null, (.int (3 : Int32)), (.int (1 : Int32))])) _
      refine st314 _ ?_
      show Steps p.tables e below (T314.setTop (mkF m 8 #[.val (.int (1 : Int32)), .val (.int (3 : Int32))] [(.int (1 : Int32))])) _
      refine XS.pop X314.here hx rfl (hb hby own_d_jdk_42_method_155_code_8) rfl rfl ?_
      exact X314.returnOut hx Bd.returns (hb hby own_d_jdk_42_method_155_code_9) hr
    · show PQ none h0 n0 _ T314.heap _
      rw [e314]
      exact ⟨rfl, N314, rfl⟩
  · obtain ⟨T315, X315, e315, st315⟩ := getS2 X0 hx hZ hown (host := "") (Or.inl (hw _ (List.mem_of_getElem? (i := 147) rfl))) Via.refl e0 (SF312.ext OL0.2) (g := (mkF m 2 #[.val (.int (1 : Int32)), .val (.int (3 : Int32))] [(.int (3 : Int32)), (.int (1 : Int32))])) rfl (hb hby own_d_jdk_42_method_155_code_2)
    obtain ⟨_, _, ⟨T316, L316, k316, n316⟩, -, X316, ⟨Lc316, hQ316, l316, y316, z316⟩, st316⟩ := Jvm.LawKit.callS X315 hx (y := own_m2) hown (mvT hZ (hw _ (List.mem_of_getElem? (i := 149) rfl))) (mvT hZ (hw _ (List.mem_of_getElem? (i := 150) rfl))) (mvT hZ (hw _ (List.mem_of_getElem? (i := 148) rfl))) (mvT hZ (hw _ (List.mem_of_getElem? (i := 151) rfl))) (by decide) (backOf (W := 0) (rm47 l Z a0 hw [] h0 n0 p1 p2 p3 A K cs af312 EN OL0) hZ (hw _ (List.mem_of_getElem? (i := 151) rfl)) (hw _ (List.mem_of_getElem? (i := 148) rfl)) (by decide) (by decide)) (g := (mkF m 5 #[.val (.int (1 : Int32)), .val (.int (3 : Int32))] [(.ref af312), (.int (3 : Int32)), (.int (1 : Int32))])) rfl (by rw [hml]; rfl) (argsL := [(.int (1 : Int32)), (.int (3 : Int32)), (.ref af312)]) (rest := []) (lenOf own_pd10 rfl) rfl (by show 2 * 0 + _ ≤ _; exact Nat.le_of_eq rfl) (hb hby own_d_jdk_42_method_155_code_5) (fun _ _ => ⟨rfl, e315, (by decide : 0 + 0 ≤ _), (by decide : 0 + 0 ≤ _)⟩)
    dsimp only [Pt.U, Pt.locs, Pt.cells, Pt.slots] at X316 l316 y316 z316 st316 hQ316
    replace X316 := own_sub X316 l316 y316 z316
    obtain ⟨rfl, N316q, e316⟩ := hQ316
    have N316 := Fr.app N0 N316q
    obtain ⟨fs, hr, hrun, hended, hW, hsame⟩ := X316.leave (v := none) (fun _ => rfl)
    refine ⟨_, _, pre311 _ ?_, hrun, hended, _, _, rfl, ?_, ⟨_, rfl⟩, hW, hsame.mono (by decide) (by decide)⟩
    · show Steps p.tables e below (s₁.setTop (mkF m 2 #[.val (.int (1 : Int32)), .val (.int (3 : Int32))] [(.int (3 : Int32)), (.int (1 : Int32))])) _
      refine st315 _ ?_
      show Steps p.tables e below (T315.setTop (mkF m 5 #[.val (.int (1 : Int32)), .val (.int (3 : Int32))] [(.ref af312), (.int (3 : Int32)), (.int (1 : Int32))])) _
      refine st316 _ ?_
      show Steps p.tables e below (T316.setTop (mkF m 8 #[.val (.int (1 : Int32)), .val (.int (3 : Int32))] [(.int (1 : Int32))])) _
      refine XS.pop X316.here hx rfl (hb hby own_d_jdk_42_method_155_code_8) rfl rfl ?_
      exact X316.returnOut hx Bd.returns (hb hby own_d_jdk_42_method_155_code_9) hr
    · show PQ none h0 n0 _ T316.heap _
      rw [e316]
      exact ⟨rfl, N316, rfl⟩
theorem own_ef_rm44 (m : MethodId) (p1 : Int32) (p2 : Int32) (p3 : Int32) (A : Nat → Addr) (K : Nat → ClassId) (cs : Int32)  (b287_b284_b273_b270 : Addr) (k287_k284_k273_k270 : ClassId) : entryFrame m #[(.ref b287_b284_b273_b270), (.int (1 : Int32))] 2 = mkF m 0 #[.val (.ref b287_b284_b273_b270), .val (.int (1 : Int32))] [] := by first | (simp [entryFrame, mkF, argsToLocals, Value.category, maxLocals]; done) | rfl
set_option maxRecDepth 65536 in
set_option maxHeartbeats 40000000 in
theorem rm44 (l : Launch) (Z : State) (a0 : Array Value) (hw : ∀ d ∈ tables_1, d.before a0 Z = true) (ws : List Jvm.Cond) (h0 : Heap) (n0 : Nat) (p1 : Int32) (p2 : Int32) (p3 : Int32) (A : Nat → Addr) (K : Nat → ClassId) (cs : Int32)  (b287_b284_b273_b270 : Addr) (k287_k284_k273_k270 : ClassId) (EN : own_St Z A K cs) (OL0 : Old Z n0 h0) (G_A_b287_b284_b273_b270 : Arv Z h0 b287_b284_b273_b270 k287_k284_k273_k270 .byte (3 : Int32) [(.int (nar .byte ((nar .char (own_C p2)).toInt8.toInt32))), (.int (32 : Int32)), (.int (nar .byte ((nar .char (own_C p3)).toInt8.toInt32)))] (.int (0 : Int32))) :
    MetFree l own_m10 (head1 (Jvm.Cond.code own_m10 jdk_43_method_2_code 2 (some .char) :: ws) ({ frames := 2, cells := 0, slots := 0, locals := 27 } : Room)) (fun a U => a = #[(.ref b287_b284_b273_b270), (.int (1 : Int32))] ∧ Z.Warmed39 U.vm ∧ U.heap = h0) (fun _ _ _ _ _ => True) (fun _ U o U' => ∃ v L, o = .returned v ∧ (PQ (some (.int (32 : Int32))) h0 n0) v U'.heap L ∧ FrameEnd U o U' L ({ frames := 2, cells := 0, slots := 0, locals := 27 } : Room).cells ({ frames := 2, cells := 0, slots := 0, locals := 27 } : Room).slots) := by
  refine MetFree.of_bodySF (plainFor_of_name own_pn6) hisR ?_
  intro p e s m args below meth c s₁ Bd hml0 hP hK
  obtain ⟨rfl, hZ, hh⟩ := hP
  have hx := Bd.exec
  have hby := Bd.bytes
  have hml : c.maxLocals = 2 := hml0
  have hown : s.vm.findClass "java/lang/StringLatin1" = some m.cls := findClass_of_methodNamed Bd.named
  have hnm := (name_of_methodNamed Bd.named Bd.method).1
  have X0 : Stand p l e ({ frames := 2, cells := 0, slots := 0, locals := 27 } : Room) s m #[(.ref b287_b284_b273_b270), (.int (1 : Int32))] below meth c s₁ [] 0 0 := Stand.of_body Bd
  have e0 : s₁.heap = h0 := by rw [← hh, Bd.state]; rfl
  have N0 := Fr.nil n0
  have pre0 : ∀ t, Steps p.tables e below (s₁.setTop (mkF m 0 #[.val (.ref b287_b284_b273_b270), .val (.int (1 : Int32))] [])) t → Steps p.tables e below (s₁.setTop (entryFrame m #[(.ref b287_b284_b273_b270), (.int (1 : Int32))] 2)) t := fun t k => castTop (own_ef_rm44 m p1 p2 p3 A K cs b287_b284_b273_b270 k287_k284_k273_k270) k
  have KK0 : Keep h0 h0 [] := Keep.refl _ _
  obtain ⟨cl310, Ar310, -, Sz310, Nn310, -, -⟩ := (id G_A_b287_b284_b273_b270)
  obtain ⟨_, _, ⟨T317, L317, k317, n317⟩, -, X317, ⟨Lc317, hQ317, l317, y317, z317⟩, st317⟩ := Jvm.LawKit.callS X0 hx (y := own_m9) hown (mvT hZ (hw _ (List.mem_of_getElem? (i := 144) rfl))) (mvT hZ (hw _ (List.mem_of_getElem? (i := 145) rfl))) (mvT hZ (hw _ (List.mem_of_getElem? (i := 76) rfl))) (mvT hZ (hw _ (List.mem_of_getElem? (i := 146) rfl))) (by decide) (backOf (W := 0) (rm45 l Z a0 hw [] h0 n0 p1 p2 p3 A K cs EN OL0) hZ (hw _ (List.mem_of_getElem? (i := 146) rfl)) (hw _ (List.mem_of_getElem? (i := 76) rfl)) (by decide) (by decide)) (g := (mkF m 3 #[.val (.ref b287_b284_b273_b270), .val (.int (1 : Int32))] [(.int (3 : Int32)), (.int (1 : Int32))])) rfl (by rw [hml]; rfl) (argsL := [(.int (1 : Int32)), (.int (3 : Int32))]) (rest := []) (lenOf own_pd11 rfl) rfl (by show 2 * 0 + _ ≤ _; exact Nat.le_of_eq rfl) (hb hby own_d_jdk_43_method_2_code_3) (fun _ _ => ⟨rfl, e0, (by decide : 0 + 0 ≤ _), (by decide : 0 + 0 ≤ _)⟩)
  dsimp only [Pt.U, Pt.locs, Pt.cells, Pt.slots] at X317 l317 y317 z317 st317 hQ317
  replace X317 := own_sub X317 l317 y317 z317
  obtain ⟨rfl, N317q, e317⟩ := hQ317
  have N317 := Fr.app N0 N317q
  obtain ⟨cl318, Ar318, q318, Sz318, Nn318, Hh318, Gg318⟩ := (id G_A_b287_b284_b273_b270)
  have hin318 : ¬ ((1 : Int32) < 0 ∨ cl318.slots.size ≤ ((1 : Int32)).toNatClampNeg) := inb_of Sz318 ⟨by decide, by decide⟩
  have hat318 : cl318.slots[((1 : Int32)).toNatClampNeg]? = some (.int (32 : Int32)) := Has.at Hh318 hin318 rfl
  obtain ⟨fs, hr, hrun, hended, hW, hsame⟩ := X317.leave (v := some (.int (32 : Int32))) (fun h => by rw [Bd.returns] at h; cases h)
  refine ⟨_, _, pre0 _ ?_, hrun, hended, _, _, rfl, ?_, ⟨_, rfl⟩, hW, hsame.mono (by decide) (by decide)⟩
  · show Steps p.tables e below (s₁.setTop (mkF m 0 #[.val (.ref b287_b284_b273_b270), .val (.int (1 : Int32))] [])) _
    refine XS.iloadN X0.here hx rfl (hb hby own_d_jdk_43_method_2_code_0) rfl ?_
    refine XS.aloadN X0.here hx rfl (hb hby own_d_jdk_43_method_2_code_1) rfl rfl ?_
    refine X0.arraylength hx (by rw [e0]; exact Ar310.1) (State.isArrayOf_alike hZ.alike Ar310.2.1) (g := (mkF m 2 #[.val (.ref b287_b284_b273_b270), .val (.int (1 : Int32))] [(.ref b287_b284_b273_b270), (.int (1 : Int32))])) rfl rfl (hb hby own_d_jdk_43_method_2_code_2) _ ?_
    rw [len_of Sz310 Nn310]
    show Steps p.tables e below (s₁.setTop (mkF m 3 #[.val (.ref b287_b284_b273_b270), .val (.int (1 : Int32))] [(.int (3 : Int32)), (.int (1 : Int32))])) _
    refine st317 _ ?_
    show Steps p.tables e below (T317.setTop (mkF m 6 #[.val (.ref b287_b284_b273_b270), .val (.int (1 : Int32))] [])) _
    refine XS.aloadN X317.here hx rfl (hb hby own_d_jdk_43_method_2_code_6) rfl rfl ?_
    refine XS.iloadN X317.here hx rfl (hb hby own_d_jdk_43_method_2_code_7) rfl ?_
    refine X317.baloadBytes hx (j := (1 : Int32)) (v := (.int (32 : Int32))) (by rw [e317]; exact Ar318.1) (State.isArrayOf_alike hZ.alike Ar318.2.1) Ar318.2.2 hin318 hat318 (g := (mkF m 8 #[.val (.ref b287_b284_b273_b270), .val (.int (1 : Int32))] [(.int (1 : Int32)), (.ref b287_b284_b273_b270)])) rfl rfl (hb hby own_d_jdk_43_method_2_code_8) _ ?_
    show Steps p.tables e below (T317.setTop (mkF m 9 #[.val (.ref b287_b284_b273_b270), .val (.int (1 : Int32))] [(.int (32 : Int32))])) _
    refine XS.sipush X317.here hx rfl (hb hby own_d_jdk_43_method_2_code_9) ?_
    refine XS.iand X317.here hx rfl (hb hby own_d_jdk_43_method_2_code_12) rfl ?_
    show Steps p.tables e below (T317.setTop (mkF m 13 #[.val (.ref b287_b284_b273_b270), .val (.int (1 : Int32))] [(.int (32 : Int32))])) _
    refine XS.i2c X317.here hx rfl (hb hby own_d_jdk_43_method_2_code_13) rfl ?_
    show Steps p.tables e below (T317.setTop (mkF m 14 #[.val (.ref b287_b284_b273_b270), .val (.int (1 : Int32))] [(.int (32 : Int32))])) _
    exact retN X317 hx (t := .char) Bd.returns (by simp) (hb hby own_d_jdk_43_method_2_code_14) hr
  · show PQ (some (.int (32 : Int32))) h0 n0 _ T317.heap _
    rw [e317]
    exact ⟨rfl, N317, rfl⟩
theorem own_ef_rm43 (m : MethodId) (p1 : Int32) (p2 : Int32) (p3 : Int32) (A : Nat → Addr) (K : Nat → ClassId) (cs : Int32)  (b265 : Addr) (b287_b284_b273_b270 : Addr) (k287_k284_k273_k270 : ClassId) : entryFrame m #[(.ref b265), (.int (1 : Int32))] 2 = mkF m 0 #[.val (.ref b265), .val (.int (1 : Int32))] [] := by first | (simp [entryFrame, mkF, argsToLocals, Value.category, maxLocals]; done) | rfl
set_option maxRecDepth 65536 in
set_option maxHeartbeats 40000000 in
theorem rm43 (l : Launch) (Z : State) (a0 : Array Value) (hw : ∀ d ∈ tables_1, d.before a0 Z = true) (ws : List Jvm.Cond) (h0 : Heap) (n0 : Nat) (p1 : Int32) (p2 : Int32) (p3 : Int32) (A : Nat → Addr) (K : Nat → ClassId) (cs : Int32)  (b265 : Addr) (b287_b284_b273_b270 : Addr) (k287_k284_k273_k270 : ClassId) (EN : own_St Z A K cs) (OL0 : Old Z n0 h0) (G_E_b265 : Exa Z h0 b265 "java/lang/String") (G_F_b265_java_lang_String_coder : Fld Z h0 b265 "java/lang/String" "coder" "B" (.int (0 : Int32))) (G_F_b265_java_lang_String_value : Fld Z h0 b265 "java/lang/String" "value" "[B" (.ref b287_b284_b273_b270)) (G_A_b287_b284_b273_b270 : Arv Z h0 b287_b284_b273_b270 k287_k284_k273_k270 .byte (3 : Int32) [(.int (nar .byte ((nar .char (own_C p2)).toInt8.toInt32))), (.int (32 : Int32)), (.int (nar .byte ((nar .char (own_C p3)).toInt8.toInt32)))] (.int (0 : Int32))) :
    MetFree l own_m4 (head1 (Jvm.Cond.code own_m4 jdk_42_method_56_code 2 (some .char) :: ws) ({ frames := 3, cells := 0, slots := 0, locals := 40 } : Room)) (fun a U => a = #[(.ref b265), (.int (1 : Int32))] ∧ Z.Warmed39 U.vm ∧ U.heap = h0) (fun _ _ _ _ _ => True) (fun _ U o U' => ∃ v L, o = .returned v ∧ (PQ (some (.int (32 : Int32))) h0 n0) v U'.heap L ∧ FrameEnd U o U' L ({ frames := 3, cells := 0, slots := 0, locals := 40 } : Room).cells ({ frames := 3, cells := 0, slots := 0, locals := 40 } : Room).slots) := by
  refine MetFree.of_bodySF (plainFor_of_name own_pn3) hisR ?_
  intro p e s m args below meth c s₁ Bd hml0 hP hK
  obtain ⟨rfl, hZ, hh⟩ := hP
  have hx := Bd.exec
  have hby := Bd.bytes
  have hml : c.maxLocals = 2 := hml0
  have hown : s.vm.findClass "java/lang/String" = some m.cls := findClass_of_methodNamed Bd.named
  have hnm := (name_of_methodNamed Bd.named Bd.method).1
  have X0 : Stand p l e ({ frames := 3, cells := 0, slots := 0, locals := 40 } : Room) s m #[(.ref b265), (.int (1 : Int32))] below meth c s₁ [] 0 0 := Stand.of_body Bd
  have e0 : s₁.heap = h0 := by rw [← hh, Bd.state]; rfl
  have N0 := Fr.nil n0
  have pre0 : ∀ t, Steps p.tables e below (s₁.setTop (mkF m 0 #[.val (.ref b265), .val (.int (1 : Int32))] [])) t → Steps p.tables e below (s₁.setTop (entryFrame m #[(.ref b265), (.int (1 : Int32))] 2)) t := fun t k => castTop (own_ef_rm43 m p1 p2 p3 A K cs b265 b287_b284_b273_b270 k287_k284_k273_k270) k
  have KK0 : Keep h0 h0 [] := Keep.refl _ _
  obtain ⟨cq308, kq308, q308a, q308b, q308c⟩ := isOf hZ e0 G_E_b265
  obtain ⟨_, _, ⟨T308, L308, k308, n308⟩, -, X308, ⟨Lc308, hQ308, l308, y308, z308⟩, st308⟩ := X0.virtualBack hx (y := own_m12) (z := own_m12) hown (mvT hZ (hw _ (List.mem_of_getElem? (i := 135) rfl))) (mvT hZ (hw _ (List.mem_of_getElem? (i := 136) rfl))) (notFace_of_selects (args := #[]) (mvT hZ (hw _ (List.mem_of_getElem? (i := 138) rfl)))) (mvT hZ (hw _ (List.mem_of_getElem? (i := 138) rfl))) (mvT hZ (hw _ (List.mem_of_getElem? (i := 137) rfl))) (by decide) (backOf (W := 0) (rm38 l Z a0 hw [] h0 n0 p1 p2 p3 A K cs b265 EN OL0 G_F_b265_java_lang_String_coder) hZ (hw _ (List.mem_of_getElem? (i := 139) rfl)) (hw _ (List.mem_of_getElem? (i := 76) rfl)) (by decide) (by decide)) q308a q308c (g := (mkF m 1 #[.val (.ref b265), .val (.int (1 : Int32))] [(.ref b265)])) rfl (by rw [hml]; rfl) (Steps.refl _) (argsL := []) (rest := []) (lenOf own_pd0 rfl) rfl (by show 2 * 0 + _ ≤ _; exact Nat.le_of_eq rfl) (hb hby own_d_jdk_42_method_56_code_1) (fun _ _ => ⟨rfl, e0, (by decide : 0 + 0 ≤ _), (by decide : 0 + 0 ≤ _)⟩)
  dsimp only [Pt.U, Pt.locs, Pt.cells, Pt.slots] at X308 l308 y308 z308 st308 hQ308
  replace X308 := own_sub X308 l308 y308 z308
  obtain ⟨rfl, N308q, e308⟩ := hQ308
  have N308 := Fr.app N0 N308q
  obtain ⟨T309, X309, e309, st309⟩ := getF X308 hx hZ hown (host := "") (Or.inl (hw _ (List.mem_of_getElem? (i := 101) rfl))) Via.refl e308 G_F_b265_java_lang_String_value (g := (mkF m 8 #[.val (.ref b265), .val (.int (1 : Int32))] [(.ref b265)])) rfl rfl (hb hby own_d_jdk_42_method_56_code_8)
  obtain ⟨_, _, ⟨T319, L319, k319, n319⟩, -, X319, ⟨Lc319, hQ319, l319, y319, z319⟩, st319⟩ := Jvm.LawKit.callS X309 hx (y := own_m10) hown (mvT hZ (hw _ (List.mem_of_getElem? (i := 140) rfl))) (mvT hZ (hw _ (List.mem_of_getElem? (i := 141) rfl))) (mvT hZ (hw _ (List.mem_of_getElem? (i := 142) rfl))) (mvT hZ (hw _ (List.mem_of_getElem? (i := 143) rfl))) (by decide) (backOf (W := 0) (rm44 l Z a0 hw [] h0 n0 p1 p2 p3 A K cs b287_b284_b273_b270 k287_k284_k273_k270 EN OL0 G_A_b287_b284_b273_b270) hZ (hw _ (List.mem_of_getElem? (i := 143) rfl)) (hw _ (List.mem_of_getElem? (i := 142) rfl)) (by decide) (by decide)) (g := (mkF m 12 #[.val (.ref b265), .val (.int (1 : Int32))] [(.int (1 : Int32)), (.ref b287_b284_b273_b270)])) rfl (by rw [hml]; rfl) (argsL := [(.ref b287_b284_b273_b270), (.int (1 : Int32))]) (rest := []) (lenOf own_pd12 rfl) rfl (by show 2 * 0 + _ ≤ _; exact Nat.le_of_eq rfl) (hb hby own_d_jdk_42_method_56_code_12) (fun _ _ => ⟨rfl, e309, (by decide : 0 + 0 ≤ _), (by decide : 0 + 0 ≤ _)⟩)
  dsimp only [Pt.U, Pt.locs, Pt.cells, Pt.slots] at X319 l319 y319 z319 st319 hQ319
  replace X319 := own_sub X319 l319 y319 z319
  obtain ⟨rfl, N319q, e319⟩ := hQ319
  have N319 := Fr.app N308 N319q
  obtain ⟨fs, hr, hrun, hended, hW, hsame⟩ := X319.leave (v := some (.int (32 : Int32))) (fun h => by rw [Bd.returns] at h; cases h)
  refine ⟨_, _, pre0 _ ?_, hrun, hended, _, _, rfl, ?_, ⟨_, rfl⟩, hW, hsame.mono (by decide) (by decide)⟩
  · show Steps p.tables e below (s₁.setTop (mkF m 0 #[.val (.ref b265), .val (.int (1 : Int32))] [])) _
    refine XS.aloadN X0.here hx rfl (hb hby own_d_jdk_42_method_56_code_0) rfl rfl ?_
    refine st308.trans ?_
    show Steps p.tables e below (T308.setTop (mkF m 4 #[.val (.ref b265), .val (.int (1 : Int32))] [(.int (1 : Int32))])) _
    refine XS.ifNo X308.here hx rfl (hb hby own_d_jdk_42_method_56_code_4) rfl ((if0 _ _).trans (feq (by decide : ¬ ((1 : Int32) = (0 : Int32)))).1) ?_
    show Steps p.tables e below (T308.setTop (mkF m 7 #[.val (.ref b265), .val (.int (1 : Int32))] [])) _
    refine XS.aloadN X308.here hx rfl (hb hby own_d_jdk_42_method_56_code_7) rfl rfl ?_
    refine st309 _ ?_
    show Steps p.tables e below (T309.setTop (mkF m 11 #[.val (.ref b265), .val (.int (1 : Int32))] [(.ref b287_b284_b273_b270)])) _
    refine XS.iloadN X309.here hx rfl (hb hby own_d_jdk_42_method_56_code_11) rfl ?_
    refine st319 _ ?_
    show Steps p.tables e below (T319.setTop (mkF m 15 #[.val (.ref b265), .val (.int (1 : Int32))] [(.int (32 : Int32))])) _
    exact retN X319 hx (t := .char) Bd.returns (by simp) (hb hby own_d_jdk_42_method_56_code_15) hr
  · show PQ (some (.int (32 : Int32))) h0 n0 _ T319.heap _
    rw [e319]
    exact ⟨rfl, N319, rfl⟩
theorem own_ef_rm51 (m : MethodId) (p1 : Int32) (p2 : Int32) (p3 : Int32) (A : Nat → Addr) (K : Nat → ClassId) (cs : Int32)  : entryFrame m #[(.int (2 : Int32)), (.int (3 : Int32)), .null] 3 = mkF m 0 #[.val (.int (2 : Int32)), .val (.int (3 : Int32)), .val .null] [] := by first | (simp [entryFrame, mkF, argsToLocals, Value.category, maxLocals]; done) | rfl
set_option maxRecDepth 65536 in
set_option maxHeartbeats 40000000 in
theorem rm51 (l : Launch) (Z : State) (a0 : Array Value) (hw : ∀ d ∈ tables_1, d.before a0 Z = true) (ws : List Jvm.Cond) (h0 : Heap) (n0 : Nat) (p1 : Int32) (p2 : Int32) (p3 : Int32) (A : Nat → Addr) (K : Nat → ClassId) (cs : Int32)  (EN : own_St Z A K cs) (OL0 : Old Z n0 h0) :
    MetFree l own_m2 (head1 (Jvm.Cond.code own_m2 jdk_41_method_11_code 3 (some .int) :: ws) ({ frames := 0, cells := 0, slots := 0, locals := 0 } : Room)) (fun a U => a = #[(.int (2 : Int32)), (.int (3 : Int32)), .null] ∧ Z.Warmed39 U.vm ∧ U.heap = h0) (fun _ _ _ _ _ => True) (fun _ U o U' => ∃ v L, o = .returned v ∧ (PQ (some (.int (2 : Int32))) h0 n0) v U'.heap L ∧ FrameEnd U o U' L ({ frames := 0, cells := 0, slots := 0, locals := 0 } : Room).cells ({ frames := 0, cells := 0, slots := 0, locals := 0 } : Room).slots) := by
  refine MetFree.of_bodySF (plainFor_of_name own_pn5) hisR ?_
  intro p e s m args below meth c s₁ Bd hml0 hP hK
  obtain ⟨rfl, hZ, hh⟩ := hP
  have hx := Bd.exec
  have hby := Bd.bytes
  have hml : c.maxLocals = 3 := hml0
  have hown : s.vm.findClass "jdk/internal/util/Preconditions" = some m.cls := findClass_of_methodNamed Bd.named
  have hnm := (name_of_methodNamed Bd.named Bd.method).1
  have X0 : Stand p l e ({ frames := 0, cells := 0, slots := 0, locals := 0 } : Room) s m #[(.int (2 : Int32)), (.int (3 : Int32)), .null] below meth c s₁ [] 0 0 := Stand.of_body Bd
  have e0 : s₁.heap = h0 := by rw [← hh, Bd.state]; rfl
  have N0 := Fr.nil n0
  have pre0 : ∀ t, Steps p.tables e below (s₁.setTop (mkF m 0 #[.val (.int (2 : Int32)), .val (.int (3 : Int32)), .val .null] [])) t → Steps p.tables e below (s₁.setTop (entryFrame m #[(.int (2 : Int32)), (.int (3 : Int32)), .null] 3)) t := fun t k => castTop (own_ef_rm51 m p1 p2 p3 A K cs ) k
  have KK0 : Keep h0 h0 [] := Keep.refl _ _
  obtain ⟨fs, hr, hrun, hended, hW, hsame⟩ := X0.leave (v := some (.int (2 : Int32))) (fun h => by rw [Bd.returns] at h; cases h)
  refine ⟨_, _, pre0 _ ?_, hrun, hended, _, _, rfl, ?_, ⟨_, rfl⟩, hW, hsame.mono (by decide) (by decide)⟩
  · show Steps p.tables e below (s₁.setTop (mkF m 0 #[.val (.int (2 : Int32)), .val (.int (3 : Int32)), .val .null] [])) _
    refine XS.iloadN X0.here hx rfl (hb hby own_d_jdk_41_method_11_code_0) rfl ?_
    refine XS.ifNo X0.here hx rfl (hb hby own_d_jdk_41_method_11_code_1) rfl ((if0 _ _).trans (flt (by decide : ¬ ((2 : Int32) < (0 : Int32)))).1) ?_
    show Steps p.tables e below (s₁.setTop (mkF m 4 #[.val (.int (2 : Int32)), .val (.int (3 : Int32)), .val .null] [])) _
    refine XS.iloadN X0.here hx rfl (hb hby own_d_jdk_41_method_11_code_4) rfl ?_
    refine XS.iloadN X0.here hx rfl (hb hby own_d_jdk_41_method_11_code_5) rfl ?_
    refine XS.icmpYes X0.here hx rfl (pc0 := 6) (pc' := 16) rfl (hb hby own_d_jdk_41_method_11_code_6) rfl (tlt (by decide : (2 : Int32) < (3 : Int32))).1 (by decide) (by decide) ?_
    show Steps p.tables e below (s₁.setTop (mkF m 16 #[.val (.int (2 : Int32)), .val (.int (3 : Int32)), .val .null] [])) _
    refine XS.iloadN X0.here hx rfl (hb hby own_d_jdk_41_method_11_code_16) rfl ?_
    exact retI X0 hx Bd.returns (hb hby own_d_jdk_41_method_11_code_17) hr
  · show PQ (some (.int (2 : Int32))) h0 n0 _ s₁.heap _
    rw [e0]
    exact ⟨rfl, N0, rfl⟩
theorem own_ef_rm52 (m : MethodId) (p1 : Int32) (p2 : Int32) (p3 : Int32) (A : Nat → Addr) (K : Nat → ClassId) (cs : Int32)  (af326 : Addr) : entryFrame m #[(.int (2 : Int32)), (.int (3 : Int32)), (.ref af326)] 3 = mkF m 0 #[.val (.int (2 : Int32)), .val (.int (3 : Int32)), .val (.ref af326)] [] := by first | (simp [entryFrame, mkF, argsToLocals, Value.category, maxLocals]; done) | rfl
set_option maxRecDepth 65536 in
set_option maxHeartbeats 40000000 in
theorem rm52 (l : Launch) (Z : State) (a0 : Array Value) (hw : ∀ d ∈ tables_1, d.before a0 Z = true) (ws : List Jvm.Cond) (h0 : Heap) (n0 : Nat) (p1 : Int32) (p2 : Int32) (p3 : Int32) (A : Nat → Addr) (K : Nat → ClassId) (cs : Int32)  (af326 : Addr) (EN : own_St Z A K cs) (OL0 : Old Z n0 h0) :
    MetFree l own_m2 (head1 (Jvm.Cond.code own_m2 jdk_41_method_11_code 3 (some .int) :: ws) ({ frames := 0, cells := 0, slots := 0, locals := 0 } : Room)) (fun a U => a = #[(.int (2 : Int32)), (.int (3 : Int32)), (.ref af326)] ∧ Z.Warmed39 U.vm ∧ U.heap = h0) (fun _ _ _ _ _ => True) (fun _ U o U' => ∃ v L, o = .returned v ∧ (PQ (some (.int (2 : Int32))) h0 n0) v U'.heap L ∧ FrameEnd U o U' L ({ frames := 0, cells := 0, slots := 0, locals := 0 } : Room).cells ({ frames := 0, cells := 0, slots := 0, locals := 0 } : Room).slots) := by
  refine MetFree.of_bodySF (plainFor_of_name own_pn5) hisR ?_
  intro p e s m args below meth c s₁ Bd hml0 hP hK
  obtain ⟨rfl, hZ, hh⟩ := hP
  have hx := Bd.exec
  have hby := Bd.bytes
  have hml : c.maxLocals = 3 := hml0
  have hown : s.vm.findClass "jdk/internal/util/Preconditions" = some m.cls := findClass_of_methodNamed Bd.named
  have hnm := (name_of_methodNamed Bd.named Bd.method).1
  have X0 : Stand p l e ({ frames := 0, cells := 0, slots := 0, locals := 0 } : Room) s m #[(.int (2 : Int32)), (.int (3 : Int32)), (.ref af326)] below meth c s₁ [] 0 0 := Stand.of_body Bd
  have e0 : s₁.heap = h0 := by rw [← hh, Bd.state]; rfl
  have N0 := Fr.nil n0
  have pre0 : ∀ t, Steps p.tables e below (s₁.setTop (mkF m 0 #[.val (.int (2 : Int32)), .val (.int (3 : Int32)), .val (.ref af326)] [])) t → Steps p.tables e below (s₁.setTop (entryFrame m #[(.int (2 : Int32)), (.int (3 : Int32)), (.ref af326)] 3)) t := fun t k => castTop (own_ef_rm52 m p1 p2 p3 A K cs af326) k
  have KK0 : Keep h0 h0 [] := Keep.refl _ _
  obtain ⟨fs, hr, hrun, hended, hW, hsame⟩ := X0.leave (v := some (.int (2 : Int32))) (fun h => by rw [Bd.returns] at h; cases h)
  refine ⟨_, _, pre0 _ ?_, hrun, hended, _, _, rfl, ?_, ⟨_, rfl⟩, hW, hsame.mono (by decide) (by decide)⟩
  · show Steps p.tables e below (s₁.setTop (mkF m 0 #[.val (.int (2 : Int32)), .val (.int (3 : Int32)), .val (.ref af326)] [])) _
    refine XS.iloadN X0.here hx rfl (hb hby own_d_jdk_41_method_11_code_0) rfl ?_
    refine XS.ifNo X0.here hx rfl (hb hby own_d_jdk_41_method_11_code_1) rfl ((if0 _ _).trans (flt (by decide : ¬ ((2 : Int32) < (0 : Int32)))).1) ?_
    show Steps p.tables e below (s₁.setTop (mkF m 4 #[.val (.int (2 : Int32)), .val (.int (3 : Int32)), .val (.ref af326)] [])) _
    refine XS.iloadN X0.here hx rfl (hb hby own_d_jdk_41_method_11_code_4) rfl ?_
    refine XS.iloadN X0.here hx rfl (hb hby own_d_jdk_41_method_11_code_5) rfl ?_
    refine XS.icmpYes X0.here hx rfl (pc0 := 6) (pc' := 16) rfl (hb hby own_d_jdk_41_method_11_code_6) rfl (tlt (by decide : (2 : Int32) < (3 : Int32))).1 (by decide) (by decide) ?_
    show Steps p.tables e below (s₁.setTop (mkF m 16 #[.val (.int (2 : Int32)), .val (.int (3 : Int32)), .val (.ref af326)] [])) _
    refine XS.iloadN X0.here hx rfl (hb hby own_d_jdk_41_method_11_code_16) rfl ?_
    exact retI X0 hx Bd.returns (hb hby own_d_jdk_41_method_11_code_17) hr
  · show PQ (some (.int (2 : Int32))) h0 n0 _ s₁.heap _
    rw [e0]
    exact ⟨rfl, N0, rfl⟩
theorem own_ef_rm50 (m : MethodId) (p1 : Int32) (p2 : Int32) (p3 : Int32) (A : Nat → Addr) (K : Nat → ClassId) (cs : Int32)  : entryFrame m #[(.int (2 : Int32)), (.int (3 : Int32))] 2 = mkF m 0 #[.val (.int (2 : Int32)), .val (.int (3 : Int32))] [] := by first | (simp [entryFrame, mkF, argsToLocals, Value.category, maxLocals]; done) | rfl
set_option maxRecDepth 65536 in
set_option maxHeartbeats 40000000 in
theorem rm50 (l : Launch) (Z : State) (a0 : Array Value) (hw : ∀ d ∈ tables_1, d.before a0 Z = true) (ws : List Jvm.Cond) (h0 : Heap) (n0 : Nat) (p1 : Int32) (p2 : Int32) (p3 : Int32) (A : Nat → Addr) (K : Nat → ClassId) (cs : Int32)  (EN : own_St Z A K cs) (OL0 : Old Z n0 h0) :
    MetFree l own_m9 (head1 (Jvm.Cond.code own_m9 jdk_42_method_155_code 2 none :: ws) ({ frames := 1, cells := 0, slots := 0, locals := 14 } : Room)) (fun a U => a = #[(.int (2 : Int32)), (.int (3 : Int32))] ∧ Z.Warmed39 U.vm ∧ U.heap = h0) (fun _ _ _ _ _ => True) (fun _ U o U' => ∃ v L, o = .returned v ∧ (PQ none h0 n0) v U'.heap L ∧ FrameEnd U o U' L ({ frames := 1, cells := 0, slots := 0, locals := 14 } : Room).cells ({ frames := 1, cells := 0, slots := 0, locals := 14 } : Room).slots) := by
  refine MetFree.of_bodySF (plainFor_of_name own_pn3) hisR ?_
  intro p e s m args below meth c s₁ Bd hml0 hP hK
  obtain ⟨rfl, hZ, hh⟩ := hP
  have hx := Bd.exec
  have hby := Bd.bytes
  have hml : c.maxLocals = 2 := hml0
  have hown : s.vm.findClass "java/lang/String" = some m.cls := findClass_of_methodNamed Bd.named
  have hnm := (name_of_methodNamed Bd.named Bd.method).1
  have X0 : Stand p l e ({ frames := 1, cells := 0, slots := 0, locals := 14 } : Room) s m #[(.int (2 : Int32)), (.int (3 : Int32))] below meth c s₁ [] 0 0 := Stand.of_body Bd
  have e0 : s₁.heap = h0 := by rw [← hh, Bd.state]; rfl
  have N0 := Fr.nil n0
  have pre0 : ∀ t, Steps p.tables e below (s₁.setTop (mkF m 0 #[.val (.int (2 : Int32)), .val (.int (3 : Int32))] [])) t → Steps p.tables e below (s₁.setTop (entryFrame m #[(.int (2 : Int32)), (.int (3 : Int32))] 2)) t := fun t k => castTop (own_ef_rm50 m p1 p2 p3 A K cs ) k
  have KK0 : Keep h0 h0 [] := Keep.refl _ _
  have pre325 : ∀ t, Steps p.tables e below (s₁.setTop (mkF m 2 #[.val (.int (2 : Int32)), .val (.int (3 : Int32))] [(.int (3 : Int32)), (.int (2 : Int32))])) t → Steps p.tables e below (s₁.setTop (entryFrame m #[(.int (2 : Int32)), (.int (3 : Int32))] 2)) t := fun t k => pre0 t (by
    show Steps p.tables e below (s₁.setTop (mkF m 0 #[.val (.int (2 : Int32)), .val (.int (3 : Int32))] [])) _
    refine XS.iloadN X0.here hx rfl (hb hby own_d_jdk_42_method_155_code_0) rfl ?_
    refine XS.iloadN X0.here hx rfl (hb hby own_d_jdk_42_method_155_code_1) rfl ?_
    exact k)
  rcases EN.2.2.2.2.2.2.2.1.2.2.1 with SF326 | ⟨af326, SF326⟩
  · obtain ⟨T327, X327, e327, st327⟩ := getS2 X0 hx hZ hown (host := "") (Or.inl (hw _ (List.mem_of_getElem? (i := 147) rfl))) Via.refl e0 (SF326.ext OL0.2) (g := (mkF m 2 #[.val (.int (2 : Int32)), .val (.int (3 : Int32))] [(.int (3 : Int32)), (.int (2 : Int32))])) rfl (hb hby own_d_jdk_42_method_155_code_2)
    obtain ⟨_, _, ⟨T328, L328, k328, n328⟩, -, X328, ⟨Lc328, hQ328, l328, y328, z328⟩, st328⟩ := Jvm.LawKit.callS X327 hx (y := own_m2) hown (mvT hZ (hw _ (List.mem_of_getElem? (i := 149) rfl))) (mvT hZ (hw _ (List.mem_of_getElem? (i := 150) rfl))) (mvT hZ (hw _ (List.mem_of_getElem? (i := 148) rfl))) (mvT hZ (hw _ (List.mem_of_getElem? (i := 151) rfl))) (by decide) (backOf (W := 0) (rm51 l Z a0 hw [] h0 n0 p1 p2 p3 A K cs EN OL0) hZ (hw _ (List.mem_of_getElem? (i := 151) rfl)) (hw _ (List.mem_of_getElem? (i := 148) rfl)) (by decide) (by decide)) (g := (mkF m 5 #[.val (.int (2 : Int32)), .val (.int (3 : Int32))] [.null, (.int (3 : Int32)), (.int (2 : Int32))])) rfl (by rw [hml]; rfl) (argsL := [(.int (2 : Int32)), (.int (3 : Int32)), .null]) (rest := []) (lenOf own_pd10 rfl) rfl (by show 2 * 0 + _ ≤ _; exact Nat.le_of_eq rfl) (hb hby own_d_jdk_42_method_155_code_5) (fun _ _ => ⟨rfl, e327, (by decide : 0 + 0 ≤ _), (by decide : 0 + 0 ≤ _)⟩)
    dsimp only [Pt.U, Pt.locs, Pt.cells, Pt.slots] at X328 l328 y328 z328 st328 hQ328
    replace X328 := own_sub X328 l328 y328 z328
    obtain ⟨rfl, N328q, e328⟩ := hQ328
    have N328 := Fr.app N0 N328q
    obtain ⟨fs, hr, hrun, hended, hW, hsame⟩ := X328.leave (v := none) (fun _ => rfl)
    refine ⟨_, _, pre325 _ ?_, hrun, hended, _, _, rfl, ?_, ⟨_, rfl⟩, hW, hsame.mono (by decide) (by decide)⟩
    · show Steps p.tables e below (s₁.setTop (mkF m 2 #[.val (.int (2 : Int32)), .val (.int (3 : Int32))] [(.int (3 : Int32)), (.int (2 : Int32))])) _
      refine st327 _ ?_
      show Steps p.tables e below (T327.setTop (mkF m 5 #[.val (.int (2 : Int32)), .val (.int (3 : Int32))] [.null, (.int (3 : Int32)), (.int (2 : Int32))])) _
      refine st328 _ ?_
      show Steps p.tables e below (T328.setTop (mkF m 8 #[.val (.int (2 : Int32)), .val (.int (3 : Int32))] [(.int (2 : Int32))])) _
      refine XS.pop X328.here hx rfl (hb hby own_d_jdk_42_method_155_code_8) rfl rfl ?_
      exact X328.returnOut hx Bd.returns (hb hby own_d_jdk_42_method_155_code_9) hr
    · show PQ none h0 n0 _ T328.heap _
      rw [e328]
      exact ⟨rfl, N328, rfl⟩
  · obtain ⟨T329, X329, e329, st329⟩ := getS2 X0 hx hZ hown (host := "") (Or.inl (hw _ (List.mem_of_getElem? (i := 147) rfl))) Via.refl e0 (SF326.ext OL0.2) (g := (mkF m 2 #[.val (.int (2 : Int32)), .val (.int (3 : Int32))] [(.int (3 : Int32)), (.int (2 : Int32))])) rfl (hb hby own_d_jdk_42_method_155_code_2)
    obtain ⟨_, _, ⟨T330, L330, k330, n330⟩, -, X330, ⟨Lc330, hQ330, l330, y330, z330⟩, st330⟩ := Jvm.LawKit.callS X329 hx (y := own_m2) hown (mvT hZ (hw _ (List.mem_of_getElem? (i := 149) rfl))) (mvT hZ (hw _ (List.mem_of_getElem? (i := 150) rfl))) (mvT hZ (hw _ (List.mem_of_getElem? (i := 148) rfl))) (mvT hZ (hw _ (List.mem_of_getElem? (i := 151) rfl))) (by decide) (backOf (W := 0) (rm52 l Z a0 hw [] h0 n0 p1 p2 p3 A K cs af326 EN OL0) hZ (hw _ (List.mem_of_getElem? (i := 151) rfl)) (hw _ (List.mem_of_getElem? (i := 148) rfl)) (by decide) (by decide)) (g := (mkF m 5 #[.val (.int (2 : Int32)), .val (.int (3 : Int32))] [(.ref af326), (.int (3 : Int32)), (.int (2 : Int32))])) rfl (by rw [hml]; rfl) (argsL := [(.int (2 : Int32)), (.int (3 : Int32)), (.ref af326)]) (rest := []) (lenOf own_pd10 rfl) rfl (by show 2 * 0 + _ ≤ _; exact Nat.le_of_eq rfl) (hb hby own_d_jdk_42_method_155_code_5) (fun _ _ => ⟨rfl, e329, (by decide : 0 + 0 ≤ _), (by decide : 0 + 0 ≤ _)⟩)
    dsimp only [Pt.U, Pt.locs, Pt.cells, Pt.slots] at X330 l330 y330 z330 st330 hQ330
    replace X330 := own_sub X330 l330 y330 z330
    obtain ⟨rfl, N330q, e330⟩ := hQ330
    have N330 := Fr.app N0 N330q
    obtain ⟨fs, hr, hrun, hended, hW, hsame⟩ := X330.leave (v := none) (fun _ => rfl)
    refine ⟨_, _, pre325 _ ?_, hrun, hended, _, _, rfl, ?_, ⟨_, rfl⟩, hW, hsame.mono (by decide) (by decide)⟩
    · show Steps p.tables e below (s₁.setTop (mkF m 2 #[.val (.int (2 : Int32)), .val (.int (3 : Int32))] [(.int (3 : Int32)), (.int (2 : Int32))])) _
      refine st329 _ ?_
      show Steps p.tables e below (T329.setTop (mkF m 5 #[.val (.int (2 : Int32)), .val (.int (3 : Int32))] [(.ref af326), (.int (3 : Int32)), (.int (2 : Int32))])) _
      refine st330 _ ?_
      show Steps p.tables e below (T330.setTop (mkF m 8 #[.val (.int (2 : Int32)), .val (.int (3 : Int32))] [(.int (2 : Int32))])) _
      refine XS.pop X330.here hx rfl (hb hby own_d_jdk_42_method_155_code_8) rfl rfl ?_
      exact X330.returnOut hx Bd.returns (hb hby own_d_jdk_42_method_155_code_9) hr
    · show PQ none h0 n0 _ T330.heap _
      rw [e330]
      exact ⟨rfl, N330, rfl⟩
theorem own_ef_rm49 (m : MethodId) (p1 : Int32) (p2 : Int32) (p3 : Int32) (A : Nat → Addr) (K : Nat → ClassId) (cs : Int32)  (b287_b284_b273_b270 : Addr) (k287_k284_k273_k270 : ClassId) : entryFrame m #[(.ref b287_b284_b273_b270), (.int (2 : Int32))] 2 = mkF m 0 #[.val (.ref b287_b284_b273_b270), .val (.int (2 : Int32))] [] := by first | (simp [entryFrame, mkF, argsToLocals, Value.category, maxLocals]; done) | rfl
set_option maxRecDepth 65536 in
set_option maxHeartbeats 40000000 in
theorem rm49 (l : Launch) (Z : State) (a0 : Array Value) (hw : ∀ d ∈ tables_1, d.before a0 Z = true) (ws : List Jvm.Cond) (h0 : Heap) (n0 : Nat) (p1 : Int32) (p2 : Int32) (p3 : Int32) (A : Nat → Addr) (K : Nat → ClassId) (cs : Int32)  (b287_b284_b273_b270 : Addr) (k287_k284_k273_k270 : ClassId) (EN : own_St Z A K cs) (OL0 : Old Z n0 h0) (G_A_b287_b284_b273_b270 : Arv Z h0 b287_b284_b273_b270 k287_k284_k273_k270 .byte (3 : Int32) [(.int (nar .byte ((nar .char (own_C p2)).toInt8.toInt32))), (.int (32 : Int32)), (.int (nar .byte ((nar .char (own_C p3)).toInt8.toInt32)))] (.int (0 : Int32))) :
    MetFree l own_m10 (head1 (Jvm.Cond.code own_m10 jdk_43_method_2_code 2 (some .char) :: ws) ({ frames := 2, cells := 0, slots := 0, locals := 27 } : Room)) (fun a U => a = #[(.ref b287_b284_b273_b270), (.int (2 : Int32))] ∧ Z.Warmed39 U.vm ∧ U.heap = h0) (fun _ _ _ _ _ => True) (fun _ U o U' => ∃ v L, o = .returned v ∧ (PQ (some (.int (nar .char (((nar .byte ((nar .char (own_C p3)).toInt8.toInt32)) &&& (255 : Int32)).toUInt32.toUInt16.toUInt32.toInt32)))) h0 n0) v U'.heap L ∧ FrameEnd U o U' L ({ frames := 2, cells := 0, slots := 0, locals := 27 } : Room).cells ({ frames := 2, cells := 0, slots := 0, locals := 27 } : Room).slots) := by
  refine MetFree.of_bodySF (plainFor_of_name own_pn6) hisR ?_
  intro p e s m args below meth c s₁ Bd hml0 hP hK
  obtain ⟨rfl, hZ, hh⟩ := hP
  have hx := Bd.exec
  have hby := Bd.bytes
  have hml : c.maxLocals = 2 := hml0
  have hown : s.vm.findClass "java/lang/StringLatin1" = some m.cls := findClass_of_methodNamed Bd.named
  have hnm := (name_of_methodNamed Bd.named Bd.method).1
  have X0 : Stand p l e ({ frames := 2, cells := 0, slots := 0, locals := 27 } : Room) s m #[(.ref b287_b284_b273_b270), (.int (2 : Int32))] below meth c s₁ [] 0 0 := Stand.of_body Bd
  have e0 : s₁.heap = h0 := by rw [← hh, Bd.state]; rfl
  have N0 := Fr.nil n0
  have pre0 : ∀ t, Steps p.tables e below (s₁.setTop (mkF m 0 #[.val (.ref b287_b284_b273_b270), .val (.int (2 : Int32))] [])) t → Steps p.tables e below (s₁.setTop (entryFrame m #[(.ref b287_b284_b273_b270), (.int (2 : Int32))] 2)) t := fun t k => castTop (own_ef_rm49 m p1 p2 p3 A K cs b287_b284_b273_b270 k287_k284_k273_k270) k
  have KK0 : Keep h0 h0 [] := Keep.refl _ _
  obtain ⟨cl324, Ar324, -, Sz324, Nn324, -, -⟩ := (id G_A_b287_b284_b273_b270)
  obtain ⟨_, _, ⟨T331, L331, k331, n331⟩, -, X331, ⟨Lc331, hQ331, l331, y331, z331⟩, st331⟩ := Jvm.LawKit.callS X0 hx (y := own_m9) hown (mvT hZ (hw _ (List.mem_of_getElem? (i := 144) rfl))) (mvT hZ (hw _ (List.mem_of_getElem? (i := 145) rfl))) (mvT hZ (hw _ (List.mem_of_getElem? (i := 76) rfl))) (mvT hZ (hw _ (List.mem_of_getElem? (i := 146) rfl))) (by decide) (backOf (W := 0) (rm50 l Z a0 hw [] h0 n0 p1 p2 p3 A K cs EN OL0) hZ (hw _ (List.mem_of_getElem? (i := 146) rfl)) (hw _ (List.mem_of_getElem? (i := 76) rfl)) (by decide) (by decide)) (g := (mkF m 3 #[.val (.ref b287_b284_b273_b270), .val (.int (2 : Int32))] [(.int (3 : Int32)), (.int (2 : Int32))])) rfl (by rw [hml]; rfl) (argsL := [(.int (2 : Int32)), (.int (3 : Int32))]) (rest := []) (lenOf own_pd11 rfl) rfl (by show 2 * 0 + _ ≤ _; exact Nat.le_of_eq rfl) (hb hby own_d_jdk_43_method_2_code_3) (fun _ _ => ⟨rfl, e0, (by decide : 0 + 0 ≤ _), (by decide : 0 + 0 ≤ _)⟩)
  dsimp only [Pt.U, Pt.locs, Pt.cells, Pt.slots] at X331 l331 y331 z331 st331 hQ331
  replace X331 := own_sub X331 l331 y331 z331
  obtain ⟨rfl, N331q, e331⟩ := hQ331
  have N331 := Fr.app N0 N331q
  obtain ⟨cl332, Ar332, q332, Sz332, Nn332, Hh332, Gg332⟩ := (id G_A_b287_b284_b273_b270)
  have hin332 : ¬ ((2 : Int32) < 0 ∨ cl332.slots.size ≤ ((2 : Int32)).toNatClampNeg) := inb_of Sz332 ⟨by decide, by decide⟩
  have hat332 : cl332.slots[((2 : Int32)).toNatClampNeg]? = some (.int (nar .byte ((nar .char (own_C p3)).toInt8.toInt32))) := Has.at Hh332 hin332 rfl
  obtain ⟨fs, hr, hrun, hended, hW, hsame⟩ := X331.leave (v := some (.int (nar .char (((nar .byte ((nar .char (own_C p3)).toInt8.toInt32)) &&& (255 : Int32)).toUInt32.toUInt16.toUInt32.toInt32)))) (fun h => by rw [Bd.returns] at h; cases h)
  refine ⟨_, _, pre0 _ ?_, hrun, hended, _, _, rfl, ?_, ⟨_, rfl⟩, hW, hsame.mono (by decide) (by decide)⟩
  · show Steps p.tables e below (s₁.setTop (mkF m 0 #[.val (.ref b287_b284_b273_b270), .val (.int (2 : Int32))] [])) _
    refine XS.iloadN X0.here hx rfl (hb hby own_d_jdk_43_method_2_code_0) rfl ?_
    refine XS.aloadN X0.here hx rfl (hb hby own_d_jdk_43_method_2_code_1) rfl rfl ?_
    refine X0.arraylength hx (by rw [e0]; exact Ar324.1) (State.isArrayOf_alike hZ.alike Ar324.2.1) (g := (mkF m 2 #[.val (.ref b287_b284_b273_b270), .val (.int (2 : Int32))] [(.ref b287_b284_b273_b270), (.int (2 : Int32))])) rfl rfl (hb hby own_d_jdk_43_method_2_code_2) _ ?_
    rw [len_of Sz324 Nn324]
    show Steps p.tables e below (s₁.setTop (mkF m 3 #[.val (.ref b287_b284_b273_b270), .val (.int (2 : Int32))] [(.int (3 : Int32)), (.int (2 : Int32))])) _
    refine st331 _ ?_
    show Steps p.tables e below (T331.setTop (mkF m 6 #[.val (.ref b287_b284_b273_b270), .val (.int (2 : Int32))] [])) _
    refine XS.aloadN X331.here hx rfl (hb hby own_d_jdk_43_method_2_code_6) rfl rfl ?_
    refine XS.iloadN X331.here hx rfl (hb hby own_d_jdk_43_method_2_code_7) rfl ?_
    refine X331.baloadBytes hx (j := (2 : Int32)) (v := (.int (nar .byte ((nar .char (own_C p3)).toInt8.toInt32)))) (by rw [e331]; exact Ar332.1) (State.isArrayOf_alike hZ.alike Ar332.2.1) Ar332.2.2 hin332 hat332 (g := (mkF m 8 #[.val (.ref b287_b284_b273_b270), .val (.int (2 : Int32))] [(.int (2 : Int32)), (.ref b287_b284_b273_b270)])) rfl rfl (hb hby own_d_jdk_43_method_2_code_8) _ ?_
    show Steps p.tables e below (T331.setTop (mkF m 9 #[.val (.ref b287_b284_b273_b270), .val (.int (2 : Int32))] [(.int (nar .byte ((nar .char (own_C p3)).toInt8.toInt32)))])) _
    refine XS.sipush X331.here hx rfl (hb hby own_d_jdk_43_method_2_code_9) ?_
    refine XS.iand X331.here hx rfl (hb hby own_d_jdk_43_method_2_code_12) rfl ?_
    show Steps p.tables e below (T331.setTop (mkF m 13 #[.val (.ref b287_b284_b273_b270), .val (.int (2 : Int32))] [(.int ((nar .byte ((nar .char (own_C p3)).toInt8.toInt32)) &&& (255 : Int32)))])) _
    refine XS.i2c X331.here hx rfl (hb hby own_d_jdk_43_method_2_code_13) rfl ?_
    show Steps p.tables e below (T331.setTop (mkF m 14 #[.val (.ref b287_b284_b273_b270), .val (.int (2 : Int32))] [(.int (((nar .byte ((nar .char (own_C p3)).toInt8.toInt32)) &&& (255 : Int32)).toUInt32.toUInt16.toUInt32.toInt32))])) _
    exact retN X331 hx (t := .char) Bd.returns (by simp) (hb hby own_d_jdk_43_method_2_code_14) hr
  · show PQ (some (.int (nar .char (((nar .byte ((nar .char (own_C p3)).toInt8.toInt32)) &&& (255 : Int32)).toUInt32.toUInt16.toUInt32.toInt32)))) h0 n0 _ T331.heap _
    rw [e331]
    exact ⟨rfl, N331, rfl⟩
theorem own_ef_rm48 (m : MethodId) (p1 : Int32) (p2 : Int32) (p3 : Int32) (A : Nat → Addr) (K : Nat → ClassId) (cs : Int32)  (b265 : Addr) (b287_b284_b273_b270 : Addr) (k287_k284_k273_k270 : ClassId) : entryFrame m #[(.ref b265), (.int (2 : Int32))] 2 = mkF m 0 #[.val (.ref b265), .val (.int (2 : Int32))] [] := by first | (simp [entryFrame, mkF, argsToLocals, Value.category, maxLocals]; done) | rfl
set_option maxRecDepth 65536 in
set_option maxHeartbeats 40000000 in
theorem rm48 (l : Launch) (Z : State) (a0 : Array Value) (hw : ∀ d ∈ tables_1, d.before a0 Z = true) (ws : List Jvm.Cond) (h0 : Heap) (n0 : Nat) (p1 : Int32) (p2 : Int32) (p3 : Int32) (A : Nat → Addr) (K : Nat → ClassId) (cs : Int32)  (b265 : Addr) (b287_b284_b273_b270 : Addr) (k287_k284_k273_k270 : ClassId) (EN : own_St Z A K cs) (OL0 : Old Z n0 h0) (G_E_b265 : Exa Z h0 b265 "java/lang/String") (G_F_b265_java_lang_String_coder : Fld Z h0 b265 "java/lang/String" "coder" "B" (.int (0 : Int32))) (G_F_b265_java_lang_String_value : Fld Z h0 b265 "java/lang/String" "value" "[B" (.ref b287_b284_b273_b270)) (G_A_b287_b284_b273_b270 : Arv Z h0 b287_b284_b273_b270 k287_k284_k273_k270 .byte (3 : Int32) [(.int (nar .byte ((nar .char (own_C p2)).toInt8.toInt32))), (.int (32 : Int32)), (.int (nar .byte ((nar .char (own_C p3)).toInt8.toInt32)))] (.int (0 : Int32))) :
    MetFree l own_m4 (head1 (Jvm.Cond.code own_m4 jdk_42_method_56_code 2 (some .char) :: ws) ({ frames := 3, cells := 0, slots := 0, locals := 40 } : Room)) (fun a U => a = #[(.ref b265), (.int (2 : Int32))] ∧ Z.Warmed39 U.vm ∧ U.heap = h0) (fun _ _ _ _ _ => True) (fun _ U o U' => ∃ v L, o = .returned v ∧ (PQ (some (.int (nar .char (nar .char (((nar .byte ((nar .char (own_C p3)).toInt8.toInt32)) &&& (255 : Int32)).toUInt32.toUInt16.toUInt32.toInt32))))) h0 n0) v U'.heap L ∧ FrameEnd U o U' L ({ frames := 3, cells := 0, slots := 0, locals := 40 } : Room).cells ({ frames := 3, cells := 0, slots := 0, locals := 40 } : Room).slots) := by
  refine MetFree.of_bodySF (plainFor_of_name own_pn3) hisR ?_
  intro p e s m args below meth c s₁ Bd hml0 hP hK
  obtain ⟨rfl, hZ, hh⟩ := hP
  have hx := Bd.exec
  have hby := Bd.bytes
  have hml : c.maxLocals = 2 := hml0
  have hown : s.vm.findClass "java/lang/String" = some m.cls := findClass_of_methodNamed Bd.named
  have hnm := (name_of_methodNamed Bd.named Bd.method).1
  have X0 : Stand p l e ({ frames := 3, cells := 0, slots := 0, locals := 40 } : Room) s m #[(.ref b265), (.int (2 : Int32))] below meth c s₁ [] 0 0 := Stand.of_body Bd
  have e0 : s₁.heap = h0 := by rw [← hh, Bd.state]; rfl
  have N0 := Fr.nil n0
  have pre0 : ∀ t, Steps p.tables e below (s₁.setTop (mkF m 0 #[.val (.ref b265), .val (.int (2 : Int32))] [])) t → Steps p.tables e below (s₁.setTop (entryFrame m #[(.ref b265), (.int (2 : Int32))] 2)) t := fun t k => castTop (own_ef_rm48 m p1 p2 p3 A K cs b265 b287_b284_b273_b270 k287_k284_k273_k270) k
  have KK0 : Keep h0 h0 [] := Keep.refl _ _
  obtain ⟨cq322, kq322, q322a, q322b, q322c⟩ := isOf hZ e0 G_E_b265
  obtain ⟨_, _, ⟨T322, L322, k322, n322⟩, -, X322, ⟨Lc322, hQ322, l322, y322, z322⟩, st322⟩ := X0.virtualBack hx (y := own_m12) (z := own_m12) hown (mvT hZ (hw _ (List.mem_of_getElem? (i := 135) rfl))) (mvT hZ (hw _ (List.mem_of_getElem? (i := 136) rfl))) (notFace_of_selects (args := #[]) (mvT hZ (hw _ (List.mem_of_getElem? (i := 138) rfl)))) (mvT hZ (hw _ (List.mem_of_getElem? (i := 138) rfl))) (mvT hZ (hw _ (List.mem_of_getElem? (i := 137) rfl))) (by decide) (backOf (W := 0) (rm38 l Z a0 hw [] h0 n0 p1 p2 p3 A K cs b265 EN OL0 G_F_b265_java_lang_String_coder) hZ (hw _ (List.mem_of_getElem? (i := 139) rfl)) (hw _ (List.mem_of_getElem? (i := 76) rfl)) (by decide) (by decide)) q322a q322c (g := (mkF m 1 #[.val (.ref b265), .val (.int (2 : Int32))] [(.ref b265)])) rfl (by rw [hml]; rfl) (Steps.refl _) (argsL := []) (rest := []) (lenOf own_pd0 rfl) rfl (by show 2 * 0 + _ ≤ _; exact Nat.le_of_eq rfl) (hb hby own_d_jdk_42_method_56_code_1) (fun _ _ => ⟨rfl, e0, (by decide : 0 + 0 ≤ _), (by decide : 0 + 0 ≤ _)⟩)
  dsimp only [Pt.U, Pt.locs, Pt.cells, Pt.slots] at X322 l322 y322 z322 st322 hQ322
  replace X322 := own_sub X322 l322 y322 z322
  obtain ⟨rfl, N322q, e322⟩ := hQ322
  have N322 := Fr.app N0 N322q
  obtain ⟨T323, X323, e323, st323⟩ := getF X322 hx hZ hown (host := "") (Or.inl (hw _ (List.mem_of_getElem? (i := 101) rfl))) Via.refl e322 G_F_b265_java_lang_String_value (g := (mkF m 8 #[.val (.ref b265), .val (.int (2 : Int32))] [(.ref b265)])) rfl rfl (hb hby own_d_jdk_42_method_56_code_8)
  obtain ⟨_, _, ⟨T333, L333, k333, n333⟩, -, X333, ⟨Lc333, hQ333, l333, y333, z333⟩, st333⟩ := Jvm.LawKit.callS X323 hx (y := own_m10) hown (mvT hZ (hw _ (List.mem_of_getElem? (i := 140) rfl))) (mvT hZ (hw _ (List.mem_of_getElem? (i := 141) rfl))) (mvT hZ (hw _ (List.mem_of_getElem? (i := 142) rfl))) (mvT hZ (hw _ (List.mem_of_getElem? (i := 143) rfl))) (by decide) (backOf (W := 0) (rm49 l Z a0 hw [] h0 n0 p1 p2 p3 A K cs b287_b284_b273_b270 k287_k284_k273_k270 EN OL0 G_A_b287_b284_b273_b270) hZ (hw _ (List.mem_of_getElem? (i := 143) rfl)) (hw _ (List.mem_of_getElem? (i := 142) rfl)) (by decide) (by decide)) (g := (mkF m 12 #[.val (.ref b265), .val (.int (2 : Int32))] [(.int (2 : Int32)), (.ref b287_b284_b273_b270)])) rfl (by rw [hml]; rfl) (argsL := [(.ref b287_b284_b273_b270), (.int (2 : Int32))]) (rest := []) (lenOf own_pd12 rfl) rfl (by show 2 * 0 + _ ≤ _; exact Nat.le_of_eq rfl) (hb hby own_d_jdk_42_method_56_code_12) (fun _ _ => ⟨rfl, e323, (by decide : 0 + 0 ≤ _), (by decide : 0 + 0 ≤ _)⟩)
  dsimp only [Pt.U, Pt.locs, Pt.cells, Pt.slots] at X333 l333 y333 z333 st333 hQ333
  replace X333 := own_sub X333 l333 y333 z333
  obtain ⟨rfl, N333q, e333⟩ := hQ333
  have N333 := Fr.app N322 N333q
  obtain ⟨fs, hr, hrun, hended, hW, hsame⟩ := X333.leave (v := some (.int (nar .char (nar .char (((nar .byte ((nar .char (own_C p3)).toInt8.toInt32)) &&& (255 : Int32)).toUInt32.toUInt16.toUInt32.toInt32))))) (fun h => by rw [Bd.returns] at h; cases h)
  refine ⟨_, _, pre0 _ ?_, hrun, hended, _, _, rfl, ?_, ⟨_, rfl⟩, hW, hsame.mono (by decide) (by decide)⟩
  · show Steps p.tables e below (s₁.setTop (mkF m 0 #[.val (.ref b265), .val (.int (2 : Int32))] [])) _
    refine XS.aloadN X0.here hx rfl (hb hby own_d_jdk_42_method_56_code_0) rfl rfl ?_
    refine st322.trans ?_
    show Steps p.tables e below (T322.setTop (mkF m 4 #[.val (.ref b265), .val (.int (2 : Int32))] [(.int (1 : Int32))])) _
    refine XS.ifNo X322.here hx rfl (hb hby own_d_jdk_42_method_56_code_4) rfl ((if0 _ _).trans (feq (by decide : ¬ ((1 : Int32) = (0 : Int32)))).1) ?_
    show Steps p.tables e below (T322.setTop (mkF m 7 #[.val (.ref b265), .val (.int (2 : Int32))] [])) _
    refine XS.aloadN X322.here hx rfl (hb hby own_d_jdk_42_method_56_code_7) rfl rfl ?_
    refine st323 _ ?_
    show Steps p.tables e below (T323.setTop (mkF m 11 #[.val (.ref b265), .val (.int (2 : Int32))] [(.ref b287_b284_b273_b270)])) _
    refine XS.iloadN X323.here hx rfl (hb hby own_d_jdk_42_method_56_code_11) rfl ?_
    refine st333 _ ?_
    show Steps p.tables e below (T333.setTop (mkF m 15 #[.val (.ref b265), .val (.int (2 : Int32))] [(.int (nar .char (((nar .byte ((nar .char (own_C p3)).toInt8.toInt32)) &&& (255 : Int32)).toUInt32.toUInt16.toUInt32.toInt32)))])) _
    exact retN X333 hx (t := .char) Bd.returns (by simp) (hb hby own_d_jdk_42_method_56_code_15) hr
  · show PQ (some (.int (nar .char (nar .char (((nar .byte ((nar .char (own_C p3)).toInt8.toInt32)) &&& (255 : Int32)).toUInt32.toUInt16.toUInt32.toInt32))))) h0 n0 _ T333.heap _
    rw [e333]
    exact ⟨rfl, N333, rfl⟩
theorem own_d_prog_40_method_14_code_0 : decode prog_40_method_14_code 0 = .ok (.iconst 0, 1) := by decide +kernel
theorem own_d_prog_40_method_14_code_1 : decode prog_40_method_14_code 1 = .ok (.istore_n 1, 1) := by decide +kernel
theorem own_d_prog_40_method_14_code_2 : decode prog_40_method_14_code 2 = .ok (.iload_n 1, 1) := by decide +kernel
theorem own_d_prog_40_method_14_code_3 : decode prog_40_method_14_code 3 = .ok (.aload_n 0, 1) := by decide +kernel
theorem own_d_prog_40_method_14_code_4 : decode prog_40_method_14_code 4 = .ok (.invokevirtual 107, 3) := by decide +kernel
theorem own_d_prog_40_method_14_code_7 : decode prog_40_method_14_code 7 = .ok (.if_icmp .ge 41, 3) := by decide +kernel
theorem own_d_prog_40_method_14_code_10 : decode prog_40_method_14_code 10 = .ok (.aload_n 0, 1) := by decide +kernel
theorem own_d_prog_40_method_14_code_11 : decode prog_40_method_14_code 11 = .ok (.iload_n 1, 1) := by decide +kernel
theorem own_d_prog_40_method_14_code_12 : decode prog_40_method_14_code 12 = .ok (.invokevirtual 168, 3) := by decide +kernel
theorem own_d_prog_40_method_14_code_15 : decode prog_40_method_14_code 15 = .ok (.bipush 32, 2) := by decide +kernel
theorem own_d_prog_40_method_14_code_17 : decode prog_40_method_14_code 17 = .ok (.if_icmp .ne 7, 3) := by decide +kernel
theorem own_d_prog_40_method_14_code_20 : decode prog_40_method_14_code 20 = .ok (.iconst 1, 1) := by decide +kernel
theorem own_d_prog_40_method_14_code_21 : decode prog_40_method_14_code 21 = .ok (.goto 4, 3) := by decide +kernel
theorem own_d_prog_40_method_14_code_24 : decode prog_40_method_14_code 24 = .ok (.iconst 0, 1) := by decide +kernel
theorem own_d_prog_40_method_14_code_25 : decode prog_40_method_14_code 25 = .ok (.iload_n 1, 1) := by decide +kernel
theorem own_d_prog_40_method_14_code_26 : decode prog_40_method_14_code 26 = .ok (.iconst 2, 1) := by decide +kernel
theorem own_d_prog_40_method_14_code_27 : decode prog_40_method_14_code 27 = .ok (.irem, 1) := by decide +kernel
theorem own_d_prog_40_method_14_code_28 : decode prog_40_method_14_code 28 = .ok (.iconst 1, 1) := by decide +kernel
theorem own_d_prog_40_method_14_code_29 : decode prog_40_method_14_code 29 = .ok (.if_icmp .ne 7, 3) := by decide +kernel
theorem own_d_prog_40_method_14_code_32 : decode prog_40_method_14_code 32 = .ok (.iconst 1, 1) := by decide +kernel
theorem own_d_prog_40_method_14_code_33 : decode prog_40_method_14_code 33 = .ok (.goto 4, 3) := by decide +kernel
theorem own_d_prog_40_method_14_code_36 : decode prog_40_method_14_code 36 = .ok (.iconst 0, 1) := by decide +kernel
theorem own_d_prog_40_method_14_code_37 : decode prog_40_method_14_code 37 = .ok (.if_icmp .eq 5, 3) := by decide +kernel
theorem own_d_prog_40_method_14_code_42 : decode prog_40_method_14_code 42 = .ok (.iinc 1 1, 3) := by decide +kernel
theorem own_d_prog_40_method_14_code_45 : decode prog_40_method_14_code 45 = .ok (.goto (-43), 3) := by decide +kernel
theorem own_d_prog_40_method_14_code_48 : decode prog_40_method_14_code 48 = .ok (.aload_n 0, 1) := by decide +kernel
theorem own_d_prog_40_method_14_code_49 : decode prog_40_method_14_code 49 = .ok (.invokevirtual 107, 3) := by decide +kernel
theorem own_d_prog_40_method_14_code_52 : decode prog_40_method_14_code 52 = .ok (.iconst 2, 1) := by decide +kernel
theorem own_d_prog_40_method_14_code_53 : decode prog_40_method_14_code 53 = .ok (.irem, 1) := by decide +kernel
theorem own_d_prog_40_method_14_code_54 : decode prog_40_method_14_code 54 = .ok (.iconst 1, 1) := by decide +kernel
theorem own_d_prog_40_method_14_code_55 : decode prog_40_method_14_code 55 = .ok (.if_icmp .ne 7, 3) := by decide +kernel
theorem own_d_prog_40_method_14_code_58 : decode prog_40_method_14_code 58 = .ok (.iconst 1, 1) := by decide +kernel
theorem own_d_prog_40_method_14_code_59 : decode prog_40_method_14_code 59 = .ok (.goto 4, 3) := by decide +kernel
theorem own_d_prog_40_method_14_code_63 : decode prog_40_method_14_code 63 = .ok (.ireturn, 1) := by decide +kernel
theorem own_ef_rm36 (m : MethodId) (p1 : Int32) (p2 : Int32) (p3 : Int32) (A : Nat → Addr) (K : Nat → ClassId) (cs : Int32)  (b265 : Addr) (b287_b284_b273_b270 : Addr) (k287_k284_k273_k270 : ClassId) : entryFrame m #[(.ref b265)] 2 = mkF m 0 #[.val (.ref b265), .unset] [] := by first | (simp [entryFrame, mkF, argsToLocals, Value.category, maxLocals]; done) | rfl
set_option maxRecDepth 65536 in
set_option maxHeartbeats 40000000 in
theorem rm36 (l : Launch) (Z : State) (a0 : Array Value) (hw : ∀ d ∈ tables_1, d.before a0 Z = true) (ws : List Jvm.Cond) (h0 : Heap) (n0 : Nat) (p1 : Int32) (p2 : Int32) (p3 : Int32) (A : Nat → Addr) (K : Nat → ClassId) (cs : Int32)  (b265 : Addr) (b287_b284_b273_b270 : Addr) (k287_k284_k273_k270 : ClassId) (EN : own_St Z A K cs) (OL0 : Old Z n0 h0) (G_E_b265 : Exa Z h0 b265 "java/lang/String") (G_F_b265_java_lang_String_value : Fld Z h0 b265 "java/lang/String" "value" "[B" (.ref b287_b284_b273_b270)) (G_A_b287_b284_b273_b270 : Arv Z h0 b287_b284_b273_b270 k287_k284_k273_k270 .byte (3 : Int32) [(.int (nar .byte ((nar .char (own_C p2)).toInt8.toInt32))), (.int (32 : Int32)), (.int (nar .byte ((nar .char (own_C p3)).toInt8.toInt32)))] (.int (0 : Int32))) (G_F_b265_java_lang_String_coder : Fld Z h0 b265 "java/lang/String" "coder" "B" (.int (0 : Int32))) :
    MetFree l own_m17 (head1 (Jvm.Cond.code own_m17 prog_40_method_14_code 2 (some .boolean) :: ws) ({ frames := 4, cells := 0, slots := 0, locals := 53 } : Room)) (fun a U => a = #[(.ref b265)] ∧ Z.Warmed39 U.vm ∧ U.heap = h0) (fun _ _ _ _ _ => True) (fun _ U o U' => ∃ v L, o = .returned v ∧ (PQ (some (.int (1 : Int32))) h0 n0) v U'.heap L ∧ FrameEnd U o U' L ({ frames := 4, cells := 0, slots := 0, locals := 53 } : Room).cells ({ frames := 4, cells := 0, slots := 0, locals := 53 } : Room).slots) := by
  refine MetFree.of_bodySF (plainFor_of_name own_pn1) hisR ?_
  intro p e s m args below meth c s₁ Bd hml0 hP hK
  obtain ⟨rfl, hZ, hh⟩ := hP
  have hx := Bd.exec
  have hby := Bd.bytes
  have hml : c.maxLocals = 2 := hml0
  have hown : s.vm.findClass "com/example/tallywire/tallywire/wire/FieldType" = some m.cls := findClass_of_methodNamed Bd.named
  have hnm := (name_of_methodNamed Bd.named Bd.method).1
  have X0 : Stand p l e ({ frames := 4, cells := 0, slots := 0, locals := 53 } : Room) s m #[(.ref b265)] below meth c s₁ [] 0 0 := Stand.of_body Bd
  have e0 : s₁.heap = h0 := by rw [← hh, Bd.state]; rfl
  have N0 := Fr.nil n0
  have pre0 : ∀ t, Steps p.tables e below (s₁.setTop (mkF m 0 #[.val (.ref b265), .unset] [])) t → Steps p.tables e below (s₁.setTop (entryFrame m #[(.ref b265)] 2)) t := fun t k => castTop (own_ef_rm36 m p1 p2 p3 A K cs b265 b287_b284_b273_b270 k287_k284_k273_k270) k
  have KK0 : Keep h0 h0 [] := Keep.refl _ _
  obtain ⟨cq291, kq291, q291a, q291b, q291c⟩ := isOf hZ e0 G_E_b265
  obtain ⟨_, _, ⟨T291, L291, k291, n291⟩, -, X291, ⟨Lc291, hQ291, l291, y291, z291⟩, st291⟩ := X0.virtualBack hx (y := own_m1) (z := own_m1) hown (mvT hZ (hw _ (List.mem_of_getElem? (i := 108) rfl))) (mvT hZ (hw _ (List.mem_of_getElem? (i := 109) rfl))) (notFace_of_selects (args := #[]) (mvT hZ (hw _ (List.mem_of_getElem? (i := 111) rfl)))) (mvT hZ (hw _ (List.mem_of_getElem? (i := 111) rfl))) (mvT hZ (hw _ (List.mem_of_getElem? (i := 110) rfl))) (by decide) (backOf (W := 1) (rm21 l Z a0 hw [] h0 n0 p1 p2 p3 A K cs b265 b287_b284_b273_b270 k287_k284_k273_k270 EN OL0 G_F_b265_java_lang_String_value G_A_b287_b284_b273_b270 G_E_b265 G_F_b265_java_lang_String_coder) hZ (hw _ (List.mem_of_getElem? (i := 112) rfl)) (hw _ (List.mem_of_getElem? (i := 76) rfl)) (by decide) (by decide)) q291a q291c (g := (mkF m 4 #[.val (.ref b265), .val (.int (0 : Int32))] [(.ref b265), (.int (0 : Int32))])) rfl (by rw [hml]; rfl) (Steps.refl _) (argsL := []) (rest := [(.int (0 : Int32))]) (lenOf own_pd8 rfl) rfl (by show 2 * 0 + _ ≤ _; exact Nat.le_of_eq rfl) (hb hby own_d_prog_40_method_14_code_4) (fun _ _ => ⟨rfl, e0, (by decide : 0 + 0 ≤ _), (by decide : 0 + 0 ≤ _)⟩)
  dsimp only [Pt.U, Pt.locs, Pt.cells, Pt.slots] at X291 l291 y291 z291 st291 hQ291
  replace X291 := own_sub X291 l291 y291 z291
  obtain ⟨rfl, N291q, e291⟩ := hQ291
  have N291 := Fr.app N0 N291q
  obtain ⟨cq306, kq306, q306a, q306b, q306c⟩ := isOf hZ e291 G_E_b265
  obtain ⟨_, _, ⟨T306, L306, k306, n306⟩, -, X306, ⟨Lc306, hQ306, l306, y306, z306⟩, st306⟩ := X291.virtualBack hx (y := own_m4) (z := own_m4) hown (mvT hZ (hw _ (List.mem_of_getElem? (i := 130) rfl))) (mvT hZ (hw _ (List.mem_of_getElem? (i := 131) rfl))) (notFace_of_selects (args := #[]) (mvT hZ (hw _ (List.mem_of_getElem? (i := 133) rfl)))) (mvT hZ (hw _ (List.mem_of_getElem? (i := 133) rfl))) (mvT hZ (hw _ (List.mem_of_getElem? (i := 132) rfl))) (by decide) (backOf (W := 0) (rm37 l Z a0 hw [] h0 n0 p1 p2 p3 A K cs b265 b287_b284_b273_b270 k287_k284_k273_k270 EN OL0 G_E_b265 G_F_b265_java_lang_String_coder G_F_b265_java_lang_String_value G_A_b287_b284_b273_b270) hZ (hw _ (List.mem_of_getElem? (i := 134) rfl)) (hw _ (List.mem_of_getElem? (i := 76) rfl)) (by decide) (by decide)) q306a q306c (g := (mkF m 12 #[.val (.ref b265), .val (.int (0 : Int32))] [(.int (0 : Int32)), (.ref b265)])) rfl (by rw [hml]; rfl) (Steps.refl _) (argsL := [(.int (0 : Int32))]) (rest := []) (lenOf own_pd1 rfl) rfl (by show 2 * 0 + _ ≤ _; exact Nat.le_of_eq rfl) (hb hby own_d_prog_40_method_14_code_12) (fun _ _ => ⟨rfl, e291, (by decide : 0 + 0 ≤ _), (by decide : 0 + 0 ≤ _)⟩)
  dsimp only [Pt.U, Pt.locs, Pt.cells, Pt.slots] at X306 l306 y306 z306 st306 hQ306
  replace X306 := own_sub X306 l306 y306 z306
  obtain ⟨rfl, N306q, e306⟩ := hQ306
  have N306 := Fr.app N291 N306q
  obtain ⟨cq307, kq307, q307a, q307b, q307c⟩ := isOf hZ e306 G_E_b265
  obtain ⟨_, _, ⟨T307, L307, k307, n307⟩, -, X307, ⟨Lc307, hQ307, l307, y307, z307⟩, st307⟩ := X306.virtualBack hx (y := own_m1) (z := own_m1) hown (mvT hZ (hw _ (List.mem_of_getElem? (i := 108) rfl))) (mvT hZ (hw _ (List.mem_of_getElem? (i := 109) rfl))) (notFace_of_selects (args := #[]) (mvT hZ (hw _ (List.mem_of_getElem? (i := 111) rfl)))) (mvT hZ (hw _ (List.mem_of_getElem? (i := 111) rfl))) (mvT hZ (hw _ (List.mem_of_getElem? (i := 110) rfl))) (by decide) (backOf (W := 1) (rm21 l Z a0 hw [] h0 n0 p1 p2 p3 A K cs b265 b287_b284_b273_b270 k287_k284_k273_k270 EN OL0 G_F_b265_java_lang_String_value G_A_b287_b284_b273_b270 G_E_b265 G_F_b265_java_lang_String_coder) hZ (hw _ (List.mem_of_getElem? (i := 112) rfl)) (hw _ (List.mem_of_getElem? (i := 76) rfl)) (by decide) (by decide)) q307a q307c (g := (mkF m 4 #[.val (.ref b265), .val (.int (1 : Int32))] [(.ref b265), (.int (1 : Int32))])) rfl (by rw [hml]; rfl) (Steps.refl _) (argsL := []) (rest := [(.int (1 : Int32))]) (lenOf own_pd8 rfl) rfl (by show 2 * 0 + _ ≤ _; exact Nat.le_of_eq rfl) (hb hby own_d_prog_40_method_14_code_4) (fun _ _ => ⟨rfl, e306, (by decide : 0 + 0 ≤ _), (by decide : 0 + 0 ≤ _)⟩)
  dsimp only [Pt.U, Pt.locs, Pt.cells, Pt.slots] at X307 l307 y307 z307 st307 hQ307
  replace X307 := own_sub X307 l307 y307 z307
  obtain ⟨rfl, N307q, e307⟩ := hQ307
  have N307 := Fr.app N306 N307q
  obtain ⟨cq320, kq320, q320a, q320b, q320c⟩ := isOf hZ e307 G_E_b265
  obtain ⟨_, _, ⟨T320, L320, k320, n320⟩, -, X320, ⟨Lc320, hQ320, l320, y320, z320⟩, st320⟩ := X307.virtualBack hx (y := own_m4) (z := own_m4) hown (mvT hZ (hw _ (List.mem_of_getElem? (i := 130) rfl))) (mvT hZ (hw _ (List.mem_of_getElem? (i := 131) rfl))) (notFace_of_selects (args := #[]) (mvT hZ (hw _ (List.mem_of_getElem? (i := 133) rfl)))) (mvT hZ (hw _ (List.mem_of_getElem? (i := 133) rfl))) (mvT hZ (hw _ (List.mem_of_getElem? (i := 132) rfl))) (by decide) (backOf (W := 0) (rm43 l Z a0 hw [] h0 n0 p1 p2 p3 A K cs b265 b287_b284_b273_b270 k287_k284_k273_k270 EN OL0 G_E_b265 G_F_b265_java_lang_String_coder G_F_b265_java_lang_String_value G_A_b287_b284_b273_b270) hZ (hw _ (List.mem_of_getElem? (i := 134) rfl)) (hw _ (List.mem_of_getElem? (i := 76) rfl)) (by decide) (by decide)) q320a q320c (g := (mkF m 12 #[.val (.ref b265), .val (.int (1 : Int32))] [(.int (1 : Int32)), (.ref b265)])) rfl (by rw [hml]; rfl) (Steps.refl _) (argsL := [(.int (1 : Int32))]) (rest := []) (lenOf own_pd1 rfl) rfl (by show 2 * 0 + _ ≤ _; exact Nat.le_of_eq rfl) (hb hby own_d_prog_40_method_14_code_12) (fun _ _ => ⟨rfl, e307, (by decide : 0 + 0 ≤ _), (by decide : 0 + 0 ≤ _)⟩)
  dsimp only [Pt.U, Pt.locs, Pt.cells, Pt.slots] at X320 l320 y320 z320 st320 hQ320
  replace X320 := own_sub X320 l320 y320 z320
  obtain ⟨rfl, N320q, e320⟩ := hQ320
  have N320 := Fr.app N307 N320q
  obtain ⟨cq321, kq321, q321a, q321b, q321c⟩ := isOf hZ e320 G_E_b265
  obtain ⟨_, _, ⟨T321, L321, k321, n321⟩, -, X321, ⟨Lc321, hQ321, l321, y321, z321⟩, st321⟩ := X320.virtualBack hx (y := own_m1) (z := own_m1) hown (mvT hZ (hw _ (List.mem_of_getElem? (i := 108) rfl))) (mvT hZ (hw _ (List.mem_of_getElem? (i := 109) rfl))) (notFace_of_selects (args := #[]) (mvT hZ (hw _ (List.mem_of_getElem? (i := 111) rfl)))) (mvT hZ (hw _ (List.mem_of_getElem? (i := 111) rfl))) (mvT hZ (hw _ (List.mem_of_getElem? (i := 110) rfl))) (by decide) (backOf (W := 1) (rm21 l Z a0 hw [] h0 n0 p1 p2 p3 A K cs b265 b287_b284_b273_b270 k287_k284_k273_k270 EN OL0 G_F_b265_java_lang_String_value G_A_b287_b284_b273_b270 G_E_b265 G_F_b265_java_lang_String_coder) hZ (hw _ (List.mem_of_getElem? (i := 112) rfl)) (hw _ (List.mem_of_getElem? (i := 76) rfl)) (by decide) (by decide)) q321a q321c (g := (mkF m 4 #[.val (.ref b265), .val (.int (2 : Int32))] [(.ref b265), (.int (2 : Int32))])) rfl (by rw [hml]; rfl) (Steps.refl _) (argsL := []) (rest := [(.int (2 : Int32))]) (lenOf own_pd8 rfl) rfl (by show 2 * 0 + _ ≤ _; exact Nat.le_of_eq rfl) (hb hby own_d_prog_40_method_14_code_4) (fun _ _ => ⟨rfl, e320, (by decide : 0 + 0 ≤ _), (by decide : 0 + 0 ≤ _)⟩)
  dsimp only [Pt.U, Pt.locs, Pt.cells, Pt.slots] at X321 l321 y321 z321 st321 hQ321
  replace X321 := own_sub X321 l321 y321 z321
  obtain ⟨rfl, N321q, e321⟩ := hQ321
  have N321 := Fr.app N320 N321q
  obtain ⟨cq334, kq334, q334a, q334b, q334c⟩ := isOf hZ e321 G_E_b265
  obtain ⟨_, _, ⟨T334, L334, k334, n334⟩, -, X334, ⟨Lc334, hQ334, l334, y334, z334⟩, st334⟩ := X321.virtualBack hx (y := own_m4) (z := own_m4) hown (mvT hZ (hw _ (List.mem_of_getElem? (i := 130) rfl))) (mvT hZ (hw _ (List.mem_of_getElem? (i := 131) rfl))) (notFace_of_selects (args := #[]) (mvT hZ (hw _ (List.mem_of_getElem? (i := 133) rfl)))) (mvT hZ (hw _ (List.mem_of_getElem? (i := 133) rfl))) (mvT hZ (hw _ (List.mem_of_getElem? (i := 132) rfl))) (by decide) (backOf (W := 0) (rm48 l Z a0 hw [] h0 n0 p1 p2 p3 A K cs b265 b287_b284_b273_b270 k287_k284_k273_k270 EN OL0 G_E_b265 G_F_b265_java_lang_String_coder G_F_b265_java_lang_String_value G_A_b287_b284_b273_b270) hZ (hw _ (List.mem_of_getElem? (i := 134) rfl)) (hw _ (List.mem_of_getElem? (i := 76) rfl)) (by decide) (by decide)) q334a q334c (g := (mkF m 12 #[.val (.ref b265), .val (.int (2 : Int32))] [(.int (2 : Int32)), (.ref b265)])) rfl (by rw [hml]; rfl) (Steps.refl _) (argsL := [(.int (2 : Int32))]) (rest := []) (lenOf own_pd1 rfl) rfl (by show 2 * 0 + _ ≤ _; exact Nat.le_of_eq rfl) (hb hby own_d_prog_40_method_14_code_12) (fun _ _ => ⟨rfl, e321, (by decide : 0 + 0 ≤ _), (by decide : 0 + 0 ≤ _)⟩)
  dsimp only [Pt.U, Pt.locs, Pt.cells, Pt.slots] at X334 l334 y334 z334 st334 hQ334
  replace X334 := own_sub X334 l334 y334 z334
  obtain ⟨rfl, N334q, e334⟩ := hQ334
  have N334 := Fr.app N321 N334q
  obtain ⟨cq335, kq335, q335a, q335b, q335c⟩ := isOf hZ e334 G_E_b265
  obtain ⟨_, _, ⟨T335, L335, k335, n335⟩, -, X335, ⟨Lc335, hQ335, l335, y335, z335⟩, st335⟩ := X334.virtualBack hx (y := own_m1) (z := own_m1) hown (mvT hZ (hw _ (List.mem_of_getElem? (i := 108) rfl))) (mvT hZ (hw _ (List.mem_of_getElem? (i := 109) rfl))) (notFace_of_selects (args := #[]) (mvT hZ (hw _ (List.mem_of_getElem? (i := 111) rfl)))) (mvT hZ (hw _ (List.mem_of_getElem? (i := 111) rfl))) (mvT hZ (hw _ (List.mem_of_getElem? (i := 110) rfl))) (by decide) (backOf (W := 1) (rm21 l Z a0 hw [] h0 n0 p1 p2 p3 A K cs b265 b287_b284_b273_b270 k287_k284_k273_k270 EN OL0 G_F_b265_java_lang_String_value G_A_b287_b284_b273_b270 G_E_b265 G_F_b265_java_lang_String_coder) hZ (hw _ (List.mem_of_getElem? (i := 112) rfl)) (hw _ (List.mem_of_getElem? (i := 76) rfl)) (by decide) (by decide)) q335a q335c (g := (mkF m 4 #[.val (.ref b265), .val (.int (3 : Int32))] [(.ref b265), (.int (3 : Int32))])) rfl (by rw [hml]; rfl) (Steps.refl _) (argsL := []) (rest := [(.int (3 : Int32))]) (lenOf own_pd8 rfl) rfl (by show 2 * 0 + _ ≤ _; exact Nat.le_of_eq rfl) (hb hby own_d_prog_40_method_14_code_4) (fun _ _ => ⟨rfl, e334, (by decide : 0 + 0 ≤ _), (by decide : 0 + 0 ≤ _)⟩)
  dsimp only [Pt.U, Pt.locs, Pt.cells, Pt.slots] at X335 l335 y335 z335 st335 hQ335
  replace X335 := own_sub X335 l335 y335 z335
  obtain ⟨rfl, N335q, e335⟩ := hQ335
  have N335 := Fr.app N334 N335q
  obtain ⟨cq336, kq336, q336a, q336b, q336c⟩ := isOf hZ e335 G_E_b265
  obtain ⟨_, _, ⟨T336, L336, k336, n336⟩, -, X336, ⟨Lc336, hQ336, l336, y336, z336⟩, st336⟩ := X335.virtualBack hx (y := own_m1) (z := own_m1) hown (mvT hZ (hw _ (List.mem_of_getElem? (i := 108) rfl))) (mvT hZ (hw _ (List.mem_of_getElem? (i := 109) rfl))) (notFace_of_selects (args := #[]) (mvT hZ (hw _ (List.mem_of_getElem? (i := 111) rfl)))) (mvT hZ (hw _ (List.mem_of_getElem? (i := 111) rfl))) (mvT hZ (hw _ (List.mem_of_getElem? (i := 110) rfl))) (by decide) (backOf (W := 0) (rm21 l Z a0 hw [] h0 n0 p1 p2 p3 A K cs b265 b287_b284_b273_b270 k287_k284_k273_k270 EN OL0 G_F_b265_java_lang_String_value G_A_b287_b284_b273_b270 G_E_b265 G_F_b265_java_lang_String_coder) hZ (hw _ (List.mem_of_getElem? (i := 112) rfl)) (hw _ (List.mem_of_getElem? (i := 76) rfl)) (by decide) (by decide)) q336a q336c (g := (mkF m 49 #[.val (.ref b265), .val (.int (3 : Int32))] [(.ref b265)])) rfl (by rw [hml]; rfl) (Steps.refl _) (argsL := []) (rest := []) (lenOf own_pd8 rfl) rfl (by show 2 * 0 + _ ≤ _; exact Nat.le_of_eq rfl) (hb hby own_d_prog_40_method_14_code_49) (fun _ _ => ⟨rfl, e335, (by decide : 0 + 0 ≤ _), (by decide : 0 + 0 ≤ _)⟩)
  dsimp only [Pt.U, Pt.locs, Pt.cells, Pt.slots] at X336 l336 y336 z336 st336 hQ336
  replace X336 := own_sub X336 l336 y336 z336
  obtain ⟨rfl, N336q, e336⟩ := hQ336
  have N336 := Fr.app N335 N336q
  obtain ⟨fs, hr, hrun, hended, hW, hsame⟩ := X336.leave (v := some (.int (1 : Int32))) (fun h => by rw [Bd.returns] at h; cases h)
  refine ⟨_, _, pre0 _ ?_, hrun, hended, _, _, rfl, ?_, ⟨_, rfl⟩, hW, hsame.mono (by decide) (by decide)⟩
  · show Steps p.tables e below (s₁.setTop (mkF m 0 #[.val (.ref b265), .unset] [])) _
    refine XS.iconst X0.here hx rfl (hb hby own_d_prog_40_method_14_code_0) ?_
    refine XS.istoreN X0.here hx rfl (hb hby own_d_prog_40_method_14_code_1) rfl (l' := #[.val (.ref b265), .val (.int (0 : Int32))]) rfl ?_
    refine XS.iloadN X0.here hx rfl (hb hby own_d_prog_40_method_14_code_2) rfl ?_
    show Steps p.tables e below (s₁.setTop (mkF m 3 #[.val (.ref b265), .val (.int (0 : Int32))] [(.int (0 : Int32))])) _
    refine XS.aloadN X0.here hx rfl (hb hby own_d_prog_40_method_14_code_3) rfl rfl ?_
    refine st291.trans ?_
    show Steps p.tables e below (T291.setTop (mkF m 7 #[.val (.ref b265), .val (.int (0 : Int32))] [(.int (3 : Int32)), (.int (0 : Int32))])) _
    refine XS.icmpNo X291.here hx rfl (hb hby own_d_prog_40_method_14_code_7) rfl (tlt (by decide : (0 : Int32) < (3 : Int32))).2.1 ?_
    show Steps p.tables e below (T291.setTop (mkF m 10 #[.val (.ref b265), .val (.int (0 : Int32))] [])) _
    refine XS.aloadN X291.here hx rfl (hb hby own_d_prog_40_method_14_code_10) rfl rfl ?_
    refine XS.iloadN X291.here hx rfl (hb hby own_d_prog_40_method_14_code_11) rfl ?_
    refine st306.trans ?_
    show Steps p.tables e below (T306.setTop (mkF m 15 #[.val (.ref b265), .val (.int (0 : Int32))] [(.int (nar .char (nar .char (((nar .byte ((nar .char (own_C p2)).toInt8.toInt32)) &&& (255 : Int32)).toUInt32.toUInt16.toUInt32.toInt32))))])) _
    refine XS.bipush X306.here hx rfl (hb hby own_d_prog_40_method_14_code_15) ?_
    refine XS.icmpYes X306.here hx rfl (pc0 := 17) (pc' := 24) rfl (hb hby own_d_prog_40_method_14_code_17) rfl (feq (own_c32 p2)).2 (by decide) (by decide) ?_
    show Steps p.tables e below (T306.setTop (mkF m 24 #[.val (.ref b265), .val (.int (0 : Int32))] [])) _
    refine XS.iconst X306.here hx rfl (hb hby own_d_prog_40_method_14_code_24) ?_
    refine XS.iloadN X306.here hx rfl (hb hby own_d_prog_40_method_14_code_25) rfl ?_
    refine XS.iconst X306.here hx rfl (hb hby own_d_prog_40_method_14_code_26) ?_
    show Steps p.tables e below (T306.setTop (mkF m 27 #[.val (.ref b265), .val (.int (0 : Int32))] [(.int (2 : Int32)), (.int (0 : Int32)), (.int (0 : Int32))])) _
    refine iremM X306 hx rfl (hb hby own_d_prog_40_method_14_code_27) rfl (by decide) ?_
    show Steps p.tables e below (T306.setTop (mkF m 28 #[.val (.ref b265), .val (.int (0 : Int32))] [(.int (0 : Int32)), (.int (0 : Int32))])) _
    refine XS.iconst X306.here hx rfl (hb hby own_d_prog_40_method_14_code_28) ?_
    refine XS.icmpYes X306.here hx rfl (pc0 := 29) (pc' := 36) rfl (hb hby own_d_prog_40_method_14_code_29) rfl (feq (by decide : ¬ ((0 : Int32) = (1 : Int32)))).2 (by decide) (by decide) ?_
    show Steps p.tables e below (T306.setTop (mkF m 36 #[.val (.ref b265), .val (.int (0 : Int32))] [(.int (0 : Int32))])) _
    refine XS.iconst X306.here hx rfl (hb hby own_d_prog_40_method_14_code_36) ?_
    refine XS.icmpYes X306.here hx rfl (pc0 := 37) (pc' := 42) rfl (hb hby own_d_prog_40_method_14_code_37) rfl (teq (by decide : (0 : Int32) = (0 : Int32))).1 (by decide) (by decide) ?_
    show Steps p.tables e below (T306.setTop (mkF m 42 #[.val (.ref b265), .val (.int (0 : Int32))] [])) _
    refine XS.iinc X306.here hx rfl (hb hby own_d_prog_40_method_14_code_42) rfl (l' := #[.val (.ref b265), .val (.int (1 : Int32))]) rfl ?_
    show Steps p.tables e below (T306.setTop (mkF m 45 #[.val (.ref b265), .val (.int (1 : Int32))] [])) _
    refine XS.goto X306.here hx rfl (pc0 := 45) (pc' := 2) rfl (hb hby own_d_prog_40_method_14_code_45) (by decide) (by decide) ?_
    refine XS.iloadN X306.here hx rfl (hb hby own_d_prog_40_method_14_code_2) rfl ?_
    refine XS.aloadN X306.here hx rfl (hb hby own_d_prog_40_method_14_code_3) rfl rfl ?_
    show Steps p.tables e below (T306.setTop (mkF m 4 #[.val (.ref b265), .val (.int (1 : Int32))] [(.ref b265), (.int (1 : Int32))])) _
    refine st307.trans ?_
    show Steps p.tables e below (T307.setTop (mkF m 7 #[.val (.ref b265), .val (.int (1 : Int32))] [(.int (3 : Int32)), (.int (1 : Int32))])) _
    refine XS.icmpNo X307.here hx rfl (hb hby own_d_prog_40_method_14_code_7) rfl (tlt (by decide : (1 : Int32) < (3 : Int32))).2.1 ?_
    show Steps p.tables e below (T307.setTop (mkF m 10 #[.val (.ref b265), .val (.int (1 : Int32))] [])) _
    refine XS.aloadN X307.here hx rfl (hb hby own_d_prog_40_method_14_code_10) rfl rfl ?_
    refine XS.iloadN X307.here hx rfl (hb hby own_d_prog_40_method_14_code_11) rfl ?_
    refine st320.trans ?_
    show Steps p.tables e below (T320.setTop (mkF m 15 #[.val (.ref b265), .val (.int (1 : Int32))] [(.int (32 : Int32))])) _
    refine XS.bipush X320.here hx rfl (hb hby own_d_prog_40_method_14_code_15) ?_
    refine XS.icmpNo X320.here hx rfl (hb hby own_d_prog_40_method_14_code_17) rfl (teq (by decide : (32 : Int32) = (32 : Int32))).2 ?_
    show Steps p.tables e below (T320.setTop (mkF m 20 #[.val (.ref b265), .val (.int (1 : Int32))] [])) _
    refine XS.iconst X320.here hx rfl (hb hby own_d_prog_40_method_14_code_20) ?_
    refine XS.goto X320.here hx rfl (pc0 := 21) (pc' := 25) rfl (hb hby own_d_prog_40_method_14_code_21) (by decide) (by decide) ?_
    refine XS.iloadN X320.here hx rfl (hb hby own_d_prog_40_method_14_code_25) rfl ?_
    show Steps p.tables e below (T320.setTop (mkF m 26 #[.val (.ref b265), .val (.int (1 : Int32))] [(.int (1 : Int32)), (.int (1 : Int32))])) _
    refine XS.iconst X320.here hx rfl (hb hby own_d_prog_40_method_14_code_26) ?_
    refine iremM X320 hx rfl (hb hby own_d_prog_40_method_14_code_27) rfl (by decide) ?_
    show Steps p.tables e below (T320.setTop (mkF m 28 #[.val (.ref b265), .val (.int (1 : Int32))] [(.int (1 : Int32)), (.int (1 : Int32))])) _
    refine XS.iconst X320.here hx rfl (hb hby own_d_prog_40_method_14_code_28) ?_
    refine XS.icmpNo X320.here hx rfl (hb hby own_d_prog_40_method_14_code_29) rfl (teq (by decide : (1 : Int32) = (1 : Int32))).2 ?_
    show Steps p.tables e below (T320.setTop (mkF m 32 #[.val (.ref b265), .val (.int (1 : Int32))] [(.int (1 : Int32))])) _
    refine XS.iconst X320.here hx rfl (hb hby own_d_prog_40_method_14_code_32) ?_
    refine XS.goto X320.here hx rfl (pc0 := 33) (pc' := 37) rfl (hb hby own_d_prog_40_method_14_code_33) (by decide) (by decide) ?_
    refine XS.icmpYes X320.here hx rfl (pc0 := 37) (pc' := 42) rfl (hb hby own_d_prog_40_method_14_code_37) rfl (teq (by decide : (1 : Int32) = (1 : Int32))).1 (by decide) (by decide) ?_
    show Steps p.tables e below (T320.setTop (mkF m 42 #[.val (.ref b265), .val (.int (1 : Int32))] [])) _
    refine XS.iinc X320.here hx rfl (hb hby own_d_prog_40_method_14_code_42) rfl (l' := #[.val (.ref b265), .val (.int (2 : Int32))]) rfl ?_
    show Steps p.tables e below (T320.setTop (mkF m 45 #[.val (.ref b265), .val (.int (2 : Int32))] [])) _
    refine XS.goto X320.here hx rfl (pc0 := 45) (pc' := 2) rfl (hb hby own_d_prog_40_method_14_code_45) (by decide) (by decide) ?_
    refine XS.iloadN X320.here hx rfl (hb hby own_d_prog_40_method_14_code_2) rfl ?_
    refine XS.aloadN X320.here hx rfl (hb hby own_d_prog_40_method_14_code_3) rfl rfl ?_
    show Steps p.tables e below (T320.setTop (mkF m 4 #[.val (.ref b265), .val (.int (2 : Int32))] [(.ref b265), (.int (2 : Int32))])) _
    refine st321.trans ?_
    show Steps p.tables e below (T321.setTop (mkF m 7 #[.val (.ref b265), .val (.int (2 : Int32))] [(.int (3 : Int32)), (.int (2 : Int32))])) _
    refine XS.icmpNo X321.here hx rfl (hb hby own_d_prog_40_method_14_code_7) rfl (tlt (by decide : (2 : Int32) < (3 : Int32))).2.1 ?_
    show Steps p.tables e below (T321.setTop (mkF m 10 #[.val (.ref b265), .val (.int (2 : Int32))] [])) _
    refine XS.aloadN X321.here hx rfl (hb hby own_d_prog_40_method_14_code_10) rfl rfl ?_
    refine XS.iloadN X321.here hx rfl (hb hby own_d_prog_40_method_14_code_11) rfl ?_
    refine st334.trans ?_
    show Steps p.tables e below (T334.setTop (mkF m 15 #[.val (.ref b265), .val (.int (2 : Int32))] [(.int (nar .char (nar .char (((nar .byte ((nar .char (own_C p3)).toInt8.toInt32)) &&& (255 : Int32)).toUInt32.toUInt16.toUInt32.toInt32))))])) _
    refine XS.bipush X334.here hx rfl (hb hby own_d_prog_40_method_14_code_15) ?_
    refine XS.icmpYes X334.here hx rfl (pc0 := 17) (pc' := 24) rfl (hb hby own_d_prog_40_method_14_code_17) rfl (feq (own_c32 p3)).2 (by decide) (by decide) ?_
    show Steps p.tables e below (T334.setTop (mkF m 24 #[.val (.ref b265), .val (.int (2 : Int32))] [])) _
    refine XS.iconst X334.here hx rfl (hb hby own_d_prog_40_method_14_code_24) ?_
    refine XS.iloadN X334.here hx rfl (hb hby own_d_prog_40_method_14_code_25) rfl ?_
    refine XS.iconst X334.here hx rfl (hb hby own_d_prog_40_method_14_code_26) ?_
    show Steps p.tables e below (T334.setTop (mkF m 27 #[.val (.ref b265), .val (.int (2 : Int32))] [(.int (2 : Int32)), (.int (2 : Int32)), (.int (0 : Int32))])) _
    refine iremM X334 hx rfl (hb hby own_d_prog_40_method_14_code_27) rfl (by decide) ?_
    show Steps p.tables e below (T334.setTop (mkF m 28 #[.val (.ref b265), .val (.int (2 : Int32))] [(.int (0 : Int32)), (.int (0 : Int32))])) _
    refine XS.iconst X334.here hx rfl (hb hby own_d_prog_40_method_14_code_28) ?_
    refine XS.icmpYes X334.here hx rfl (pc0 := 29) (pc' := 36) rfl (hb hby own_d_prog_40_method_14_code_29) rfl (feq (by decide : ¬ ((0 : Int32) = (1 : Int32)))).2 (by decide) (by decide) ?_
    show Steps p.tables e below (T334.setTop (mkF m 36 #[.val (.ref b265), .val (.int (2 : Int32))] [(.int (0 : Int32))])) _
    refine XS.iconst X334.here hx rfl (hb hby own_d_prog_40_method_14_code_36) ?_
    refine XS.icmpYes X334.here hx rfl (pc0 := 37) (pc' := 42) rfl (hb hby own_d_prog_40_method_14_code_37) rfl (teq (by decide : (0 : Int32) = (0 : Int32))).1 (by decide) (by decide) ?_
    show Steps p.tables e below (T334.setTop (mkF m 42 #[.val (.ref b265), .val (.int (2 : Int32))] [])) _
    refine XS.iinc X334.here hx rfl (hb hby own_d_prog_40_method_14_code_42) rfl (l' := #[.val (.ref b265), .val (.int (3 : Int32))]) rfl ?_
    show Steps p.tables e below (T334.setTop (mkF m 45 #[.val (.ref b265), .val (.int (3 : Int32))] [])) _
    refine XS.goto X334.here hx rfl (pc0 := 45) (pc' := 2) rfl (hb hby own_d_prog_40_method_14_code_45) (by decide) (by decide) ?_
    refine XS.iloadN X334.here hx rfl (hb hby own_d_prog_40_method_14_code_2) rfl ?_
    refine XS.aloadN X334.here hx rfl (hb hby own_d_prog_40_method_14_code_3) rfl rfl ?_
    show Steps p.tables e below (T334.setTop (mkF m 4 #[.val (.ref b265), .val (.int (3 : Int32))] [(.ref b265), (.int (3 : Int32))])) _
    refine st335.trans ?_
    show Steps p.tables e below (T335.setTop (mkF m 7 #[.val (.ref b265), .val (.int (3 : Int32))] [(.int (3 : Int32)), (.int (3 : Int32))])) _
    refine XS.icmpYes X335.here hx rfl (pc0 := 7) (pc' := 48) rfl (hb hby own_d_prog_40_method_14_code_7) rfl (flt (by decide : ¬ ((3 : Int32) < (3 : Int32)))).2.1 (by decide) (by decide) ?_
    show Steps p.tables e below (T335.setTop (mkF m 48 #[.val (.ref b265), .val (.int (3 : Int32))] [])) _
    refine XS.aloadN X335.here hx rfl (hb hby own_d_prog_40_method_14_code_48) rfl rfl ?_
    refine st336.trans ?_
    show Steps p.tables e below (T336.setTop (mkF m 52 #[.val (.ref b265), .val (.int (3 : Int32))] [(.int (3 : Int32))])) _
    refine XS.iconst X336.here hx rfl (hb hby own_d_prog_40_method_14_code_52) ?_
    refine iremM X336 hx rfl (hb hby own_d_prog_40_method_14_code_53) rfl (by decide) ?_
    show Steps p.tables e below (T336.setTop (mkF m 54 #[.val (.ref b265), .val (.int (3 : Int32))] [(.int (1 : Int32))])) _
    refine XS.iconst X336.here hx rfl (hb hby own_d_prog_40_method_14_code_54) ?_
    refine XS.icmpNo X336.here hx rfl (hb hby own_d_prog_40_method_14_code_55) rfl (teq (by decide : (1 : Int32) = (1 : Int32))).2 ?_
    show Steps p.tables e below (T336.setTop (mkF m 58 #[.val (.ref b265), .val (.int (3 : Int32))] [])) _
    refine XS.iconst X336.here hx rfl (hb hby own_d_prog_40_method_14_code_58) ?_
    refine XS.goto X336.here hx rfl (pc0 := 59) (pc' := 63) rfl (hb hby own_d_prog_40_method_14_code_59) (by decide) (by decide) ?_
    exact retN X336 hx (t := .boolean) Bd.returns (by simp) (hb hby own_d_prog_40_method_14_code_63) hr
  · show PQ (some (.int (1 : Int32))) h0 n0 _ T336.heap _
    rw [e336]
    exact ⟨rfl, N336, rfl⟩
theorem own_d_prog_40_method_7_code_295 : decode prog_40_method_7_code 295 = .ok (.aload_n 1, 1) := by decide +kernel
theorem own_d_prog_40_method_7_code_296 : decode prog_40_method_7_code 296 = .ok (.invokestatic 149, 3) := by decide +kernel
theorem own_d_prog_40_method_7_code_299 : decode prog_40_method_7_code 299 = .ok (.goto 127, 3) := by decide +kernel
theorem own_ef_rm34 (m : MethodId) (p1 : Int32) (p2 : Int32) (p3 : Int32) (A : Nat → Addr) (K : Nat → ClassId) (cs : Int32)  (b265 : Addr) (b287_b284_b273_b270 : Addr) (k287_k284_k273_k270 : ClassId) : entryFrame m #[(.ref (A 15)), (.ref b265)] 3 = mkF m 0 #[.val (.ref (A 15)), .val (.ref b265), .unset] [] := by first | (simp [entryFrame, mkF, argsToLocals, Value.category, maxLocals]; done) | rfl
set_option maxRecDepth 65536 in
set_option maxHeartbeats 40000000 in
theorem rm34 (l : Launch) (Z : State) (a0 : Array Value) (hw : ∀ d ∈ tables_1, d.before a0 Z = true) (ws : List Jvm.Cond) (h0 : Heap) (n0 : Nat) (p1 : Int32) (p2 : Int32) (p3 : Int32) (A : Nat → Addr) (K : Nat → ClassId) (cs : Int32)  (b265 : Addr) (b287_b284_b273_b270 : Addr) (k287_k284_k273_k270 : ClassId) (EN : own_St Z A K cs) (OL0 : Old Z n0 h0) (G_E_b265 : Exa Z h0 b265 "java/lang/String") (G_F_b265_java_lang_String_value : Fld Z h0 b265 "java/lang/String" "value" "[B" (.ref b287_b284_b273_b270)) (G_A_b287_b284_b273_b270 : Arv Z h0 b287_b284_b273_b270 k287_k284_k273_k270 .byte (3 : Int32) [(.int (nar .byte ((nar .char (own_C p2)).toInt8.toInt32))), (.int (32 : Int32)), (.int (nar .byte ((nar .char (own_C p3)).toInt8.toInt32)))] (.int (0 : Int32))) (G_F_b265_java_lang_String_coder : Fld Z h0 b265 "java/lang/String" "coder" "B" (.int (0 : Int32))) :
    MetFree l own_m3 (head1 (Jvm.Cond.code own_m3 prog_40_method_7_code 3 (some .boolean) :: ws) ({ frames := 5, cells := 0, slots := 0, locals := 66 } : Room)) (fun a U => a = #[(.ref (A 15)), (.ref b265)] ∧ Z.Warmed39 U.vm ∧ U.heap = h0) (fun _ _ _ _ _ => True) (fun _ U o U' => ∃ v L, o = .returned v ∧ (PQ (some (.int (1 : Int32))) h0 n0) v U'.heap L ∧ FrameEnd U o U' L ({ frames := 5, cells := 0, slots := 0, locals := 66 } : Room).cells ({ frames := 5, cells := 0, slots := 0, locals := 66 } : Room).slots) := by
  refine MetFree.of_bodySF (plainFor_of_name own_pn1) hisR ?_
  intro p e s m args below meth c s₁ Bd hml0 hP hK
  obtain ⟨rfl, hZ, hh⟩ := hP
  have hx := Bd.exec
  have hby := Bd.bytes
  have hml : c.maxLocals = 3 := hml0
  have hown : s.vm.findClass "com/example/tallywire/tallywire/wire/FieldType" = some m.cls := findClass_of_methodNamed Bd.named
  have hnm := (name_of_methodNamed Bd.named Bd.method).1
  have X0 : Stand p l e ({ frames := 5, cells := 0, slots := 0, locals := 66 } : Room) s m #[(.ref (A 15)), (.ref b265)] below meth c s₁ [] 0 0 := Stand.of_body Bd
  have e0 : s₁.heap = h0 := by rw [← hh, Bd.state]; rfl
  have N0 := Fr.nil n0
  have pre0 : ∀ t, Steps p.tables e below (s₁.setTop (mkF m 0 #[.val (.ref (A 15)), .val (.ref b265), .unset] [])) t → Steps p.tables e below (s₁.setTop (entryFrame m #[(.ref (A 15)), (.ref b265)] 3)) t := fun t k => castTop (own_ef_rm34 m p1 p2 p3 A K cs b265 b287_b284_b273_b270 k287_k284_k273_k270) k
  have KK0 : Keep h0 h0 [] := Keep.refl _ _
  obtain ⟨cq288, kq288, q288a, q288b, q288c⟩ := isOf hZ e0 G_E_b265
  obtain ⟨_, _, ⟨T288, L288, k288, n288⟩, -, X288, ⟨Lc288, hQ288, l288, y288, z288⟩, st288⟩ := X0.virtualBack hx (y := own_m1) (z := own_m1) hown (mvT hZ (hw _ (List.mem_of_getElem? (i := 108) rfl))) (mvT hZ (hw _ (List.mem_of_getElem? (i := 109) rfl))) (notFace_of_selects (args := #[]) (mvT hZ (hw _ (List.mem_of_getElem? (i := 111) rfl)))) (mvT hZ (hw _ (List.mem_of_getElem? (i := 111) rfl))) (mvT hZ (hw _ (List.mem_of_getElem? (i := 110) rfl))) (by decide) (backOf (W := 0) (rm21 l Z a0 hw [] h0 n0 p1 p2 p3 A K cs b265 b287_b284_b273_b270 k287_k284_k273_k270 EN OL0 G_F_b265_java_lang_String_value G_A_b287_b284_b273_b270 G_E_b265 G_F_b265_java_lang_String_coder) hZ (hw _ (List.mem_of_getElem? (i := 112) rfl)) (hw _ (List.mem_of_getElem? (i := 76) rfl)) (by decide) (by decide)) q288a q288c (g := (mkF m 1 #[.val (.ref (A 15)), .val (.ref b265), .unset] [(.ref b265)])) rfl (by rw [hml]; rfl) (Steps.refl _) (argsL := []) (rest := []) (lenOf own_pd8 rfl) rfl (by show 2 * 0 + _ ≤ _; exact Nat.le_of_eq rfl) (hb hby own_d_prog_40_method_7_code_1) (fun _ _ => ⟨rfl, e0, (by decide : 0 + 0 ≤ _), (by decide : 0 + 0 ≤ _)⟩)
  dsimp only [Pt.U, Pt.locs, Pt.cells, Pt.slots] at X288 l288 y288 z288 st288 hQ288
  replace X288 := own_sub X288 l288 y288 z288
  obtain ⟨rfl, N288q, e288⟩ := hQ288
  have N288 := Fr.app N0 N288q
  obtain ⟨cq290, kq290, q290a, q290b, q290c⟩ := isOf hZ e288 (EN.2.2.2.1.2.2.2.2.2.2.2.1.ext OL0.2)
  obtain ⟨_, _, ⟨T290, L290, k290, n290⟩, -, X290, ⟨Lc290, hQ290, l290, y290, z290⟩, st290⟩ := X288.virtualBackUp hx (x := own_m16) (y := own_m8) (owner := "java/lang/Enum") hown (mvT hZ (hw _ (List.mem_of_getElem? (i := 118) rfl))) (mvT hZ (hw _ (List.mem_of_getElem? (i := 119) rfl))) (mvT hZ (hw _ (List.mem_of_getElem? (i := 120) rfl))) (by decide) (mvT hZ (hw _ (List.mem_of_getElem? (i := 122) rfl))) (mvT hZ (hw _ (List.mem_of_getElem? (i := 121) rfl))) (backOf (W := 0) (rm35 l Z a0 hw [] h0 n0 p1 p2 p3 A K cs EN OL0) hZ (hw _ (List.mem_of_getElem? (i := 124) rfl)) (hw _ (List.mem_of_getElem? (i := 123) rfl)) (by decide) (by decide)) q290a q290c (g := (mkF m 12 #[.val (.ref (A 15)), .val (.ref b265), .val (.int (3 : Int32))] [(.ref (A 15))])) rfl (by rw [hml]; rfl) (Steps.refl _) (argsL := []) (rest := []) (lenOf own_pd8 rfl) rfl (by show 2 * 0 + _ ≤ _; exact Nat.le_of_eq rfl) (hb hby own_d_prog_40_method_7_code_12) (fun _ _ => ⟨rfl, e288, (by decide : 0 + 0 ≤ _), (by decide : 0 + 0 ≤ _)⟩)
  dsimp only [Pt.U, Pt.locs, Pt.cells, Pt.slots] at X290 l290 y290 z290 st290 hQ290
  replace X290 := own_sub X290 l290 y290 z290
  obtain ⟨rfl, N290q, e290⟩ := hQ290
  have N290 := Fr.app N288 N290q
  obtain ⟨_, _, ⟨T337, L337, k337, n337⟩, -, X337, ⟨Lc337, hQ337, l337, y337, z337⟩, st337⟩ := Jvm.LawKit.callS X290 hx (y := own_m17) hown (mvT hZ (hw _ (List.mem_of_getElem? (i := 127) rfl))) (mvT hZ (hw _ (List.mem_of_getElem? (i := 128) rfl))) (mvT hZ (hw _ (List.mem_of_getElem? (i := 3) rfl))) (mvT hZ (hw _ (List.mem_of_getElem? (i := 129) rfl))) (by decide) (backOf (W := 0) (rm36 l Z a0 hw [] h0 n0 p1 p2 p3 A K cs b265 b287_b284_b273_b270 k287_k284_k273_k270 EN OL0 G_E_b265 G_F_b265_java_lang_String_value G_A_b287_b284_b273_b270 G_F_b265_java_lang_String_coder) hZ (hw _ (List.mem_of_getElem? (i := 129) rfl)) (hw _ (List.mem_of_getElem? (i := 3) rfl)) (by decide) (by decide)) (g := (mkF m 296 #[.val (.ref (A 15)), .val (.ref b265), .val (.int (3 : Int32))] [(.ref b265)])) rfl (by rw [hml]; rfl) (argsL := [(.ref b265)]) (rest := []) (lenOf own_pd9 rfl) rfl (by show 2 * 0 + _ ≤ _; exact Nat.le_of_eq rfl) (hb hby own_d_prog_40_method_7_code_296) (fun _ _ => ⟨rfl, e290, (by decide : 0 + 0 ≤ _), (by decide : 0 + 0 ≤ _)⟩)
  dsimp only [Pt.U, Pt.locs, Pt.cells, Pt.slots] at X337 l337 y337 z337 st337 hQ337
  replace X337 := own_sub X337 l337 y337 z337
  obtain ⟨rfl, N337q, e337⟩ := hQ337
  have N337 := Fr.app N290 N337q
  obtain ⟨fs, hr, hrun, hended, hW, hsame⟩ := X337.leave (v := some (.int (1 : Int32))) (fun h => by rw [Bd.returns] at h; cases h)
  refine ⟨_, _, pre0 _ ?_, hrun, hended, _, _, rfl, ?_, ⟨_, rfl⟩, hW, hsame.mono (by decide) (by decide)⟩
  · show Steps p.tables e below (s₁.setTop (mkF m 0 #[.val (.ref (A 15)), .val (.ref b265), .unset] [])) _
    refine XS.aloadN X0.here hx rfl (hb hby own_d_prog_40_method_7_code_0) rfl rfl ?_
    refine st288.trans ?_
    show Steps p.tables e below (T288.setTop (mkF m 4 #[.val (.ref (A 15)), .val (.ref b265), .unset] [(.int (3 : Int32))])) _
    refine XS.istoreN X288.here hx rfl (hb hby own_d_prog_40_method_7_code_4) rfl (l' := #[.val (.ref (A 15)), .val (.ref b265), .val (.int (3 : Int32))]) rfl ?_
    refine XS.iloadN X288.here hx rfl (hb hby own_d_prog_40_method_7_code_5) rfl ?_
    refine XS.ifYes X288.here hx rfl (pc0 := 6) (pc' := 11) rfl (hb hby own_d_prog_40_method_7_code_6) rfl ((if0 _ _).trans (feq (by decide : ¬ ((3 : Int32) = (0 : Int32)))).2) (by decide) (by decide) ?_
    show Steps p.tables e below (T288.setTop (mkF m 11 #[.val (.ref (A 15)), .val (.ref b265), .val (.int (3 : Int32))] [])) _
    refine XS.aloadN X288.here hx rfl (hb hby own_d_prog_40_method_7_code_11) rfl rfl ?_
    refine st290.trans ?_
    show Steps p.tables e below (T290.setTop (mkF m 15 #[.val (.ref (A 15)), .val (.ref b265), .val (.int (3 : Int32))] [(.int (15 : Int32))])) _
    refine XS.tswIn X290.here hx rfl (pc0 := 15) (pc' := 295) rfl (hb hby own_d_prog_40_method_7_code_15) rfl (by decide) (o := 280) (by decide) (by decide) (by decide) ?_
    show Steps p.tables e below (T290.setTop (mkF m 295 #[.val (.ref (A 15)), .val (.ref b265), .val (.int (3 : Int32))] [])) _
    refine XS.aloadN X290.here hx rfl (hb hby own_d_prog_40_method_7_code_295) rfl rfl ?_
    refine st337 _ ?_
    show Steps p.tables e below (T337.setTop (mkF m 299 #[.val (.ref (A 15)), .val (.ref b265), .val (.int (3 : Int32))] [(.int (1 : Int32))])) _
    refine XS.goto X337.here hx rfl (pc0 := 299) (pc' := 426) rfl (hb hby own_d_prog_40_method_7_code_299) (by decide) (by decide) ?_
    exact retN X337 hx (t := .boolean) Bd.returns (by simp) (hb hby own_d_prog_40_method_7_code_426) hr
  · show PQ (some (.int (1 : Int32))) h0 n0 _ T337.heap _
    rw [e337]
    exact ⟨rfl, N337, rfl⟩
theorem own_ef_rm53 (m : MethodId) (p1 : Int32) (p2 : Int32) (p3 : Int32) (A : Nat → Addr) (K : Nat → ClassId) (cs : Int32)  : entryFrame m #[(.ref (A 16))] 1 = mkF m 0 #[.val (.ref (A 16))] [] := by first | (simp [entryFrame, mkF, argsToLocals, Value.category, maxLocals]; done) | rfl
set_option maxRecDepth 65536 in
set_option maxHeartbeats 40000000 in
theorem rm53 (l : Launch) (Z : State) (a0 : Array Value) (hw : ∀ d ∈ tables_1, d.before a0 Z = true) (ws : List Jvm.Cond) (h0 : Heap) (n0 : Nat) (p1 : Int32) (p2 : Int32) (p3 : Int32) (A : Nat → Addr) (K : Nat → ClassId) (cs : Int32)  (EN : own_St Z A K cs) (OL0 : Old Z n0 h0) :
    MetFree l own_m0 (head1 (Jvm.Cond.code own_m0 prog_40_method_6_code 1 (some .boolean) :: ws) ({ frames := 0, cells := 0, slots := 0, locals := 0 } : Room)) (fun a U => a = #[(.ref (A 16))] ∧ Z.Warmed39 U.vm ∧ U.heap = h0) (fun _ _ _ _ _ => True) (fun _ U o U' => ∃ v L, o = .returned v ∧ (PQ (some (.int (0 : Int32))) h0 n0) v U'.heap L ∧ FrameEnd U o U' L ({ frames := 0, cells := 0, slots := 0, locals := 0 } : Room).cells ({ frames := 0, cells := 0, slots := 0, locals := 0 } : Room).slots) := by
  refine MetFree.of_bodySF (plainFor_of_name own_pn1) hisR ?_
  intro p e s m args below meth c s₁ Bd hml0 hP hK
  obtain ⟨rfl, hZ, hh⟩ := hP
  have hx := Bd.exec
  have hby := Bd.bytes
  have hml : c.maxLocals = 1 := hml0
  have hown : s.vm.findClass "com/example/tallywire/tallywire/wire/FieldType" = some m.cls := findClass_of_methodNamed Bd.named
  have hnm := (name_of_methodNamed Bd.named Bd.method).1
  have X0 : Stand p l e ({ frames := 0, cells := 0, slots := 0, locals := 0 } : Room) s m #[(.ref (A 16))] below meth c s₁ [] 0 0 := Stand.of_body Bd
  have e0 : s₁.heap = h0 := by rw [← hh, Bd.state]; rfl
  have N0 := Fr.nil n0
  have pre0 : ∀ t, Steps p.tables e below (s₁.setTop (mkF m 0 #[.val (.ref (A 16))] [])) t → Steps p.tables e below (s₁.setTop (entryFrame m #[(.ref (A 16))] 1)) t := fun t k => castTop (own_ef_rm53 m p1 p2 p3 A K cs ) k
  have KK0 : Keep h0 h0 [] := Keep.refl _ _
  obtain ⟨T340, X340, e340, st340⟩ := getS2 X0 hx hZ hown (host := "") (Or.inl (hw _ (List.mem_of_getElem? (i := 66) rfl))) Via.refl e0 (EN.2.2.2.1.2.2.1.ext OL0.2) (g := (mkF m 1 #[.val (.ref (A 16))] [(.ref (A 16))])) rfl (hb hby own_d_prog_40_method_6_code_1)
  obtain ⟨T341, X341, e341, st341⟩ := getS2 X340 hx hZ hown (host := "") (Or.inl (hw _ (List.mem_of_getElem? (i := 67) rfl))) Via.refl e340 (EN.2.2.2.1.2.2.2.2.1.ext OL0.2) (g := (mkF m 8 #[.val (.ref (A 16))] [(.ref (A 16))])) rfl (hb hby own_d_prog_40_method_6_code_8)
  obtain ⟨T342, X342, e342, st342⟩ := getS2 X341 hx hZ hown (host := "") (Or.inl (hw _ (List.mem_of_getElem? (i := 68) rfl))) Via.refl e341 (EN.2.2.2.1.2.2.2.2.2.2.1.ext OL0.2) (g := (mkF m 15 #[.val (.ref (A 16))] [(.ref (A 16))])) rfl (hb hby own_d_prog_40_method_6_code_15)
  obtain ⟨fs, hr, hrun, hended, hW, hsame⟩ := X342.leave (v := some (.int (0 : Int32))) (fun h => by rw [Bd.returns] at h; cases h)
  refine ⟨_, _, pre0 _ ?_, hrun, hended, _, _, rfl, ?_, ⟨_, rfl⟩, hW, hsame.mono (by decide) (by decide)⟩
  · show Steps p.tables e below (s₁.setTop (mkF m 0 #[.val (.ref (A 16))] [])) _
    refine XS.aloadN X0.here hx rfl (hb hby own_d_prog_40_method_6_code_0) rfl rfl ?_
    refine st340 _ ?_
    show Steps p.tables e below (T340.setTop (mkF m 4 #[.val (.ref (A 16))] [(.ref (A 13)), (.ref (A 16))])) _
    refine Jvm.RoadKit.acmp (g := (mkF m 4 #[.val (.ref (A 16))] [(.ref (A 13)), (.ref (A 16))])) X340 hx rfl rfl rfl (pc0 := 4) (pc' := 7) (same := false) rfl (hb hby own_d_prog_40_method_6_code_4) rfl (decide_eq_false fun q => (Fld.ne EN.2.2.2.2.2.2.2.2.1.2.2.2.2.2.2.1 EN.2.2.2.2.2.2.2.1.2.2.2.2.1 (fun h => by injection h with h; exact absurd h (by decide))) (Value.ref.inj q)) (by decide) (by decide) ?_
    show Steps p.tables e below (T340.setTop (mkF m 7 #[.val (.ref (A 16))] [])) _
    refine XS.aloadN X340.here hx rfl (hb hby own_d_prog_40_method_6_code_7) rfl rfl ?_
    refine st341 _ ?_
    show Steps p.tables e below (T341.setTop (mkF m 11 #[.val (.ref (A 16))] [(.ref (A 14)), (.ref (A 16))])) _
    refine Jvm.RoadKit.acmp (g := (mkF m 11 #[.val (.ref (A 16))] [(.ref (A 14)), (.ref (A 16))])) X341 hx rfl rfl rfl (pc0 := 11) (pc' := 14) (same := false) rfl (hb hby own_d_prog_40_method_6_code_11) rfl (decide_eq_false fun q => (Fld.ne EN.2.2.2.2.2.2.2.2.1.2.2.2.2.2.2.1 EN.2.2.2.2.2.2.2.1.2.2.2.2.2.1 (fun h => by injection h with h; exact absurd h (by decide))) (Value.ref.inj q)) (by decide) (by decide) ?_
    show Steps p.tables e below (T341.setTop (mkF m 14 #[.val (.ref (A 16))] [])) _
    refine XS.aloadN X341.here hx rfl (hb hby own_d_prog_40_method_6_code_14) rfl rfl ?_
    refine st342 _ ?_
    show Steps p.tables e below (T342.setTop (mkF m 18 #[.val (.ref (A 16))] [(.ref (A 15)), (.ref (A 16))])) _
    refine Jvm.RoadKit.acmp (g := (mkF m 18 #[.val (.ref (A 16))] [(.ref (A 15)), (.ref (A 16))])) X342 hx rfl rfl rfl (pc0 := 18) (pc' := 25) (same := false) rfl (hb hby own_d_prog_40_method_6_code_18) rfl (decide_eq_false fun q => (Fld.ne EN.2.2.2.2.2.2.2.2.1.2.2.2.2.2.2.1 EN.2.2.2.2.2.2.2.1.2.2.2.2.2.2.1 (fun h => by injection h with h; exact absurd h (by decide))) (Value.ref.inj q)) (by decide) (by decide) ?_
    show Steps p.tables e below (T342.setTop (mkF m 25 #[.val (.ref (A 16))] [])) _
    refine XS.iconst X342.here hx rfl (hb hby own_d_prog_40_method_6_code_25) ?_
    exact retN X342 hx (t := .boolean) Bd.returns (by simp) (hb hby own_d_prog_40_method_6_code_26) hr
  · show PQ (some (.int (0 : Int32))) h0 n0 _ T342.heap _
    rw [e342]
    exact ⟨rfl, N0, rfl⟩
theorem own_ef_rm54 (m : MethodId) (p1 : Int32) (p2 : Int32) (p3 : Int32) (A : Nat → Addr) (K : Nat → ClassId) (cs : Int32)  : entryFrame m #[(.ref (A 17))] 1 = mkF m 0 #[.val (.ref (A 17))] [] := by first | (simp [entryFrame, mkF, argsToLocals, Value.category, maxLocals]; done) | rfl
set_option maxRecDepth 65536 in
set_option maxHeartbeats 40000000 in
theorem rm54 (l : Launch) (Z : State) (a0 : Array Value) (hw : ∀ d ∈ tables_1, d.before a0 Z = true) (ws : List Jvm.Cond) (h0 : Heap) (n0 : Nat) (p1 : Int32) (p2 : Int32) (p3 : Int32) (A : Nat → Addr) (K : Nat → ClassId) (cs : Int32)  (EN : own_St Z A K cs) (OL0 : Old Z n0 h0) :
    MetFree l own_m0 (head1 (Jvm.Cond.code own_m0 prog_40_method_6_code 1 (some .boolean) :: ws) ({ frames := 0, cells := 0, slots := 0, locals := 0 } : Room)) (fun a U => a = #[(.ref (A 17))] ∧ Z.Warmed39 U.vm ∧ U.heap = h0) (fun _ _ _ _ _ => True) (fun _ U o U' => ∃ v L, o = .returned v ∧ (PQ (some (.int (0 : Int32))) h0 n0) v U'.heap L ∧ FrameEnd U o U' L ({ frames := 0, cells := 0, slots := 0, locals := 0 } : Room).cells ({ frames := 0, cells := 0, slots := 0, locals := 0 } : Room).slots) := by
  refine MetFree.of_bodySF (plainFor_of_name own_pn1) hisR ?_
  intro p e s m args below meth c s₁ Bd hml0 hP hK
  obtain ⟨rfl, hZ, hh⟩ := hP
  have hx := Bd.exec
  have hby := Bd.bytes
  have hml : c.maxLocals = 1 := hml0
  have hown : s.vm.findClass "com/example/tallywire/tallywire/wire/FieldType" = some m.cls := findClass_of_methodNamed Bd.named
  have hnm := (name_of_methodNamed Bd.named Bd.method).1
  have X0 : Stand p l e ({ frames := 0, cells := 0, slots := 0, locals := 0 } : Room) s m #[(.ref (A 17))] below meth c s₁ [] 0 0 := Stand.of_body Bd
  have e0 : s₁.heap = h0 := by rw [← hh, Bd.state]; rfl
  have N0 := Fr.nil n0
  have pre0 : ∀ t, Steps p.tables e below (s₁.setTop (mkF m 0 #[.val (.ref (A 17))] [])) t → Steps p.tables e below (s₁.setTop (entryFrame m #[(.ref (A 17))] 1)) t := fun t k => castTop (own_ef_rm54 m p1 p2 p3 A K cs ) k
  have KK0 : Keep h0 h0 [] := Keep.refl _ _
  obtain ⟨T345, X345, e345, st345⟩ := getS2 X0 hx hZ hown (host := "") (Or.inl (hw _ (List.mem_of_getElem? (i := 66) rfl))) Via.refl e0 (EN.2.2.2.1.2.2.1.ext OL0.2) (g := (mkF m 1 #[.val (.ref (A 17))] [(.ref (A 17))])) rfl (hb hby own_d_prog_40_method_6_code_1)
  obtain ⟨T346, X346, e346, st346⟩ := getS2 X345 hx hZ hown (host := "") (Or.inl (hw _ (List.mem_of_getElem? (i := 67) rfl))) Via.refl e345 (EN.2.2.2.1.2.2.2.2.1.ext OL0.2) (g := (mkF m 8 #[.val (.ref (A 17))] [(.ref (A 17))])) rfl (hb hby own_d_prog_40_method_6_code_8)
  obtain ⟨T347, X347, e347, st347⟩ := getS2 X346 hx hZ hown (host := "") (Or.inl (hw _ (List.mem_of_getElem? (i := 68) rfl))) Via.refl e346 (EN.2.2.2.1.2.2.2.2.2.2.1.ext OL0.2) (g := (mkF m 15 #[.val (.ref (A 17))] [(.ref (A 17))])) rfl (hb hby own_d_prog_40_method_6_code_15)
  obtain ⟨fs, hr, hrun, hended, hW, hsame⟩ := X347.leave (v := some (.int (0 : Int32))) (fun h => by rw [Bd.returns] at h; cases h)
  refine ⟨_, _, pre0 _ ?_, hrun, hended, _, _, rfl, ?_, ⟨_, rfl⟩, hW, hsame.mono (by decide) (by decide)⟩
  · show Steps p.tables e below (s₁.setTop (mkF m 0 #[.val (.ref (A 17))] [])) _
    refine XS.aloadN X0.here hx rfl (hb hby own_d_prog_40_method_6_code_0) rfl rfl ?_
    refine st345 _ ?_
    show Steps p.tables e below (T345.setTop (mkF m 4 #[.val (.ref (A 17))] [(.ref (A 13)), (.ref (A 17))])) _
    refine Jvm.RoadKit.acmp (g := (mkF m 4 #[.val (.ref (A 17))] [(.ref (A 13)), (.ref (A 17))])) X345 hx rfl rfl rfl (pc0 := 4) (pc' := 7) (same := false) rfl (hb hby own_d_prog_40_method_6_code_4) rfl (decide_eq_false fun q => (Fld.ne EN.2.2.2.2.2.2.2.2.1.2.2.2.2.2.2.2.1 EN.2.2.2.2.2.2.2.1.2.2.2.2.1 (fun h => by injection h with h; exact absurd h (by decide))) (Value.ref.inj q)) (by decide) (by decide) ?_
    show Steps p.tables e below (T345.setTop (mkF m 7 #[.val (.ref (A 17))] [])) _
    refine XS.aloadN X345.here hx rfl (hb hby own_d_prog_40_method_6_code_7) rfl rfl ?_
    refine st346 _ ?_
    show Steps p.tables e below (T346.setTop (mkF m 11 #[.val (.ref (A 17))] [(.ref (A 14)), (.ref (A 17))])) _
    refine Jvm.RoadKit.acmp (g := (mkF m 11 #[.val (.ref (A 17))] [(.ref (A 14)), (.ref (A 17))])) X346 hx rfl rfl rfl (pc0 := 11) (pc' := 14) (same := false) rfl (hb hby own_d_prog_40_method_6_code_11) rfl (decide_eq_false fun q => (Fld.ne EN.2.2.2.2.2.2.2.2.1.2.2.2.2.2.2.2.1 EN.2.2.2.2.2.2.2.1.2.2.2.2.2.1 (fun h => by injection h with h; exact absurd h (by decide))) (Value.ref.inj q)) (by decide) (by decide) ?_
    show Steps p.tables e below (T346.setTop (mkF m 14 #[.val (.ref (A 17))] [])) _
    refine XS.aloadN X346.here hx rfl (hb hby own_d_prog_40_method_6_code_14) rfl rfl ?_
    refine st347 _ ?_
    show Steps p.tables e below (T347.setTop (mkF m 18 #[.val (.ref (A 17))] [(.ref (A 15)), (.ref (A 17))])) _
    refine Jvm.RoadKit.acmp (g := (mkF m 18 #[.val (.ref (A 17))] [(.ref (A 15)), (.ref (A 17))])) X347 hx rfl rfl rfl (pc0 := 18) (pc' := 25) (same := false) rfl (hb hby own_d_prog_40_method_6_code_18) rfl (decide_eq_false fun q => (Fld.ne EN.2.2.2.2.2.2.2.2.1.2.2.2.2.2.2.2.1 EN.2.2.2.2.2.2.2.1.2.2.2.2.2.2.1 (fun h => by injection h with h; exact absurd h (by decide))) (Value.ref.inj q)) (by decide) (by decide) ?_
    show Steps p.tables e below (T347.setTop (mkF m 25 #[.val (.ref (A 17))] [])) _
    refine XS.iconst X347.here hx rfl (hb hby own_d_prog_40_method_6_code_25) ?_
    exact retN X347 hx (t := .boolean) Bd.returns (by simp) (hb hby own_d_prog_40_method_6_code_26) hr
  · show PQ (some (.int (0 : Int32))) h0 n0 _ T347.heap _
    rw [e347]
    exact ⟨rfl, N0, rfl⟩
theorem own_ef_rm55 (m : MethodId) (p1 : Int32) (p2 : Int32) (p3 : Int32) (A : Nat → Addr) (K : Nat → ClassId) (cs : Int32)  : entryFrame m #[(.ref (A 18))] 1 = mkF m 0 #[.val (.ref (A 18))] [] := by first | (simp [entryFrame, mkF, argsToLocals, Value.category, maxLocals]; done) | rfl
set_option maxRecDepth 65536 in
set_option maxHeartbeats 40000000 in
theorem rm55 (l : Launch) (Z : State) (a0 : Array Value) (hw : ∀ d ∈ tables_1, d.before a0 Z = true) (ws : List Jvm.Cond) (h0 : Heap) (n0 : Nat) (p1 : Int32) (p2 : Int32) (p3 : Int32) (A : Nat → Addr) (K : Nat → ClassId) (cs : Int32)  (EN : own_St Z A K cs) (OL0 : Old Z n0 h0) :
    MetFree l own_m0 (head1 (Jvm.Cond.code own_m0 prog_40_method_6_code 1 (some .boolean) :: ws) ({ frames := 0, cells := 0, slots := 0, locals := 0 } : Room)) (fun a U => a = #[(.ref (A 18))] ∧ Z.Warmed39 U.vm ∧ U.heap = h0) (fun _ _ _ _ _ => True) (fun _ U o U' => ∃ v L, o = .returned v ∧ (PQ (some (.int (0 : Int32))) h0 n0) v U'.heap L ∧ FrameEnd U o U' L ({ frames := 0, cells := 0, slots := 0, locals := 0 } : Room).cells ({ frames := 0, cells := 0, slots := 0, locals := 0 } : Room).slots) := by
  refine MetFree.of_bodySF (plainFor_of_name own_pn1) hisR ?_
  intro p e s m args below meth c s₁ Bd hml0 hP hK
  obtain ⟨rfl, hZ, hh⟩ := hP
  have hx := Bd.exec
  have hby := Bd.bytes
  have hml : c.maxLocals = 1 := hml0
  have hown : s.vm.findClass "com/example/tallywire/tallywire/wire/FieldType" = some m.cls := findClass_of_methodNamed Bd.named
  have hnm := (name_of_methodNamed Bd.named Bd.method).1
  have X0 : Stand p l e ({ frames := 0, cells := 0, slots := 0, locals := 0 } : Room) s m #[(.ref (A 18))] below meth c s₁ [] 0 0 := Stand.of_body Bd
  have e0 : s₁.heap = h0 := by rw [← hh, Bd.state]; rfl
  have N0 := Fr.nil n0
  have pre0 : ∀ t, Steps p.tables e below (s₁.setTop (mkF m 0 #[.val (.ref (A 18))] [])) t → Steps p.tables e below (s₁.setTop (entryFrame m #[(.ref (A 18))] 1)) t := fun t k => castTop (own_ef_rm55 m p1 p2 p3 A K cs ) k
  have KK0 : Keep h0 h0 [] := Keep.refl _ _
  obtain ⟨T350, X350, e350, st350⟩ := getS2 X0 hx hZ hown (host := "") (Or.inl (hw _ (List.mem_of_getElem? (i := 66) rfl))) Via.refl e0 (EN.2.2.2.1.2.2.1.ext OL0.2) (g := (mkF m 1 #[.val (.ref (A 18))] [(.ref (A 18))])) rfl (hb hby own_d_prog_40_method_6_code_1)
  obtain ⟨T351, X351, e351, st351⟩ := getS2 X350 hx hZ hown (host := "") (Or.inl (hw _ (List.mem_of_getElem? (i := 67) rfl))) Via.refl e350 (EN.2.2.2.1.2.2.2.2.1.ext OL0.2) (g := (mkF m 8 #[.val (.ref (A 18))] [(.ref (A 18))])) rfl (hb hby own_d_prog_40_method_6_code_8)
  obtain ⟨T352, X352, e352, st352⟩ := getS2 X351 hx hZ hown (host := "") (Or.inl (hw _ (List.mem_of_getElem? (i := 68) rfl))) Via.refl e351 (EN.2.2.2.1.2.2.2.2.2.2.1.ext OL0.2) (g := (mkF m 15 #[.val (.ref (A 18))] [(.ref (A 18))])) rfl (hb hby own_d_prog_40_method_6_code_15)
  obtain ⟨fs, hr, hrun, hended, hW, hsame⟩ := X352.leave (v := some (.int (0 : Int32))) (fun h => by rw [Bd.returns] at h; cases h)
  refine ⟨_, _, pre0 _ ?_, hrun, hended, _, _, rfl, ?_, ⟨_, rfl⟩, hW, hsame.mono (by decide) (by decide)⟩
  · show Steps p.tables e below (s₁.setTop (mkF m 0 #[.val (.ref (A 18))] [])) _
    refine XS.aloadN X0.here hx rfl (hb hby own_d_prog_40_method_6_code_0) rfl rfl ?_
    refine st350 _ ?_
    show Steps p.tables e below (T350.setTop (mkF m 4 #[.val (.ref (A 18))] [(.ref (A 13)), (.ref (A 18))])) _
    refine Jvm.RoadKit.acmp (g := (mkF m 4 #[.val (.ref (A 18))] [(.ref (A 13)), (.ref (A 18))])) X350 hx rfl rfl rfl (pc0 := 4) (pc' := 7) (same := false) rfl (hb hby own_d_prog_40_method_6_code_4) rfl (decide_eq_false fun q => (Fld.ne EN.2.2.2.2.2.2.2.2.2.1.2.2.2.2.2.2.1 EN.2.2.2.2.2.2.2.1.2.2.2.2.1 (fun h => by injection h with h; exact absurd h (by decide))) (Value.ref.inj q)) (by decide) (by decide) ?_
    show Steps p.tables e below (T350.setTop (mkF m 7 #[.val (.ref (A 18))] [])) _
    refine XS.aloadN X350.here hx rfl (hb hby own_d_prog_40_method_6_code_7) rfl rfl ?_
    refine st351 _ ?_
    show Steps p.tables e below (T351.setTop (mkF m 11 #[.val (.ref (A 18))] [(.ref (A 14)), (.ref (A 18))])) _
    refine Jvm.RoadKit.acmp (g := (mkF m 11 #[.val (.ref (A 18))] [(.ref (A 14)), (.ref (A 18))])) X351 hx rfl rfl rfl (pc0 := 11) (pc' := 14) (same := false) rfl (hb hby own_d_prog_40_method_6_code_11) rfl (decide_eq_false fun q => (Fld.ne EN.2.2.2.2.2.2.2.2.2.1.2.2.2.2.2.2.1 EN.2.2.2.2.2.2.2.1.2.2.2.2.2.1 (fun h => by injection h with h; exact absurd h (by decide))) (Value.ref.inj q)) (by decide) (by decide) ?_
    show Steps p.tables e below (T351.setTop (mkF m 14 #[.val (.ref (A 18))] [])) _
    refine XS.aloadN X351.here hx rfl (hb hby own_d_prog_40_method_6_code_14) rfl rfl ?_
    refine st352 _ ?_
    show Steps p.tables e below (T352.setTop (mkF m 18 #[.val (.ref (A 18))] [(.ref (A 15)), (.ref (A 18))])) _
    refine Jvm.RoadKit.acmp (g := (mkF m 18 #[.val (.ref (A 18))] [(.ref (A 15)), (.ref (A 18))])) X352 hx rfl rfl rfl (pc0 := 18) (pc' := 25) (same := false) rfl (hb hby own_d_prog_40_method_6_code_18) rfl (decide_eq_false fun q => (Fld.ne EN.2.2.2.2.2.2.2.2.2.1.2.2.2.2.2.2.1 EN.2.2.2.2.2.2.2.1.2.2.2.2.2.2.1 (fun h => by injection h with h; exact absurd h (by decide))) (Value.ref.inj q)) (by decide) (by decide) ?_
    show Steps p.tables e below (T352.setTop (mkF m 25 #[.val (.ref (A 18))] [])) _
    refine XS.iconst X352.here hx rfl (hb hby own_d_prog_40_method_6_code_25) ?_
    exact retN X352 hx (t := .boolean) Bd.returns (by simp) (hb hby own_d_prog_40_method_6_code_26) hr
  · show PQ (some (.int (0 : Int32))) h0 n0 _ T352.heap _
    rw [e352]
    exact ⟨rfl, N0, rfl⟩
theorem own_ef_rm56 (m : MethodId) (p1 : Int32) (p2 : Int32) (p3 : Int32) (A : Nat → Addr) (K : Nat → ClassId) (cs : Int32)  : entryFrame m #[(.ref (A 19))] 1 = mkF m 0 #[.val (.ref (A 19))] [] := by first | (simp [entryFrame, mkF, argsToLocals, Value.category, maxLocals]; done) | rfl
set_option maxRecDepth 65536 in
set_option maxHeartbeats 40000000 in
theorem rm56 (l : Launch) (Z : State) (a0 : Array Value) (hw : ∀ d ∈ tables_1, d.before a0 Z = true) (ws : List Jvm.Cond) (h0 : Heap) (n0 : Nat) (p1 : Int32) (p2 : Int32) (p3 : Int32) (A : Nat → Addr) (K : Nat → ClassId) (cs : Int32)  (EN : own_St Z A K cs) (OL0 : Old Z n0 h0) :
    MetFree l own_m0 (head1 (Jvm.Cond.code own_m0 prog_40_method_6_code 1 (some .boolean) :: ws) ({ frames := 0, cells := 0, slots := 0, locals := 0 } : Room)) (fun a U => a = #[(.ref (A 19))] ∧ Z.Warmed39 U.vm ∧ U.heap = h0) (fun _ _ _ _ _ => True) (fun _ U o U' => ∃ v L, o = .returned v ∧ (PQ (some (.int (0 : Int32))) h0 n0) v U'.heap L ∧ FrameEnd U o U' L ({ frames := 0, cells := 0, slots := 0, locals := 0 } : Room).cells ({ frames := 0, cells := 0, slots := 0, locals := 0 } : Room).slots) := by
  refine MetFree.of_bodySF (plainFor_of_name own_pn1) hisR ?_
  intro p e s m args below meth c s₁ Bd hml0 hP hK
  obtain ⟨rfl, hZ, hh⟩ := hP
  have hx := Bd.exec
  have hby := Bd.bytes
  have hml : c.maxLocals = 1 := hml0
  have hown : s.vm.findClass "com/example/tallywire/tallywire/wire/FieldType" = some m.cls := findClass_of_methodNamed Bd.named
  have hnm := (name_of_methodNamed Bd.named Bd.method).1
  have X0 : Stand p l e ({ frames := 0, cells := 0, slots := 0, locals := 0 } : Room) s m #[(.ref (A 19))] below meth c s₁ [] 0 0 := Stand.of_body Bd
  have e0 : s₁.heap = h0 := by rw [← hh, Bd.state]; rfl
  have N0 := Fr.nil n0
  have pre0 : ∀ t, Steps p.tables e below (s₁.setTop (mkF m 0 #[.val (.ref (A 19))] [])) t → Steps p.tables e below (s₁.setTop (entryFrame m #[(.ref (A 19))] 1)) t := fun t k => castTop (own_ef_rm56 m p1 p2 p3 A K cs ) k
  have KK0 : Keep h0 h0 [] := Keep.refl _ _
  obtain ⟨T355, X355, e355, st355⟩ := getS2 X0 hx hZ hown (host := "") (Or.inl (hw _ (List.mem_of_getElem? (i := 66) rfl))) Via.refl e0 (EN.2.2.2.1.2.2.1.ext OL0.2) (g := (mkF m 1 #[.val (.ref (A 19))] [(.ref (A 19))])) rfl (hb hby own_d_prog_40_method_6_code_1)
  obtain ⟨T356, X356, e356, st356⟩ := getS2 X355 hx hZ hown (host := "") (Or.inl (hw _ (List.mem_of_getElem? (i := 67) rfl))) Via.refl e355 (EN.2.2.2.1.2.2.2.2.1.ext OL0.2) (g := (mkF m 8 #[.val (.ref (A 19))] [(.ref (A 19))])) rfl (hb hby own_d_prog_40_method_6_code_8)
  obtain ⟨T357, X357, e357, st357⟩ := getS2 X356 hx hZ hown (host := "") (Or.inl (hw _ (List.mem_of_getElem? (i := 68) rfl))) Via.refl e356 (EN.2.2.2.1.2.2.2.2.2.2.1.ext OL0.2) (g := (mkF m 15 #[.val (.ref (A 19))] [(.ref (A 19))])) rfl (hb hby own_d_prog_40_method_6_code_15)
  obtain ⟨fs, hr, hrun, hended, hW, hsame⟩ := X357.leave (v := some (.int (0 : Int32))) (fun h => by rw [Bd.returns] at h; cases h)
  refine ⟨_, _, pre0 _ ?_, hrun, hended, _, _, rfl, ?_, ⟨_, rfl⟩, hW, hsame.mono (by decide) (by decide)⟩
  · show Steps p.tables e below (s₁.setTop (mkF m 0 #[.val (.ref (A 19))] [])) _
    refine XS.aloadN X0.here hx rfl (hb hby own_d_prog_40_method_6_code_0) rfl rfl ?_
    refine st355 _ ?_
    show Steps p.tables e below (T355.setTop (mkF m 4 #[.val (.ref (A 19))] [(.ref (A 13)), (.ref (A 19))])) _
    refine Jvm.RoadKit.acmp (g := (mkF m 4 #[.val (.ref (A 19))] [(.ref (A 13)), (.ref (A 19))])) X355 hx rfl rfl rfl (pc0 := 4) (pc' := 7) (same := false) rfl (hb hby own_d_prog_40_method_6_code_4) rfl (decide_eq_false fun q => (Fld.ne EN.2.2.2.2.2.2.2.2.1.2.1 EN.2.2.2.2.2.2.2.1.2.2.2.2.1 (fun h => by injection h with h; exact absurd h (by decide))) (Value.ref.inj q)) (by decide) (by decide) ?_
    show Steps p.tables e below (T355.setTop (mkF m 7 #[.val (.ref (A 19))] [])) _
    refine XS.aloadN X355.here hx rfl (hb hby own_d_prog_40_method_6_code_7) rfl rfl ?_
    refine st356 _ ?_
    show Steps p.tables e below (T356.setTop (mkF m 11 #[.val (.ref (A 19))] [(.ref (A 14)), (.ref (A 19))])) _
    refine Jvm.RoadKit.acmp (g := (mkF m 11 #[.val (.ref (A 19))] [(.ref (A 14)), (.ref (A 19))])) X356 hx rfl rfl rfl (pc0 := 11) (pc' := 14) (same := false) rfl (hb hby own_d_prog_40_method_6_code_11) rfl (decide_eq_false fun q => (Fld.ne EN.2.2.2.2.2.2.2.2.1.2.1 EN.2.2.2.2.2.2.2.1.2.2.2.2.2.1 (fun h => by injection h with h; exact absurd h (by decide))) (Value.ref.inj q)) (by decide) (by decide) ?_
    show Steps p.tables e below (T356.setTop (mkF m 14 #[.val (.ref (A 19))] [])) _
    refine XS.aloadN X356.here hx rfl (hb hby own_d_prog_40_method_6_code_14) rfl rfl ?_
    refine st357 _ ?_
    show Steps p.tables e below (T357.setTop (mkF m 18 #[.val (.ref (A 19))] [(.ref (A 15)), (.ref (A 19))])) _
    refine Jvm.RoadKit.acmp (g := (mkF m 18 #[.val (.ref (A 19))] [(.ref (A 15)), (.ref (A 19))])) X357 hx rfl rfl rfl (pc0 := 18) (pc' := 25) (same := false) rfl (hb hby own_d_prog_40_method_6_code_18) rfl (decide_eq_false fun q => (Fld.ne EN.2.2.2.2.2.2.2.2.1.2.1 EN.2.2.2.2.2.2.2.1.2.2.2.2.2.2.1 (fun h => by injection h with h; exact absurd h (by decide))) (Value.ref.inj q)) (by decide) (by decide) ?_
    show Steps p.tables e below (T357.setTop (mkF m 25 #[.val (.ref (A 19))] [])) _
    refine XS.iconst X357.here hx rfl (hb hby own_d_prog_40_method_6_code_25) ?_
    exact retN X357 hx (t := .boolean) Bd.returns (by simp) (hb hby own_d_prog_40_method_6_code_26) hr
  · show PQ (some (.int (0 : Int32))) h0 n0 _ T357.heap _
    rw [e357]
    exact ⟨rfl, N0, rfl⟩
theorem own_ef_rm57 (m : MethodId) (p1 : Int32) (p2 : Int32) (p3 : Int32) (A : Nat → Addr) (K : Nat → ClassId) (cs : Int32)  : entryFrame m #[(.ref (A 20))] 1 = mkF m 0 #[.val (.ref (A 20))] [] := by first | (simp [entryFrame, mkF, argsToLocals, Value.category, maxLocals]; done) | rfl
set_option maxRecDepth 65536 in
set_option maxHeartbeats 40000000 in
theorem rm57 (l : Launch) (Z : State) (a0 : Array Value) (hw : ∀ d ∈ tables_1, d.before a0 Z = true) (ws : List Jvm.Cond) (h0 : Heap) (n0 : Nat) (p1 : Int32) (p2 : Int32) (p3 : Int32) (A : Nat → Addr) (K : Nat → ClassId) (cs : Int32)  (EN : own_St Z A K cs) (OL0 : Old Z n0 h0) :
    MetFree l own_m0 (head1 (Jvm.Cond.code own_m0 prog_40_method_6_code 1 (some .boolean) :: ws) ({ frames := 0, cells := 0, slots := 0, locals := 0 } : Room)) (fun a U => a = #[(.ref (A 20))] ∧ Z.Warmed39 U.vm ∧ U.heap = h0) (fun _ _ _ _ _ => True) (fun _ U o U' => ∃ v L, o = .returned v ∧ (PQ (some (.int (0 : Int32))) h0 n0) v U'.heap L ∧ FrameEnd U o U' L ({ frames := 0, cells := 0, slots := 0, locals := 0 } : Room).cells ({ frames := 0, cells := 0, slots := 0, locals := 0 } : Room).slots) := by
  refine MetFree.of_bodySF (plainFor_of_name own_pn1) hisR ?_
  intro p e s m args below meth c s₁ Bd hml0 hP hK
  obtain ⟨rfl, hZ, hh⟩ := hP
  have hx := Bd.exec
  have hby := Bd.bytes
  have hml : c.maxLocals = 1 := hml0
  have hown : s.vm.findClass "com/example/tallywire/tallywire/wire/FieldType" = some m.cls := findClass_of_methodNamed Bd.named
  have hnm := (name_of_methodNamed Bd.named Bd.method).1
  have X0 : Stand p l e ({ frames := 0, cells := 0, slots := 0, locals := 0 } : Room) s m #[(.ref (A 20))] below meth c s₁ [] 0 0 := Stand.of_body Bd
  have e0 : s₁.heap = h0 := by rw [← hh, Bd.state]; rfl
  have N0 := Fr.nil n0
  have pre0 : ∀ t, Steps p.tables e below (s₁.setTop (mkF m 0 #[.val (.ref (A 20))] [])) t → Steps p.tables e below (s₁.setTop (entryFrame m #[(.ref (A 20))] 1)) t := fun t k => castTop (own_ef_rm57 m p1 p2 p3 A K cs ) k
  have KK0 : Keep h0 h0 [] := Keep.refl _ _
  obtain ⟨T360, X360, e360, st360⟩ := getS2 X0 hx hZ hown (host := "") (Or.inl (hw _ (List.mem_of_getElem? (i := 66) rfl))) Via.refl e0 (EN.2.2.2.1.2.2.1.ext OL0.2) (g := (mkF m 1 #[.val (.ref (A 20))] [(.ref (A 20))])) rfl (hb hby own_d_prog_40_method_6_code_1)
  obtain ⟨T361, X361, e361, st361⟩ := getS2 X360 hx hZ hown (host := "") (Or.inl (hw _ (List.mem_of_getElem? (i := 67) rfl))) Via.refl e360 (EN.2.2.2.1.2.2.2.2.1.ext OL0.2) (g := (mkF m 8 #[.val (.ref (A 20))] [(.ref (A 20))])) rfl (hb hby own_d_prog_40_method_6_code_8)
  obtain ⟨T362, X362, e362, st362⟩ := getS2 X361 hx hZ hown (host := "") (Or.inl (hw _ (List.mem_of_getElem? (i := 68) rfl))) Via.refl e361 (EN.2.2.2.1.2.2.2.2.2.2.1.ext OL0.2) (g := (mkF m 15 #[.val (.ref (A 20))] [(.ref (A 20))])) rfl (hb hby own_d_prog_40_method_6_code_15)
  obtain ⟨fs, hr, hrun, hended, hW, hsame⟩ := X362.leave (v := some (.int (0 : Int32))) (fun h => by rw [Bd.returns] at h; cases h)
  refine ⟨_, _, pre0 _ ?_, hrun, hended, _, _, rfl, ?_, ⟨_, rfl⟩, hW, hsame.mono (by decide) (by decide)⟩
  · show Steps p.tables e below (s₁.setTop (mkF m 0 #[.val (.ref (A 20))] [])) _
    refine XS.aloadN X0.here hx rfl (hb hby own_d_prog_40_method_6_code_0) rfl rfl ?_
    refine st360 _ ?_
    show Steps p.tables e below (T360.setTop (mkF m 4 #[.val (.ref (A 20))] [(.ref (A 13)), (.ref (A 20))])) _
    refine Jvm.RoadKit.acmp (g := (mkF m 4 #[.val (.ref (A 20))] [(.ref (A 13)), (.ref (A 20))])) X360 hx rfl rfl rfl (pc0 := 4) (pc' := 7) (same := false) rfl (hb hby own_d_prog_40_method_6_code_4) rfl (decide_eq_false fun q => (Fld.ne EN.2.2.2.2.2.2.2.2.2.2.1.2.2.2.1 EN.2.2.2.2.2.2.2.1.2.2.2.2.1 (fun h => by injection h with h; exact absurd h (by decide))) (Value.ref.inj q)) (by decide) (by decide) ?_
    show Steps p.tables e below (T360.setTop (mkF m 7 #[.val (.ref (A 20))] [])) _
    refine XS.aloadN X360.here hx rfl (hb hby own_d_prog_40_method_6_code_7) rfl rfl ?_
    refine st361 _ ?_
    show Steps p.tables e below (T361.setTop (mkF m 11 #[.val (.ref (A 20))] [(.ref (A 14)), (.ref (A 20))])) _
    refine Jvm.RoadKit.acmp (g := (mkF m 11 #[.val (.ref (A 20))] [(.ref (A 14)), (.ref (A 20))])) X361 hx rfl rfl rfl (pc0 := 11) (pc' := 14) (same := false) rfl (hb hby own_d_prog_40_method_6_code_11) rfl (decide_eq_false fun q => (Fld.ne EN.2.2.2.2.2.2.2.2.2.2.1.2.2.2.1 EN.2.2.2.2.2.2.2.1.2.2.2.2.2.1 (fun h => by injection h with h; exact absurd h (by decide))) (Value.ref.inj q)) (by decide) (by decide) ?_
    show Steps p.tables e below (T361.setTop (mkF m 14 #[.val (.ref (A 20))] [])) _
    refine XS.aloadN X361.here hx rfl (hb hby own_d_prog_40_method_6_code_14) rfl rfl ?_
    refine st362 _ ?_
    show Steps p.tables e below (T362.setTop (mkF m 18 #[.val (.ref (A 20))] [(.ref (A 15)), (.ref (A 20))])) _
    refine Jvm.RoadKit.acmp (g := (mkF m 18 #[.val (.ref (A 20))] [(.ref (A 15)), (.ref (A 20))])) X362 hx rfl rfl rfl (pc0 := 18) (pc' := 25) (same := false) rfl (hb hby own_d_prog_40_method_6_code_18) rfl (decide_eq_false fun q => (Fld.ne EN.2.2.2.2.2.2.2.2.2.2.1.2.2.2.1 EN.2.2.2.2.2.2.2.1.2.2.2.2.2.2.1 (fun h => by injection h with h; exact absurd h (by decide))) (Value.ref.inj q)) (by decide) (by decide) ?_
    show Steps p.tables e below (T362.setTop (mkF m 25 #[.val (.ref (A 20))] [])) _
    refine XS.iconst X362.here hx rfl (hb hby own_d_prog_40_method_6_code_25) ?_
    exact retN X362 hx (t := .boolean) Bd.returns (by simp) (hb hby own_d_prog_40_method_6_code_26) hr
  · show PQ (some (.int (0 : Int32))) h0 n0 _ T362.heap _
    rw [e362]
    exact ⟨rfl, N0, rfl⟩
theorem own_ef_rm58 (m : MethodId) (p1 : Int32) (p2 : Int32) (p3 : Int32) (A : Nat → Addr) (K : Nat → ClassId) (cs : Int32)  : entryFrame m #[(.ref (A 21))] 1 = mkF m 0 #[.val (.ref (A 21))] [] := by first | (simp [entryFrame, mkF, argsToLocals, Value.category, maxLocals]; done) | rfl
set_option maxRecDepth 65536 in
set_option maxHeartbeats 40000000 in
theorem rm58 (l : Launch) (Z : State) (a0 : Array Value) (hw : ∀ d ∈ tables_1, d.before a0 Z = true) (ws : List Jvm.Cond) (h0 : Heap) (n0 : Nat) (p1 : Int32) (p2 : Int32) (p3 : Int32) (A : Nat → Addr) (K : Nat → ClassId) (cs : Int32)  (EN : own_St Z A K cs) (OL0 : Old Z n0 h0) :
    MetFree l own_m0 (head1 (Jvm.Cond.code own_m0 prog_40_method_6_code 1 (some .boolean) :: ws) ({ frames := 0, cells := 0, slots := 0, locals := 0 } : Room)) (fun a U => a = #[(.ref (A 21))] ∧ Z.Warmed39 U.vm ∧ U.heap = h0) (fun _ _ _ _ _ => True) (fun _ U o U' => ∃ v L, o = .returned v ∧ (PQ (some (.int (0 : Int32))) h0 n0) v U'.heap L ∧ FrameEnd U o U' L ({ frames := 0, cells := 0, slots := 0, locals := 0 } : Room).cells ({ frames := 0, cells := 0, slots := 0, locals := 0 } : Room).slots) := by
  refine MetFree.of_bodySF (plainFor_of_name own_pn1) hisR ?_
  intro p e s m args below meth c s₁ Bd hml0 hP hK
  obtain ⟨rfl, hZ, hh⟩ := hP
  have hx := Bd.exec
  have hby := Bd.bytes
  have hml : c.maxLocals = 1 := hml0
  have hown : s.vm.findClass "com/example/tallywire/tallywire/wire/FieldType" = some m.cls := findClass_of_methodNamed Bd.named
  have hnm := (name_of_methodNamed Bd.named Bd.method).1
  have X0 : Stand p l e ({ frames := 0, cells := 0, slots := 0, locals := 0 } : Room) s m #[(.ref (A 21))] below meth c s₁ [] 0 0 := Stand.of_body Bd
  have e0 : s₁.heap = h0 := by rw [← hh, Bd.state]; rfl
  have N0 := Fr.nil n0
  have pre0 : ∀ t, Steps p.tables e below (s₁.setTop (mkF m 0 #[.val (.ref (A 21))] [])) t → Steps p.tables e below (s₁.setTop (entryFrame m #[(.ref (A 21))] 1)) t := fun t k => castTop (own_ef_rm58 m p1 p2 p3 A K cs ) k
  have KK0 : Keep h0 h0 [] := Keep.refl _ _
  obtain ⟨T365, X365, e365, st365⟩ := getS2 X0 hx hZ hown (host := "") (Or.inl (hw _ (List.mem_of_getElem? (i := 66) rfl))) Via.refl e0 (EN.2.2.2.1.2.2.1.ext OL0.2) (g := (mkF m 1 #[.val (.ref (A 21))] [(.ref (A 21))])) rfl (hb hby own_d_prog_40_method_6_code_1)
  obtain ⟨T366, X366, e366, st366⟩ := getS2 X365 hx hZ hown (host := "") (Or.inl (hw _ (List.mem_of_getElem? (i := 67) rfl))) Via.refl e365 (EN.2.2.2.1.2.2.2.2.1.ext OL0.2) (g := (mkF m 8 #[.val (.ref (A 21))] [(.ref (A 21))])) rfl (hb hby own_d_prog_40_method_6_code_8)
  obtain ⟨T367, X367, e367, st367⟩ := getS2 X366 hx hZ hown (host := "") (Or.inl (hw _ (List.mem_of_getElem? (i := 68) rfl))) Via.refl e366 (EN.2.2.2.1.2.2.2.2.2.2.1.ext OL0.2) (g := (mkF m 15 #[.val (.ref (A 21))] [(.ref (A 21))])) rfl (hb hby own_d_prog_40_method_6_code_15)
  obtain ⟨fs, hr, hrun, hended, hW, hsame⟩ := X367.leave (v := some (.int (0 : Int32))) (fun h => by rw [Bd.returns] at h; cases h)
  refine ⟨_, _, pre0 _ ?_, hrun, hended, _, _, rfl, ?_, ⟨_, rfl⟩, hW, hsame.mono (by decide) (by decide)⟩
  · show Steps p.tables e below (s₁.setTop (mkF m 0 #[.val (.ref (A 21))] [])) _
    refine XS.aloadN X0.here hx rfl (hb hby own_d_prog_40_method_6_code_0) rfl rfl ?_
    refine st365 _ ?_
    show Steps p.tables e below (T365.setTop (mkF m 4 #[.val (.ref (A 21))] [(.ref (A 13)), (.ref (A 21))])) _
    refine Jvm.RoadKit.acmp (g := (mkF m 4 #[.val (.ref (A 21))] [(.ref (A 13)), (.ref (A 21))])) X365 hx rfl rfl rfl (pc0 := 4) (pc' := 7) (same := false) rfl (hb hby own_d_prog_40_method_6_code_4) rfl (decide_eq_false fun q => (Fld.ne EN.2.2.2.2.2.2.2.2.2.2.1.2.1 EN.2.2.2.2.2.2.2.1.2.2.2.2.1 (fun h => by injection h with h; exact absurd h (by decide))) (Value.ref.inj q)) (by decide) (by decide) ?_
    show Steps p.tables e below (T365.setTop (mkF m 7 #[.val (.ref (A 21))] [])) _
    refine XS.aloadN X365.here hx rfl (hb hby own_d_prog_40_method_6_code_7) rfl rfl ?_
    refine st366 _ ?_
    show Steps p.tables e below (T366.setTop (mkF m 11 #[.val (.ref (A 21))] [(.ref (A 14)), (.ref (A 21))])) _
    refine Jvm.RoadKit.acmp (g := (mkF m 11 #[.val (.ref (A 21))] [(.ref (A 14)), (.ref (A 21))])) X366 hx rfl rfl rfl (pc0 := 11) (pc' := 14) (same := false) rfl (hb hby own_d_prog_40_method_6_code_11) rfl (decide_eq_false fun q => (Fld.ne EN.2.2.2.2.2.2.2.2.2.2.1.2.1 EN.2.2.2.2.2.2.2.1.2.2.2.2.2.1 (fun h => by injection h with h; exact absurd h (by decide))) (Value.ref.inj q)) (by decide) (by decide) ?_
    show Steps p.tables e below (T366.setTop (mkF m 14 #[.val (.ref (A 21))] [])) _
    refine XS.aloadN X366.here hx rfl (hb hby own_d_prog_40_method_6_code_14) rfl rfl ?_
    refine st367 _ ?_
    show Steps p.tables e below (T367.setTop (mkF m 18 #[.val (.ref (A 21))] [(.ref (A 15)), (.ref (A 21))])) _
    refine Jvm.RoadKit.acmp (g := (mkF m 18 #[.val (.ref (A 21))] [(.ref (A 15)), (.ref (A 21))])) X367 hx rfl rfl rfl (pc0 := 18) (pc' := 25) (same := false) rfl (hb hby own_d_prog_40_method_6_code_18) rfl (decide_eq_false fun q => (Fld.ne EN.2.2.2.2.2.2.2.2.2.2.1.2.1 EN.2.2.2.2.2.2.2.1.2.2.2.2.2.2.1 (fun h => by injection h with h; exact absurd h (by decide))) (Value.ref.inj q)) (by decide) (by decide) ?_
    show Steps p.tables e below (T367.setTop (mkF m 25 #[.val (.ref (A 21))] [])) _
    refine XS.iconst X367.here hx rfl (hb hby own_d_prog_40_method_6_code_25) ?_
    exact retN X367 hx (t := .boolean) Bd.returns (by simp) (hb hby own_d_prog_40_method_6_code_26) hr
  · show PQ (some (.int (0 : Int32))) h0 n0 _ T367.heap _
    rw [e367]
    exact ⟨rfl, N0, rfl⟩
theorem own_ef_rm59 (m : MethodId) (p1 : Int32) (p2 : Int32) (p3 : Int32) (A : Nat → Addr) (K : Nat → ClassId) (cs : Int32)  : entryFrame m #[(.ref (A 22))] 1 = mkF m 0 #[.val (.ref (A 22))] [] := by first | (simp [entryFrame, mkF, argsToLocals, Value.category, maxLocals]; done) | rfl
set_option maxRecDepth 65536 in
set_option maxHeartbeats 40000000 in
theorem rm59 (l : Launch) (Z : State) (a0 : Array Value) (hw : ∀ d ∈ tables_1, d.before a0 Z = true) (ws : List Jvm.Cond) (h0 : Heap) (n0 : Nat) (p1 : Int32) (p2 : Int32) (p3 : Int32) (A : Nat → Addr) (K : Nat → ClassId) (cs : Int32)  (EN : own_St Z A K cs) (OL0 : Old Z n0 h0) :
    MetFree l own_m0 (head1 (Jvm.Cond.code own_m0 prog_40_method_6_code 1 (some .boolean) :: ws) ({ frames := 0, cells := 0, slots := 0, locals := 0 } : Room)) (fun a U => a = #[(.ref (A 22))] ∧ Z.Warmed39 U.vm ∧ U.heap = h0) (fun _ _ _ _ _ => True) (fun _ U o U' => ∃ v L, o = .returned v ∧ (PQ (some (.int (0 : Int32))) h0 n0) v U'.heap L ∧ FrameEnd U o U' L ({ frames := 0, cells := 0, slots := 0, locals := 0 } : Room).cells ({ frames := 0, cells := 0, slots := 0, locals := 0 } : Room).slots) := by
  refine MetFree.of_bodySF (plainFor_of_name own_pn1) hisR ?_
  intro p e s m args below meth c s₁ Bd hml0 hP hK
  obtain ⟨rfl, hZ, hh⟩ := hP
  have hx := Bd.exec
  have hby := Bd.bytes
  have hml : c.maxLocals = 1 := hml0
  have hown : s.vm.findClass "com/example/tallywire/tallywire/wire/FieldType" = some m.cls := findClass_of_methodNamed Bd.named
  have hnm := (name_of_methodNamed Bd.named Bd.method).1
  have X0 : Stand p l e ({ frames := 0, cells := 0, slots := 0, locals := 0 } : Room) s m #[(.ref (A 22))] below meth c s₁ [] 0 0 := Stand.of_body Bd
  have e0 : s₁.heap = h0 := by rw [← hh, Bd.state]; rfl
  have N0 := Fr.nil n0
  have pre0 : ∀ t, Steps p.tables e below (s₁.setTop (mkF m 0 #[.val (.ref (A 22))] [])) t → Steps p.tables e below (s₁.setTop (entryFrame m #[(.ref (A 22))] 1)) t := fun t k => castTop (own_ef_rm59 m p1 p2 p3 A K cs ) k
  have KK0 : Keep h0 h0 [] := Keep.refl _ _
  obtain ⟨T370, X370, e370, st370⟩ := getS2 X0 hx hZ hown (host := "") (Or.inl (hw _ (List.mem_of_getElem? (i := 66) rfl))) Via.refl e0 (EN.2.2.2.1.2.2.1.ext OL0.2) (g := (mkF m 1 #[.val (.ref (A 22))] [(.ref (A 22))])) rfl (hb hby own_d_prog_40_method_6_code_1)
  obtain ⟨T371, X371, e371, st371⟩ := getS2 X370 hx hZ hown (host := "") (Or.inl (hw _ (List.mem_of_getElem? (i := 67) rfl))) Via.refl e370 (EN.2.2.2.1.2.2.2.2.1.ext OL0.2) (g := (mkF m 8 #[.val (.ref (A 22))] [(.ref (A 22))])) rfl (hb hby own_d_prog_40_method_6_code_8)
  obtain ⟨T372, X372, e372, st372⟩ := getS2 X371 hx hZ hown (host := "") (Or.inl (hw _ (List.mem_of_getElem? (i := 68) rfl))) Via.refl e371 (EN.2.2.2.1.2.2.2.2.2.2.1.ext OL0.2) (g := (mkF m 15 #[.val (.ref (A 22))] [(.ref (A 22))])) rfl (hb hby own_d_prog_40_method_6_code_15)
  obtain ⟨fs, hr, hrun, hended, hW, hsame⟩ := X372.leave (v := some (.int (0 : Int32))) (fun h => by rw [Bd.returns] at h; cases h)
  refine ⟨_, _, pre0 _ ?_, hrun, hended, _, _, rfl, ?_, ⟨_, rfl⟩, hW, hsame.mono (by decide) (by decide)⟩
  · show Steps p.tables e below (s₁.setTop (mkF m 0 #[.val (.ref (A 22))] [])) _
    refine XS.aloadN X0.here hx rfl (hb hby own_d_prog_40_method_6_code_0) rfl rfl ?_
    refine st370 _ ?_
    show Steps p.tables e below (T370.setTop (mkF m 4 #[.val (.ref (A 22))] [(.ref (A 13)), (.ref (A 22))])) _
    refine Jvm.RoadKit.acmp (g := (mkF m 4 #[.val (.ref (A 22))] [(.ref (A 13)), (.ref (A 22))])) X370 hx rfl rfl rfl (pc0 := 4) (pc' := 7) (same := false) rfl (hb hby own_d_prog_40_method_6_code_4) rfl (decide_eq_false fun q => (Fld.ne EN.2.2.2.2.2.2.2.2.2.1.2.2.1 EN.2.2.2.2.2.2.2.1.2.2.2.2.1 (fun h => by injection h with h; exact absurd h (by decide))) (Value.ref.inj q)) (by decide) (by decide) ?_
    show Steps p.tables e below (T370.setTop (mkF m 7 #[.val (.ref (A 22))] [])) _
    refine XS.aloadN X370.here hx rfl (hb hby own_d_prog_40_method_6_code_7) rfl rfl ?_
    refine st371 _ ?_
    show Steps p.tables e below (T371.setTop (mkF m 11 #[.val (.ref (A 22))] [(.ref (A 14)), (.ref (A 22))])) _
    refine Jvm.RoadKit.acmp (g := (mkF m 11 #[.val (.ref (A 22))] [(.ref (A 14)), (.ref (A 22))])) X371 hx rfl rfl rfl (pc0 := 11) (pc' := 14) (same := false) rfl (hb hby own_d_prog_40_method_6_code_11) rfl (decide_eq_false fun q => (Fld.ne EN.2.2.2.2.2.2.2.2.2.1.2.2.1 EN.2.2.2.2.2.2.2.1.2.2.2.2.2.1 (fun h => by injection h with h; exact absurd h (by decide))) (Value.ref.inj q)) (by decide) (by decide) ?_
    show Steps p.tables e below (T371.setTop (mkF m 14 #[.val (.ref (A 22))] [])) _
    refine XS.aloadN X371.here hx rfl (hb hby own_d_prog_40_method_6_code_14) rfl rfl ?_
    refine st372 _ ?_
    show Steps p.tables e below (T372.setTop (mkF m 18 #[.val (.ref (A 22))] [(.ref (A 15)), (.ref (A 22))])) _
    refine Jvm.RoadKit.acmp (g := (mkF m 18 #[.val (.ref (A 22))] [(.ref (A 15)), (.ref (A 22))])) X372 hx rfl rfl rfl (pc0 := 18) (pc' := 25) (same := false) rfl (hb hby own_d_prog_40_method_6_code_18) rfl (decide_eq_false fun q => (Fld.ne EN.2.2.2.2.2.2.2.2.2.1.2.2.1 EN.2.2.2.2.2.2.2.1.2.2.2.2.2.2.1 (fun h => by injection h with h; exact absurd h (by decide))) (Value.ref.inj q)) (by decide) (by decide) ?_
    show Steps p.tables e below (T372.setTop (mkF m 25 #[.val (.ref (A 22))] [])) _
    refine XS.iconst X372.here hx rfl (hb hby own_d_prog_40_method_6_code_25) ?_
    exact retN X372 hx (t := .boolean) Bd.returns (by simp) (hb hby own_d_prog_40_method_6_code_26) hr
  · show PQ (some (.int (0 : Int32))) h0 n0 _ T372.heap _
    rw [e372]
    exact ⟨rfl, N0, rfl⟩
theorem own_ef_rm60 (m : MethodId) (p1 : Int32) (p2 : Int32) (p3 : Int32) (A : Nat → Addr) (K : Nat → ClassId) (cs : Int32)  : entryFrame m #[(.ref (A 23))] 1 = mkF m 0 #[.val (.ref (A 23))] [] := by first | (simp [entryFrame, mkF, argsToLocals, Value.category, maxLocals]; done) | rfl
set_option maxRecDepth 65536 in
set_option maxHeartbeats 40000000 in
theorem rm60 (l : Launch) (Z : State) (a0 : Array Value) (hw : ∀ d ∈ tables_1, d.before a0 Z = true) (ws : List Jvm.Cond) (h0 : Heap) (n0 : Nat) (p1 : Int32) (p2 : Int32) (p3 : Int32) (A : Nat → Addr) (K : Nat → ClassId) (cs : Int32)  (EN : own_St Z A K cs) (OL0 : Old Z n0 h0) :
    MetFree l own_m0 (head1 (Jvm.Cond.code own_m0 prog_40_method_6_code 1 (some .boolean) :: ws) ({ frames := 0, cells := 0, slots := 0, locals := 0 } : Room)) (fun a U => a = #[(.ref (A 23))] ∧ Z.Warmed39 U.vm ∧ U.heap = h0) (fun _ _ _ _ _ => True) (fun _ U o U' => ∃ v L, o = .returned v ∧ (PQ (some (.int (0 : Int32))) h0 n0) v U'.heap L ∧ FrameEnd U o U' L ({ frames := 0, cells := 0, slots := 0, locals := 0 } : Room).cells ({ frames := 0, cells := 0, slots := 0, locals := 0 } : Room).slots) := by
  refine MetFree.of_bodySF (plainFor_of_name own_pn1) hisR ?_
  intro p e s m args below meth c s₁ Bd hml0 hP hK
  obtain ⟨rfl, hZ, hh⟩ := hP
  have hx := Bd.exec
  have hby := Bd.bytes
  have hml : c.maxLocals = 1 := hml0
  have hown : s.vm.findClass "com/example/tallywire/tallywire/wire/FieldType" = some m.cls := findClass_of_methodNamed Bd.named
  have hnm := (name_of_methodNamed Bd.named Bd.method).1
  have X0 : Stand p l e ({ frames := 0, cells := 0, slots := 0, locals := 0 } : Room) s m #[(.ref (A 23))] below meth c s₁ [] 0 0 := Stand.of_body Bd
  have e0 : s₁.heap = h0 := by rw [← hh, Bd.state]; rfl
  have N0 := Fr.nil n0
  have pre0 : ∀ t, Steps p.tables e below (s₁.setTop (mkF m 0 #[.val (.ref (A 23))] [])) t → Steps p.tables e below (s₁.setTop (entryFrame m #[(.ref (A 23))] 1)) t := fun t k => castTop (own_ef_rm60 m p1 p2 p3 A K cs ) k
  have KK0 : Keep h0 h0 [] := Keep.refl _ _
  obtain ⟨T375, X375, e375, st375⟩ := getS2 X0 hx hZ hown (host := "") (Or.inl (hw _ (List.mem_of_getElem? (i := 66) rfl))) Via.refl e0 (EN.2.2.2.1.2.2.1.ext OL0.2) (g := (mkF m 1 #[.val (.ref (A 23))] [(.ref (A 23))])) rfl (hb hby own_d_prog_40_method_6_code_1)
  obtain ⟨T376, X376, e376, st376⟩ := getS2 X375 hx hZ hown (host := "") (Or.inl (hw _ (List.mem_of_getElem? (i := 67) rfl))) Via.refl e375 (EN.2.2.2.1.2.2.2.2.1.ext OL0.2) (g := (mkF m 8 #[.val (.ref (A 23))] [(.ref (A 23))])) rfl (hb hby own_d_prog_40_method_6_code_8)
  obtain ⟨T377, X377, e377, st377⟩ := getS2 X376 hx hZ hown (host := "") (Or.inl (hw _ (List.mem_of_getElem? (i := 68) rfl))) Via.refl e376 (EN.2.2.2.1.2.2.2.2.2.2.1.ext OL0.2) (g := (mkF m 15 #[.val (.ref (A 23))] [(.ref (A 23))])) rfl (hb hby own_d_prog_40_method_6_code_15)
  obtain ⟨fs, hr, hrun, hended, hW, hsame⟩ := X377.leave (v := some (.int (0 : Int32))) (fun h => by rw [Bd.returns] at h; cases h)
  refine ⟨_, _, pre0 _ ?_, hrun, hended, _, _, rfl, ?_, ⟨_, rfl⟩, hW, hsame.mono (by decide) (by decide)⟩
  · show Steps p.tables e below (s₁.setTop (mkF m 0 #[.val (.ref (A 23))] [])) _
    refine XS.aloadN X0.here hx rfl (hb hby own_d_prog_40_method_6_code_0) rfl rfl ?_
    refine st375 _ ?_
    show Steps p.tables e below (T375.setTop (mkF m 4 #[.val (.ref (A 23))] [(.ref (A 13)), (.ref (A 23))])) _
    refine Jvm.RoadKit.acmp (g := (mkF m 4 #[.val (.ref (A 23))] [(.ref (A 13)), (.ref (A 23))])) X375 hx rfl rfl rfl (pc0 := 4) (pc' := 7) (same := false) rfl (hb hby own_d_prog_40_method_6_code_4) rfl (decide_eq_false fun q => (Fld.ne EN.2.2.2.2.2.2.2.2.2.2.1.2.2.2.2.2.2.1 EN.2.2.2.2.2.2.2.1.2.2.2.2.1 (fun h => by injection h with h; exact absurd h (by decide))) (Value.ref.inj q)) (by decide) (by decide) ?_
    show Steps p.tables e below (T375.setTop (mkF m 7 #[.val (.ref (A 23))] [])) _
    refine XS.aloadN X375.here hx rfl (hb hby own_d_prog_40_method_6_code_7) rfl rfl ?_
    refine st376 _ ?_
    show Steps p.tables e below (T376.setTop (mkF m 11 #[.val (.ref (A 23))] [(.ref (A 14)), (.ref (A 23))])) _
    refine Jvm.RoadKit.acmp (g := (mkF m 11 #[.val (.ref (A 23))] [(.ref (A 14)), (.ref (A 23))])) X376 hx rfl rfl rfl (pc0 := 11) (pc' := 14) (same := false) rfl (hb hby own_d_prog_40_method_6_code_11) rfl (decide_eq_false fun q => (Fld.ne EN.2.2.2.2.2.2.2.2.2.2.1.2.2.2.2.2.2.1 EN.2.2.2.2.2.2.2.1.2.2.2.2.2.1 (fun h => by injection h with h; exact absurd h (by decide))) (Value.ref.inj q)) (by decide) (by decide) ?_
    show Steps p.tables e below (T376.setTop (mkF m 14 #[.val (.ref (A 23))] [])) _
    refine XS.aloadN X376.here hx rfl (hb hby own_d_prog_40_method_6_code_14) rfl rfl ?_
    refine st377 _ ?_
    show Steps p.tables e below (T377.setTop (mkF m 18 #[.val (.ref (A 23))] [(.ref (A 15)), (.ref (A 23))])) _
    refine Jvm.RoadKit.acmp (g := (mkF m 18 #[.val (.ref (A 23))] [(.ref (A 15)), (.ref (A 23))])) X377 hx rfl rfl rfl (pc0 := 18) (pc' := 25) (same := false) rfl (hb hby own_d_prog_40_method_6_code_18) rfl (decide_eq_false fun q => (Fld.ne EN.2.2.2.2.2.2.2.2.2.2.1.2.2.2.2.2.2.1 EN.2.2.2.2.2.2.2.1.2.2.2.2.2.2.1 (fun h => by injection h with h; exact absurd h (by decide))) (Value.ref.inj q)) (by decide) (by decide) ?_
    show Steps p.tables e below (T377.setTop (mkF m 25 #[.val (.ref (A 23))] [])) _
    refine XS.iconst X377.here hx rfl (hb hby own_d_prog_40_method_6_code_25) ?_
    exact retN X377 hx (t := .boolean) Bd.returns (by simp) (hb hby own_d_prog_40_method_6_code_26) hr
  · show PQ (some (.int (0 : Int32))) h0 n0 _ T377.heap _
    rw [e377]
    exact ⟨rfl, N0, rfl⟩
theorem own_ef_rm61 (m : MethodId) (p1 : Int32) (p2 : Int32) (p3 : Int32) (A : Nat → Addr) (K : Nat → ClassId) (cs : Int32)  : entryFrame m #[(.ref (A 24))] 1 = mkF m 0 #[.val (.ref (A 24))] [] := by first | (simp [entryFrame, mkF, argsToLocals, Value.category, maxLocals]; done) | rfl
set_option maxRecDepth 65536 in
set_option maxHeartbeats 40000000 in
theorem rm61 (l : Launch) (Z : State) (a0 : Array Value) (hw : ∀ d ∈ tables_1, d.before a0 Z = true) (ws : List Jvm.Cond) (h0 : Heap) (n0 : Nat) (p1 : Int32) (p2 : Int32) (p3 : Int32) (A : Nat → Addr) (K : Nat → ClassId) (cs : Int32)  (EN : own_St Z A K cs) (OL0 : Old Z n0 h0) :
    MetFree l own_m0 (head1 (Jvm.Cond.code own_m0 prog_40_method_6_code 1 (some .boolean) :: ws) ({ frames := 0, cells := 0, slots := 0, locals := 0 } : Room)) (fun a U => a = #[(.ref (A 24))] ∧ Z.Warmed39 U.vm ∧ U.heap = h0) (fun _ _ _ _ _ => True) (fun _ U o U' => ∃ v L, o = .returned v ∧ (PQ (some (.int (0 : Int32))) h0 n0) v U'.heap L ∧ FrameEnd U o U' L ({ frames := 0, cells := 0, slots := 0, locals := 0 } : Room).cells ({ frames := 0, cells := 0, slots := 0, locals := 0 } : Room).slots) := by
  refine MetFree.of_bodySF (plainFor_of_name own_pn1) hisR ?_
  intro p e s m args below meth c s₁ Bd hml0 hP hK
  obtain ⟨rfl, hZ, hh⟩ := hP
  have hx := Bd.exec
  have hby := Bd.bytes
  have hml : c.maxLocals = 1 := hml0
  have hown : s.vm.findClass "com/example/tallywire/tallywire/wire/FieldType" = some m.cls := findClass_of_methodNamed Bd.named
  have hnm := (name_of_methodNamed Bd.named Bd.method).1
  have X0 : Stand p l e ({ frames := 0, cells := 0, slots := 0, locals := 0 } : Room) s m #[(.ref (A 24))] below meth c s₁ [] 0 0 := Stand.of_body Bd
  have e0 : s₁.heap = h0 := by rw [← hh, Bd.state]; rfl
  have N0 := Fr.nil n0
  have pre0 : ∀ t, Steps p.tables e below (s₁.setTop (mkF m 0 #[.val (.ref (A 24))] [])) t → Steps p.tables e below (s₁.setTop (entryFrame m #[(.ref (A 24))] 1)) t := fun t k => castTop (own_ef_rm61 m p1 p2 p3 A K cs ) k
  have KK0 : Keep h0 h0 [] := Keep.refl _ _
  obtain ⟨T380, X380, e380, st380⟩ := getS2 X0 hx hZ hown (host := "") (Or.inl (hw _ (List.mem_of_getElem? (i := 66) rfl))) Via.refl e0 (EN.2.2.2.1.2.2.1.ext OL0.2) (g := (mkF m 1 #[.val (.ref (A 24))] [(.ref (A 24))])) rfl (hb hby own_d_prog_40_method_6_code_1)
  obtain ⟨T381, X381, e381, st381⟩ := getS2 X380 hx hZ hown (host := "") (Or.inl (hw _ (List.mem_of_getElem? (i := 67) rfl))) Via.refl e380 (EN.2.2.2.1.2.2.2.2.1.ext OL0.2) (g := (mkF m 8 #[.val (.ref (A 24))] [(.ref (A 24))])) rfl (hb hby own_d_prog_40_method_6_code_8)
  obtain ⟨T382, X382, e382, st382⟩ := getS2 X381 hx hZ hown (host := "") (Or.inl (hw _ (List.mem_of_getElem? (i := 68) rfl))) Via.refl e381 (EN.2.2.2.1.2.2.2.2.2.2.1.ext OL0.2) (g := (mkF m 15 #[.val (.ref (A 24))] [(.ref (A 24))])) rfl (hb hby own_d_prog_40_method_6_code_15)
  obtain ⟨fs, hr, hrun, hended, hW, hsame⟩ := X382.leave (v := some (.int (0 : Int32))) (fun h => by rw [Bd.returns] at h; cases h)
  refine ⟨_, _, pre0 _ ?_, hrun, hended, _, _, rfl, ?_, ⟨_, rfl⟩, hW, hsame.mono (by decide) (by decide)⟩
  · show Steps p.tables e below (s₁.setTop (mkF m 0 #[.val (.ref (A 24))] [])) _
    refine XS.aloadN X0.here hx rfl (hb hby own_d_prog_40_method_6_code_0) rfl rfl ?_
    refine st380 _ ?_
    show Steps p.tables e below (T380.setTop (mkF m 4 #[.val (.ref (A 24))] [(.ref (A 13)), (.ref (A 24))])) _
    refine Jvm.RoadKit.acmp (g := (mkF m 4 #[.val (.ref (A 24))] [(.ref (A 13)), (.ref (A 24))])) X380 hx rfl rfl rfl (pc0 := 4) (pc' := 7) (same := false) rfl (hb hby own_d_prog_40_method_6_code_4) rfl (decide_eq_false fun q => (Fld.ne EN.2.2.2.2.2.2.2.2.1.1 EN.2.2.2.2.2.2.2.1.2.2.2.2.1 (fun h => by injection h with h; exact absurd h (by decide))) (Value.ref.inj q)) (by decide) (by decide) ?_
    show Steps p.tables e below (T380.setTop (mkF m 7 #[.val (.ref (A 24))] [])) _
    refine XS.aloadN X380.here hx rfl (hb hby own_d_prog_40_method_6_code_7) rfl rfl ?_
    refine st381 _ ?_
    show Steps p.tables e below (T381.setTop (mkF m 11 #[.val (.ref (A 24))] [(.ref (A 14)), (.ref (A 24))])) _
    refine Jvm.RoadKit.acmp (g := (mkF m 11 #[.val (.ref (A 24))] [(.ref (A 14)), (.ref (A 24))])) X381 hx rfl rfl rfl (pc0 := 11) (pc' := 14) (same := false) rfl (hb hby own_d_prog_40_method_6_code_11) rfl (decide_eq_false fun q => (Fld.ne EN.2.2.2.2.2.2.2.2.1.1 EN.2.2.2.2.2.2.2.1.2.2.2.2.2.1 (fun h => by injection h with h; exact absurd h (by decide))) (Value.ref.inj q)) (by decide) (by decide) ?_
    show Steps p.tables e below (T381.setTop (mkF m 14 #[.val (.ref (A 24))] [])) _
    refine XS.aloadN X381.here hx rfl (hb hby own_d_prog_40_method_6_code_14) rfl rfl ?_
    refine st382 _ ?_
    show Steps p.tables e below (T382.setTop (mkF m 18 #[.val (.ref (A 24))] [(.ref (A 15)), (.ref (A 24))])) _
    refine Jvm.RoadKit.acmp (g := (mkF m 18 #[.val (.ref (A 24))] [(.ref (A 15)), (.ref (A 24))])) X382 hx rfl rfl rfl (pc0 := 18) (pc' := 25) (same := false) rfl (hb hby own_d_prog_40_method_6_code_18) rfl (decide_eq_false fun q => (Fld.ne EN.2.2.2.2.2.2.2.2.1.1 EN.2.2.2.2.2.2.2.1.2.2.2.2.2.2.1 (fun h => by injection h with h; exact absurd h (by decide))) (Value.ref.inj q)) (by decide) (by decide) ?_
    show Steps p.tables e below (T382.setTop (mkF m 25 #[.val (.ref (A 24))] [])) _
    refine XS.iconst X382.here hx rfl (hb hby own_d_prog_40_method_6_code_25) ?_
    exact retN X382 hx (t := .boolean) Bd.returns (by simp) (hb hby own_d_prog_40_method_6_code_26) hr
  · show PQ (some (.int (0 : Int32))) h0 n0 _ T382.heap _
    rw [e382]
    exact ⟨rfl, N0, rfl⟩
theorem own_ef_rm62 (m : MethodId) (p1 : Int32) (p2 : Int32) (p3 : Int32) (A : Nat → Addr) (K : Nat → ClassId) (cs : Int32)  : entryFrame m #[(.ref (A 25))] 1 = mkF m 0 #[.val (.ref (A 25))] [] := by first | (simp [entryFrame, mkF, argsToLocals, Value.category, maxLocals]; done) | rfl
set_option maxRecDepth 65536 in
set_option maxHeartbeats 40000000 in
theorem rm62 (l : Launch) (Z : State) (a0 : Array Value) (hw : ∀ d ∈ tables_1, d.before a0 Z = true) (ws : List Jvm.Cond) (h0 : Heap) (n0 : Nat) (p1 : Int32) (p2 : Int32) (p3 : Int32) (A : Nat → Addr) (K : Nat → ClassId) (cs : Int32)  (EN : own_St Z A K cs) (OL0 : Old Z n0 h0) :
    MetFree l own_m0 (head1 (Jvm.Cond.code own_m0 prog_40_method_6_code 1 (some .boolean) :: ws) ({ frames := 0, cells := 0, slots := 0, locals := 0 } : Room)) (fun a U => a = #[(.ref (A 25))] ∧ Z.Warmed39 U.vm ∧ U.heap = h0) (fun _ _ _ _ _ => True) (fun _ U o U' => ∃ v L, o = .returned v ∧ (PQ (some (.int (0 : Int32))) h0 n0) v U'.heap L ∧ FrameEnd U o U' L ({ frames := 0, cells := 0, slots := 0, locals := 0 } : Room).cells ({ frames := 0, cells := 0, slots := 0, locals := 0 } : Room).slots) := by
  refine MetFree.of_bodySF (plainFor_of_name own_pn1) hisR ?_
  intro p e s m args below meth c s₁ Bd hml0 hP hK
  obtain ⟨rfl, hZ, hh⟩ := hP
  have hx := Bd.exec
  have hby := Bd.bytes
  have hml : c.maxLocals = 1 := hml0
  have hown : s.vm.findClass "com/example/tallywire/tallywire/wire/FieldType" = some m.cls := findClass_of_methodNamed Bd.named
  have hnm := (name_of_methodNamed Bd.named Bd.method).1
  have X0 : Stand p l e ({ frames := 0, cells := 0, slots := 0, locals := 0 } : Room) s m #[(.ref (A 25))] below meth c s₁ [] 0 0 := Stand.of_body Bd
  have e0 : s₁.heap = h0 := by rw [← hh, Bd.state]; rfl
  have N0 := Fr.nil n0
  have pre0 : ∀ t, Steps p.tables e below (s₁.setTop (mkF m 0 #[.val (.ref (A 25))] [])) t → Steps p.tables e below (s₁.setTop (entryFrame m #[(.ref (A 25))] 1)) t := fun t k => castTop (own_ef_rm62 m p1 p2 p3 A K cs ) k
  have KK0 : Keep h0 h0 [] := Keep.refl _ _
  obtain ⟨T385, X385, e385, st385⟩ := getS2 X0 hx hZ hown (host := "") (Or.inl (hw _ (List.mem_of_getElem? (i := 66) rfl))) Via.refl e0 (EN.2.2.2.1.2.2.1.ext OL0.2) (g := (mkF m 1 #[.val (.ref (A 25))] [(.ref (A 25))])) rfl (hb hby own_d_prog_40_method_6_code_1)
  obtain ⟨T386, X386, e386, st386⟩ := getS2 X385 hx hZ hown (host := "") (Or.inl (hw _ (List.mem_of_getElem? (i := 67) rfl))) Via.refl e385 (EN.2.2.2.1.2.2.2.2.1.ext OL0.2) (g := (mkF m 8 #[.val (.ref (A 25))] [(.ref (A 25))])) rfl (hb hby own_d_prog_40_method_6_code_8)
  obtain ⟨T387, X387, e387, st387⟩ := getS2 X386 hx hZ hown (host := "") (Or.inl (hw _ (List.mem_of_getElem? (i := 68) rfl))) Via.refl e386 (EN.2.2.2.1.2.2.2.2.2.2.1.ext OL0.2) (g := (mkF m 15 #[.val (.ref (A 25))] [(.ref (A 25))])) rfl (hb hby own_d_prog_40_method_6_code_15)
  obtain ⟨fs, hr, hrun, hended, hW, hsame⟩ := X387.leave (v := some (.int (0 : Int32))) (fun h => by rw [Bd.returns] at h; cases h)
  refine ⟨_, _, pre0 _ ?_, hrun, hended, _, _, rfl, ?_, ⟨_, rfl⟩, hW, hsame.mono (by decide) (by decide)⟩
  · show Steps p.tables e below (s₁.setTop (mkF m 0 #[.val (.ref (A 25))] [])) _
    refine XS.aloadN X0.here hx rfl (hb hby own_d_prog_40_method_6_code_0) rfl rfl ?_
    refine st385 _ ?_
    show Steps p.tables e below (T385.setTop (mkF m 4 #[.val (.ref (A 25))] [(.ref (A 13)), (.ref (A 25))])) _
    refine Jvm.RoadKit.acmp (g := (mkF m 4 #[.val (.ref (A 25))] [(.ref (A 13)), (.ref (A 25))])) X385 hx rfl rfl rfl (pc0 := 4) (pc' := 7) (same := false) rfl (hb hby own_d_prog_40_method_6_code_4) rfl (decide_eq_false fun q => (Fld.ne EN.2.2.2.2.2.2.2.2.2.1.1 EN.2.2.2.2.2.2.2.1.2.2.2.2.1 (fun h => by injection h with h; exact absurd h (by decide))) (Value.ref.inj q)) (by decide) (by decide) ?_
    show Steps p.tables e below (T385.setTop (mkF m 7 #[.val (.ref (A 25))] [])) _
    refine XS.aloadN X385.here hx rfl (hb hby own_d_prog_40_method_6_code_7) rfl rfl ?_
    refine st386 _ ?_
    show Steps p.tables e below (T386.setTop (mkF m 11 #[.val (.ref (A 25))] [(.ref (A 14)), (.ref (A 25))])) _
    refine Jvm.RoadKit.acmp (g := (mkF m 11 #[.val (.ref (A 25))] [(.ref (A 14)), (.ref (A 25))])) X386 hx rfl rfl rfl (pc0 := 11) (pc' := 14) (same := false) rfl (hb hby own_d_prog_40_method_6_code_11) rfl (decide_eq_false fun q => (Fld.ne EN.2.2.2.2.2.2.2.2.2.1.1 EN.2.2.2.2.2.2.2.1.2.2.2.2.2.1 (fun h => by injection h with h; exact absurd h (by decide))) (Value.ref.inj q)) (by decide) (by decide) ?_
    show Steps p.tables e below (T386.setTop (mkF m 14 #[.val (.ref (A 25))] [])) _
    refine XS.aloadN X386.here hx rfl (hb hby own_d_prog_40_method_6_code_14) rfl rfl ?_
    refine st387 _ ?_
    show Steps p.tables e below (T387.setTop (mkF m 18 #[.val (.ref (A 25))] [(.ref (A 15)), (.ref (A 25))])) _
    refine Jvm.RoadKit.acmp (g := (mkF m 18 #[.val (.ref (A 25))] [(.ref (A 15)), (.ref (A 25))])) X387 hx rfl rfl rfl (pc0 := 18) (pc' := 25) (same := false) rfl (hb hby own_d_prog_40_method_6_code_18) rfl (decide_eq_false fun q => (Fld.ne EN.2.2.2.2.2.2.2.2.2.1.1 EN.2.2.2.2.2.2.2.1.2.2.2.2.2.2.1 (fun h => by injection h with h; exact absurd h (by decide))) (Value.ref.inj q)) (by decide) (by decide) ?_
    show Steps p.tables e below (T387.setTop (mkF m 25 #[.val (.ref (A 25))] [])) _
    refine XS.iconst X387.here hx rfl (hb hby own_d_prog_40_method_6_code_25) ?_
    exact retN X387 hx (t := .boolean) Bd.returns (by simp) (hb hby own_d_prog_40_method_6_code_26) hr
  · show PQ (some (.int (0 : Int32))) h0 n0 _ T387.heap _
    rw [e387]
    exact ⟨rfl, N0, rfl⟩
theorem own_ef_rm63 (m : MethodId) (p1 : Int32) (p2 : Int32) (p3 : Int32) (A : Nat → Addr) (K : Nat → ClassId) (cs : Int32)  : entryFrame m #[(.ref (A 26))] 1 = mkF m 0 #[.val (.ref (A 26))] [] := by first | (simp [entryFrame, mkF, argsToLocals, Value.category, maxLocals]; done) | rfl
set_option maxRecDepth 65536 in
set_option maxHeartbeats 40000000 in
theorem rm63 (l : Launch) (Z : State) (a0 : Array Value) (hw : ∀ d ∈ tables_1, d.before a0 Z = true) (ws : List Jvm.Cond) (h0 : Heap) (n0 : Nat) (p1 : Int32) (p2 : Int32) (p3 : Int32) (A : Nat → Addr) (K : Nat → ClassId) (cs : Int32)  (EN : own_St Z A K cs) (OL0 : Old Z n0 h0) :
    MetFree l own_m0 (head1 (Jvm.Cond.code own_m0 prog_40_method_6_code 1 (some .boolean) :: ws) ({ frames := 0, cells := 0, slots := 0, locals := 0 } : Room)) (fun a U => a = #[(.ref (A 26))] ∧ Z.Warmed39 U.vm ∧ U.heap = h0) (fun _ _ _ _ _ => True) (fun _ U o U' => ∃ v L, o = .returned v ∧ (PQ (some (.int (0 : Int32))) h0 n0) v U'.heap L ∧ FrameEnd U o U' L ({ frames := 0, cells := 0, slots := 0, locals := 0 } : Room).cells ({ frames := 0, cells := 0, slots := 0, locals := 0 } : Room).slots) := by
  refine MetFree.of_bodySF (plainFor_of_name own_pn1) hisR ?_
  intro p e s m args below meth c s₁ Bd hml0 hP hK
  obtain ⟨rfl, hZ, hh⟩ := hP
  have hx := Bd.exec
  have hby := Bd.bytes
  have hml : c.maxLocals = 1 := hml0
  have hown : s.vm.findClass "com/example/tallywire/tallywire/wire/FieldType" = some m.cls := findClass_of_methodNamed Bd.named
  have hnm := (name_of_methodNamed Bd.named Bd.method).1
  have X0 : Stand p l e ({ frames := 0, cells := 0, slots := 0, locals := 0 } : Room) s m #[(.ref (A 26))] below meth c s₁ [] 0 0 := Stand.of_body Bd
  have e0 : s₁.heap = h0 := by rw [← hh, Bd.state]; rfl
  have N0 := Fr.nil n0
  have pre0 : ∀ t, Steps p.tables e below (s₁.setTop (mkF m 0 #[.val (.ref (A 26))] [])) t → Steps p.tables e below (s₁.setTop (entryFrame m #[(.ref (A 26))] 1)) t := fun t k => castTop (own_ef_rm63 m p1 p2 p3 A K cs ) k
  have KK0 : Keep h0 h0 [] := Keep.refl _ _
  obtain ⟨T390, X390, e390, st390⟩ := getS2 X0 hx hZ hown (host := "") (Or.inl (hw _ (List.mem_of_getElem? (i := 66) rfl))) Via.refl e0 (EN.2.2.2.1.2.2.1.ext OL0.2) (g := (mkF m 1 #[.val (.ref (A 26))] [(.ref (A 26))])) rfl (hb hby own_d_prog_40_method_6_code_1)
  obtain ⟨T391, X391, e391, st391⟩ := getS2 X390 hx hZ hown (host := "") (Or.inl (hw _ (List.mem_of_getElem? (i := 67) rfl))) Via.refl e390 (EN.2.2.2.1.2.2.2.2.1.ext OL0.2) (g := (mkF m 8 #[.val (.ref (A 26))] [(.ref (A 26))])) rfl (hb hby own_d_prog_40_method_6_code_8)
  obtain ⟨T392, X392, e392, st392⟩ := getS2 X391 hx hZ hown (host := "") (Or.inl (hw _ (List.mem_of_getElem? (i := 68) rfl))) Via.refl e391 (EN.2.2.2.1.2.2.2.2.2.2.1.ext OL0.2) (g := (mkF m 15 #[.val (.ref (A 26))] [(.ref (A 26))])) rfl (hb hby own_d_prog_40_method_6_code_15)
  obtain ⟨fs, hr, hrun, hended, hW, hsame⟩ := X392.leave (v := some (.int (0 : Int32))) (fun h => by rw [Bd.returns] at h; cases h)
  refine ⟨_, _, pre0 _ ?_, hrun, hended, _, _, rfl, ?_, ⟨_, rfl⟩, hW, hsame.mono (by decide) (by decide)⟩
  · show Steps p.tables e below (s₁.setTop (mkF m 0 #[.val (.ref (A 26))] [])) _
    refine XS.aloadN X0.here hx rfl (hb hby own_d_prog_40_method_6_code_0) rfl rfl ?_
    refine st390 _ ?_
    show Steps p.tables e below (T390.setTop (mkF m 4 #[.val (.ref (A 26))] [(.ref (A 13)), (.ref (A 26))])) _
    refine Jvm.RoadKit.acmp (g := (mkF m 4 #[.val (.ref (A 26))] [(.ref (A 13)), (.ref (A 26))])) X390 hx rfl rfl rfl (pc0 := 4) (pc' := 7) (same := false) rfl (hb hby own_d_prog_40_method_6_code_4) rfl (decide_eq_false fun q => (Fld.ne EN.2.2.2.2.2.2.2.2.2.2.1.2.2.2.2.2.1 EN.2.2.2.2.2.2.2.1.2.2.2.2.1 (fun h => by injection h with h; exact absurd h (by decide))) (Value.ref.inj q)) (by decide) (by decide) ?_
    show Steps p.tables e below (T390.setTop (mkF m 7 #[.val (.ref (A 26))] [])) _
    refine XS.aloadN X390.here hx rfl (hb hby own_d_prog_40_method_6_code_7) rfl rfl ?_
    refine st391 _ ?_
    show Steps p.tables e below (T391.setTop (mkF m 11 #[.val (.ref (A 26))] [(.ref (A 14)), (.ref (A 26))])) _
    refine Jvm.RoadKit.acmp (g := (mkF m 11 #[.val (.ref (A 26))] [(.ref (A 14)), (.ref (A 26))])) X391 hx rfl rfl rfl (pc0 := 11) (pc' := 14) (same := false) rfl (hb hby own_d_prog_40_method_6_code_11) rfl (decide_eq_false fun q => (Fld.ne EN.2.2.2.2.2.2.2.2.2.2.1.2.2.2.2.2.1 EN.2.2.2.2.2.2.2.1.2.2.2.2.2.1 (fun h => by injection h with h; exact absurd h (by decide))) (Value.ref.inj q)) (by decide) (by decide) ?_
    show Steps p.tables e below (T391.setTop (mkF m 14 #[.val (.ref (A 26))] [])) _
    refine XS.aloadN X391.here hx rfl (hb hby own_d_prog_40_method_6_code_14) rfl rfl ?_
    refine st392 _ ?_
    show Steps p.tables e below (T392.setTop (mkF m 18 #[.val (.ref (A 26))] [(.ref (A 15)), (.ref (A 26))])) _
    refine Jvm.RoadKit.acmp (g := (mkF m 18 #[.val (.ref (A 26))] [(.ref (A 15)), (.ref (A 26))])) X392 hx rfl rfl rfl (pc0 := 18) (pc' := 25) (same := false) rfl (hb hby own_d_prog_40_method_6_code_18) rfl (decide_eq_false fun q => (Fld.ne EN.2.2.2.2.2.2.2.2.2.2.1.2.2.2.2.2.1 EN.2.2.2.2.2.2.2.1.2.2.2.2.2.2.1 (fun h => by injection h with h; exact absurd h (by decide))) (Value.ref.inj q)) (by decide) (by decide) ?_
    show Steps p.tables e below (T392.setTop (mkF m 25 #[.val (.ref (A 26))] [])) _
    refine XS.iconst X392.here hx rfl (hb hby own_d_prog_40_method_6_code_25) ?_
    exact retN X392 hx (t := .boolean) Bd.returns (by simp) (hb hby own_d_prog_40_method_6_code_26) hr
  · show PQ (some (.int (0 : Int32))) h0 n0 _ T392.heap _
    rw [e392]
    exact ⟨rfl, N0, rfl⟩
theorem own_ef_rm64 (m : MethodId) (p1 : Int32) (p2 : Int32) (p3 : Int32) (A : Nat → Addr) (K : Nat → ClassId) (cs : Int32)  : entryFrame m #[(.ref (A 27))] 1 = mkF m 0 #[.val (.ref (A 27))] [] := by first | (simp [entryFrame, mkF, argsToLocals, Value.category, maxLocals]; done) | rfl
set_option maxRecDepth 65536 in
set_option maxHeartbeats 40000000 in
theorem rm64 (l : Launch) (Z : State) (a0 : Array Value) (hw : ∀ d ∈ tables_1, d.before a0 Z = true) (ws : List Jvm.Cond) (h0 : Heap) (n0 : Nat) (p1 : Int32) (p2 : Int32) (p3 : Int32) (A : Nat → Addr) (K : Nat → ClassId) (cs : Int32)  (EN : own_St Z A K cs) (OL0 : Old Z n0 h0) :
    MetFree l own_m0 (head1 (Jvm.Cond.code own_m0 prog_40_method_6_code 1 (some .boolean) :: ws) ({ frames := 0, cells := 0, slots := 0, locals := 0 } : Room)) (fun a U => a = #[(.ref (A 27))] ∧ Z.Warmed39 U.vm ∧ U.heap = h0) (fun _ _ _ _ _ => True) (fun _ U o U' => ∃ v L, o = .returned v ∧ (PQ (some (.int (0 : Int32))) h0 n0) v U'.heap L ∧ FrameEnd U o U' L ({ frames := 0, cells := 0, slots := 0, locals := 0 } : Room).cells ({ frames := 0, cells := 0, slots := 0, locals := 0 } : Room).slots) := by
  refine MetFree.of_bodySF (plainFor_of_name own_pn1) hisR ?_
  intro p e s m args below meth c s₁ Bd hml0 hP hK
  obtain ⟨rfl, hZ, hh⟩ := hP
  have hx := Bd.exec
  have hby := Bd.bytes
  have hml : c.maxLocals = 1 := hml0
  have hown : s.vm.findClass "com/example/tallywire/tallywire/wire/FieldType" = some m.cls := findClass_of_methodNamed Bd.named
  have hnm := (name_of_methodNamed Bd.named Bd.method).1
  have X0 : Stand p l e ({ frames := 0, cells := 0, slots := 0, locals := 0 } : Room) s m #[(.ref (A 27))] below meth c s₁ [] 0 0 := Stand.of_body Bd
  have e0 : s₁.heap = h0 := by rw [← hh, Bd.state]; rfl
  have N0 := Fr.nil n0
  have pre0 : ∀ t, Steps p.tables e below (s₁.setTop (mkF m 0 #[.val (.ref (A 27))] [])) t → Steps p.tables e below (s₁.setTop (entryFrame m #[(.ref (A 27))] 1)) t := fun t k => castTop (own_ef_rm64 m p1 p2 p3 A K cs ) k
  have KK0 : Keep h0 h0 [] := Keep.refl _ _
  obtain ⟨T395, X395, e395, st395⟩ := getS2 X0 hx hZ hown (host := "") (Or.inl (hw _ (List.mem_of_getElem? (i := 66) rfl))) Via.refl e0 (EN.2.2.2.1.2.2.1.ext OL0.2) (g := (mkF m 1 #[.val (.ref (A 27))] [(.ref (A 27))])) rfl (hb hby own_d_prog_40_method_6_code_1)
  obtain ⟨T396, X396, e396, st396⟩ := getS2 X395 hx hZ hown (host := "") (Or.inl (hw _ (List.mem_of_getElem? (i := 67) rfl))) Via.refl e395 (EN.2.2.2.1.2.2.2.2.1.ext OL0.2) (g := (mkF m 8 #[.val (.ref (A 27))] [(.ref (A 27))])) rfl (hb hby own_d_prog_40_method_6_code_8)
  obtain ⟨T397, X397, e397, st397⟩ := getS2 X396 hx hZ hown (host := "") (Or.inl (hw _ (List.mem_of_getElem? (i := 68) rfl))) Via.refl e396 (EN.2.2.2.1.2.2.2.2.2.2.1.ext OL0.2) (g := (mkF m 15 #[.val (.ref (A 27))] [(.ref (A 27))])) rfl (hb hby own_d_prog_40_method_6_code_15)
  obtain ⟨fs, hr, hrun, hended, hW, hsame⟩ := X397.leave (v := some (.int (0 : Int32))) (fun h => by rw [Bd.returns] at h; cases h)
  refine ⟨_, _, pre0 _ ?_, hrun, hended, _, _, rfl, ?_, ⟨_, rfl⟩, hW, hsame.mono (by decide) (by decide)⟩
  · show Steps p.tables e below (s₁.setTop (mkF m 0 #[.val (.ref (A 27))] [])) _
    refine XS.aloadN X0.here hx rfl (hb hby own_d_prog_40_method_6_code_0) rfl rfl ?_
    refine st395 _ ?_
    show Steps p.tables e below (T395.setTop (mkF m 4 #[.val (.ref (A 27))] [(.ref (A 13)), (.ref (A 27))])) _
    refine Jvm.RoadKit.acmp (g := (mkF m 4 #[.val (.ref (A 27))] [(.ref (A 13)), (.ref (A 27))])) X395 hx rfl rfl rfl (pc0 := 4) (pc' := 7) (same := false) rfl (hb hby own_d_prog_40_method_6_code_4) rfl (decide_eq_false fun q => (Fld.ne EN.2.2.2.2.2.2.2.2.2.2.1.2.2.1 EN.2.2.2.2.2.2.2.1.2.2.2.2.1 (fun h => by injection h with h; exact absurd h (by decide))) (Value.ref.inj q)) (by decide) (by decide) ?_
    show Steps p.tables e below (T395.setTop (mkF m 7 #[.val (.ref (A 27))] [])) _
    refine XS.aloadN X395.here hx rfl (hb hby own_d_prog_40_method_6_code_7) rfl rfl ?_
    refine st396 _ ?_
    show Steps p.tables e below (T396.setTop (mkF m 11 #[.val (.ref (A 27))] [(.ref (A 14)), (.ref (A 27))])) _
    refine Jvm.RoadKit.acmp (g := (mkF m 11 #[.val (.ref (A 27))] [(.ref (A 14)), (.ref (A 27))])) X396 hx rfl rfl rfl (pc0 := 11) (pc' := 14) (same := false) rfl (hb hby own_d_prog_40_method_6_code_11) rfl (decide_eq_false fun q => (Fld.ne EN.2.2.2.2.2.2.2.2.2.2.1.2.2.1 EN.2.2.2.2.2.2.2.1.2.2.2.2.2.1 (fun h => by injection h with h; exact absurd h (by decide))) (Value.ref.inj q)) (by decide) (by decide) ?_
    show Steps p.tables e below (T396.setTop (mkF m 14 #[.val (.ref (A 27))] [])) _
    refine XS.aloadN X396.here hx rfl (hb hby own_d_prog_40_method_6_code_14) rfl rfl ?_
    refine st397 _ ?_
    show Steps p.tables e below (T397.setTop (mkF m 18 #[.val (.ref (A 27))] [(.ref (A 15)), (.ref (A 27))])) _
    refine Jvm.RoadKit.acmp (g := (mkF m 18 #[.val (.ref (A 27))] [(.ref (A 15)), (.ref (A 27))])) X397 hx rfl rfl rfl (pc0 := 18) (pc' := 25) (same := false) rfl (hb hby own_d_prog_40_method_6_code_18) rfl (decide_eq_false fun q => (Fld.ne EN.2.2.2.2.2.2.2.2.2.2.1.2.2.1 EN.2.2.2.2.2.2.2.1.2.2.2.2.2.2.1 (fun h => by injection h with h; exact absurd h (by decide))) (Value.ref.inj q)) (by decide) (by decide) ?_
    show Steps p.tables e below (T397.setTop (mkF m 25 #[.val (.ref (A 27))] [])) _
    refine XS.iconst X397.here hx rfl (hb hby own_d_prog_40_method_6_code_25) ?_
    exact retN X397 hx (t := .boolean) Bd.returns (by simp) (hb hby own_d_prog_40_method_6_code_26) hr
  · show PQ (some (.int (0 : Int32))) h0 n0 _ T397.heap _
    rw [e397]
    exact ⟨rfl, N0, rfl⟩
theorem own_ef_rm0 (m : MethodId) (p1 : Int32) (p2 : Int32) (p3 : Int32) (A : Nat → Addr) (K : Nat → ClassId) (cs : Int32) : entryFrame m #[(.int p1), (.int p2), (.int p3)] maxLocals = mkF m 0 #[.val (.int p1), .val (.int p2), .val (.int p3), .unset, .unset, .unset, .unset, .unset, .unset] [] := by first | (simp [entryFrame, mkF, argsToLocals, Value.category, maxLocals]; done) | rfl
set_option maxRecDepth 65536 in
set_option maxHeartbeats 40000000 in
theorem rm0 (l : Launch) (Z : State) (a0 : Array Value) (hw : ∀ d ∈ tables_1, d.before a0 Z = true) (ws : List Jvm.Cond) (h0 : Heap) (n0 : Nat) (p1 : Int32) (p2 : Int32) (p3 : Int32) (A : Nat → Addr) (K : Nat → ClassId) (cs : Int32) (EN : own_St Z A K cs) (OL0 : Old Z n0 h0) :
    MetFree l x (head1 (Jvm.Cond.code x code maxLocals ret :: ws) room_1) (fun a U => a = #[(.int p1), (.int p2), (.int p3)] ∧ Z.Warmed39 U.vm ∧ U.heap = h0) (fun _ _ _ _ _ => True) (fun _ U o U' => ∃ v L, o = .returned v ∧ (LQ n0) v U'.heap L ∧ FrameEnd U o U' L room_1.cells room_1.slots) := by
  refine MetFree.of_bodySF (plainFor_of_name own_pn0) hisR ?_
  intro p e s m args below meth c s₁ Bd hml0 hP hK
  obtain ⟨rfl, hZ, hh⟩ := hP
  have hx := Bd.exec
  have hby := Bd.bytes
  have hml : c.maxLocals = 9 := hml0
  have hown : s.vm.findClass "com/example/tallywire/tallywire/wire/FieldTypeHoldsSeveralPinLaw" = some m.cls := findClass_of_methodNamed Bd.named
  have hnm := (name_of_methodNamed Bd.named Bd.method).1
  have X0 : Stand p l e room_1 s m #[(.int p1), (.int p2), (.int p3)] below meth c s₁ [] 0 0 := Stand.of_body Bd
  have e0 : s₁.heap = h0 := by rw [← hh, Bd.state]; rfl
  have N0 := Fr.nil n0
  have pre0 : ∀ t, Steps p.tables e below (s₁.setTop (mkF m 0 #[.val (.int p1), .val (.int p2), .val (.int p3), .unset, .unset, .unset, .unset, .unset, .unset] [])) t → Steps p.tables e below (s₁.setTop (entryFrame m #[(.int p1), (.int p2), (.int p3)] maxLocals)) t := fun t k => castTop (own_ef_rm0 m p1 p2 p3 A K cs) k
  have KK0 : Keep h0 h0 [] := Keep.refl _ _
  obtain ⟨T3, h3, k3, X3, e3, E3, A3, O3, st3⟩ := newR X0 hx hZ hown (hw _ (List.mem_of_getElem? (i := 0) rfl)) (hw _ (List.mem_of_getElem? (i := 1) rfl)) e0 (g := (mkF m 2 #[.val (.int p1), .val (.int p2), .val (.int p3), .unset, .unset, .unset, .unset, .unset, .unset] [(.int (28 : Int32))])) rfl (hb hby at_2) rfl (by decide) (cap := 28) (by decide) (by decide) (by decide) (by decide)
  obtain ⟨b3, g3⟩ : ∃ z, z = h0.size := ⟨_, rfl⟩
  rw [← g3] at A3 st3
  have gn_b3 : n0 ≤ b3 := Nat.le_trans (OL0.1 ▸ OL0.2.1) (Nat.le_of_eq g3.symm)
  have sz_b3 : h0.size ≤ b3 := Nat.le_trans KK0.1 (Nat.le_of_eq g3.symm)
  have OL3 : Old Z n0 h3 := OL0.ext E3
  have KK3 : Keep h0 h3 [] := KK0.ext E3
  have V3 : Arv Z h3 b3 k3 (.object "com/example/tallywire/tallywire/wire/FieldType") (28 : Int32) [] .null := Arv.new A3 (by decide)
  obtain ⟨T4, X4, e4, st4⟩ := getS2 X3 hx hZ hown (host := "") (Or.inl (hw _ (List.mem_of_getElem? (i := 2) rfl))) Via.refl e3 (EN.1.1.ext OL3.2) (g := (mkF m 7 #[.val (.int p1), .val (.int p2), .val (.int p3), .unset, .unset, .unset, .unset, .unset, .unset] [(.int (0 : Int32)), (.ref b3), (.ref b3)])) rfl (hb hby at_7)
  obtain ⟨cl5, Ar5, q5, Sz5, Nn5, Hh5, Gg5⟩ := (id (Arv.pad V3 (pad_rep [] .null 1)))
  have hin5 : ¬ ((0 : Int32) < 0 ∨ cl5.slots.size ≤ ((0 : Int32)).toNatClampNeg) := inb_of Sz5 ⟨by decide, by decide⟩
  obtain ⟨T6, h6, X6, e6, W6, st6⟩ := stR X4 hx hZ e4 Ar5 (j := (0 : Int32)) hin5 rfl (Sto.ofV Ar5 q5 O3 (Ins.self (EN.1.2.1.ext OL3.2))) (g := (mkF m 10 #[.val (.int p1), .val (.int p2), .val (.int p3), .unset, .unset, .unset, .unset, .unset, .unset] [(.ref (A 0)), (.int (0 : Int32)), (.ref b3), (.ref b3)])) rfl rfl (hb hby at_10)
  have NF6 := Fr.snoc X6 N0 gn_b3
  have OL6 : Old Z n0 h6 := OL3.wr W6 gn_b3
  have KK6 : Keep h0 h6 [] := KK3.wr W6 (Or.inr sz_b3)
  have V6 : Arv Z h6 b3 k3 (.object "com/example/tallywire/tallywire/wire/FieldType") (28 : Int32) [(.ref (A 0))] .null := Arv.set Ar5 q5 Sz5 Nn5 Hh5 Gg5 rfl W6 0 (by decide) (by decide : 0 < 1)
  obtain ⟨T7, X7, e7, st7⟩ := getS2 X6 hx hZ hown (host := "") (Or.inl (hw _ (List.mem_of_getElem? (i := 6) rfl))) Via.refl e6 (EN.1.2.2.1.ext OL6.2) (g := (mkF m 13 #[.val (.int p1), .val (.int p2), .val (.int p3), .unset, .unset, .unset, .unset, .unset, .unset] [(.int (1 : Int32)), (.ref b3), (.ref b3)])) rfl (hb hby at_13)
  obtain ⟨cl8, Ar8, q8, Sz8, Nn8, Hh8, Gg8⟩ := (id (Arv.pad V6 (pad_rep [(.ref (A 0))] .null 1)))
  have hin8 : ¬ ((1 : Int32) < 0 ∨ cl8.slots.size ≤ ((1 : Int32)).toNatClampNeg) := inb_of Sz8 ⟨by decide, by decide⟩
  obtain ⟨T9, h9, X9, e9, W9, st9⟩ := stR X7 hx hZ e7 Ar8 (j := (1 : Int32)) hin8 rfl (Sto.ofV Ar8 q8 O3 (Ins.self (EN.1.2.2.2.1.ext OL6.2))) (g := (mkF m 16 #[.val (.int p1), .val (.int p2), .val (.int p3), .unset, .unset, .unset, .unset, .unset, .unset] [(.ref (A 1)), (.int (1 : Int32)), (.ref b3), (.ref b3)])) rfl rfl (hb hby at_16)
  have NF9 := Fr.snoc X9 NF6 gn_b3
  have OL9 : Old Z n0 h9 := OL6.wr W9 gn_b3
  have KK9 : Keep h0 h9 [] := KK6.wr W9 (Or.inr sz_b3)
  have V9 : Arv Z h9 b3 k3 (.object "com/example/tallywire/tallywire/wire/FieldType") (28 : Int32) [(.ref (A 0)), (.ref (A 1))] .null := Arv.set Ar8 q8 Sz8 Nn8 Hh8 Gg8 rfl W9 1 (by decide) (by decide : 1 < 2)
  obtain ⟨T10, X10, e10, st10⟩ := getS2 X9 hx hZ hown (host := "") (Or.inl (hw _ (List.mem_of_getElem? (i := 8) rfl))) Via.refl e9 (EN.1.2.2.2.2.1.ext OL9.2) (g := (mkF m 19 #[.val (.int p1), .val (.int p2), .val (.int p3), .unset, .unset, .unset, .unset, .unset, .unset] [(.int (2 : Int32)), (.ref b3), (.ref b3)])) rfl (hb hby at_19)
  obtain ⟨cl11, Ar11, q11, Sz11, Nn11, Hh11, Gg11⟩ := (id (Arv.pad V9 (pad_rep [(.ref (A 0)), (.ref (A 1))] .null 1)))
  have hin11 : ¬ ((2 : Int32) < 0 ∨ cl11.slots.size ≤ ((2 : Int32)).toNatClampNeg) := inb_of Sz11 ⟨by decide, by decide⟩
  obtain ⟨T12, h12, X12, e12, W12, st12⟩ := stR X10 hx hZ e10 Ar11 (j := (2 : Int32)) hin11 rfl (Sto.ofV Ar11 q11 O3 (Ins.self (EN.1.2.2.2.2.2.1.ext OL9.2))) (g := (mkF m 22 #[.val (.int p1), .val (.int p2), .val (.int p3), .unset, .unset, .unset, .unset, .unset, .unset] [(.ref (A 2)), (.int (2 : Int32)), (.ref b3), (.ref b3)])) rfl rfl (hb hby at_22)
  have NF12 := Fr.snoc X12 NF9 gn_b3
  have OL12 : Old Z n0 h12 := OL9.wr W12 gn_b3
  have KK12 : Keep h0 h12 [] := KK9.wr W12 (Or.inr sz_b3)
  have V12 : Arv Z h12 b3 k3 (.object "com/example/tallywire/tallywire/wire/FieldType") (28 : Int32) [(.ref (A 0)), (.ref (A 1)), (.ref (A 2))] .null := Arv.set Ar11 q11 Sz11 Nn11 Hh11 Gg11 rfl W12 2 (by decide) (by decide : 2 < 3)
  obtain ⟨T13, X13, e13, st13⟩ := getS2 X12 hx hZ hown (host := "") (Or.inl (hw _ (List.mem_of_getElem? (i := 10) rfl))) Via.refl e12 (EN.1.2.2.2.2.2.2.1.ext OL12.2) (g := (mkF m 25 #[.val (.int p1), .val (.int p2), .val (.int p3), .unset, .unset, .unset, .unset, .unset, .unset] [(.int (3 : Int32)), (.ref b3), (.ref b3)])) rfl (hb hby at_25)
  obtain ⟨cl14, Ar14, q14, Sz14, Nn14, Hh14, Gg14⟩ := (id (Arv.pad V12 (pad_rep [(.ref (A 0)), (.ref (A 1)), (.ref (A 2))] .null 1)))
  have hin14 : ¬ ((3 : Int32) < 0 ∨ cl14.slots.size ≤ ((3 : Int32)).toNatClampNeg) := inb_of Sz14 ⟨by decide, by decide⟩
  obtain ⟨T15, h15, X15, e15, W15, st15⟩ := stR X13 hx hZ e13 Ar14 (j := (3 : Int32)) hin14 rfl (Sto.ofV Ar14 q14 O3 (Ins.self (EN.1.2.2.2.2.2.2.2.1.ext OL12.2))) (g := (mkF m 28 #[.val (.int p1), .val (.int p2), .val (.int p3), .unset, .unset, .unset, .unset, .unset, .unset] [(.ref (A 3)), (.int (3 : Int32)), (.ref b3), (.ref b3)])) rfl rfl (hb hby at_28)
  have NF15 := Fr.snoc X15 NF12 gn_b3
  have OL15 : Old Z n0 h15 := OL12.wr W15 gn_b3
  have KK15 : Keep h0 h15 [] := KK12.wr W15 (Or.inr sz_b3)
  have V15 : Arv Z h15 b3 k3 (.object "com/example/tallywire/tallywire/wire/FieldType") (28 : Int32) [(.ref (A 0)), (.ref (A 1)), (.ref (A 2)), (.ref (A 3))] .null := Arv.set Ar14 q14 Sz14 Nn14 Hh14 Gg14 rfl W15 3 (by decide) (by decide : 3 < 4)
  obtain ⟨T16, X16, e16, st16⟩ := getS2 X15 hx hZ hown (host := "") (Or.inl (hw _ (List.mem_of_getElem? (i := 12) rfl))) Via.refl e15 (EN.2.1.1.ext OL15.2) (g := (mkF m 31 #[.val (.int p1), .val (.int p2), .val (.int p3), .unset, .unset, .unset, .unset, .unset, .unset] [(.int (4 : Int32)), (.ref b3), (.ref b3)])) rfl (hb hby at_31)
  obtain ⟨cl17, Ar17, q17, Sz17, Nn17, Hh17, Gg17⟩ := (id (Arv.pad V15 (pad_rep [(.ref (A 0)), (.ref (A 1)), (.ref (A 2)), (.ref (A 3))] .null 1)))
  have hin17 : ¬ ((4 : Int32) < 0 ∨ cl17.slots.size ≤ ((4 : Int32)).toNatClampNeg) := inb_of Sz17 ⟨by decide, by decide⟩
  obtain ⟨T18, h18, X18, e18, W18, st18⟩ := stR X16 hx hZ e16 Ar17 (j := (4 : Int32)) hin17 rfl (Sto.ofV Ar17 q17 O3 (Ins.self (EN.2.1.2.1.ext OL15.2))) (g := (mkF m 34 #[.val (.int p1), .val (.int p2), .val (.int p3), .unset, .unset, .unset, .unset, .unset, .unset] [(.ref (A 4)), (.int (4 : Int32)), (.ref b3), (.ref b3)])) rfl rfl (hb hby at_34)
  have NF18 := Fr.snoc X18 NF15 gn_b3
  have OL18 : Old Z n0 h18 := OL15.wr W18 gn_b3
  have KK18 : Keep h0 h18 [] := KK15.wr W18 (Or.inr sz_b3)
  have V18 : Arv Z h18 b3 k3 (.object "com/example/tallywire/tallywire/wire/FieldType") (28 : Int32) [(.ref (A 0)), (.ref (A 1)), (.ref (A 2)), (.ref (A 3)), (.ref (A 4))] .null := Arv.set Ar17 q17 Sz17 Nn17 Hh17 Gg17 rfl W18 4 (by decide) (by decide : 4 < 5)
  obtain ⟨T19, X19, e19, st19⟩ := getS2 X18 hx hZ hown (host := "") (Or.inl (hw _ (List.mem_of_getElem? (i := 14) rfl))) Via.refl e18 (EN.2.1.2.2.1.ext OL18.2) (g := (mkF m 37 #[.val (.int p1), .val (.int p2), .val (.int p3), .unset, .unset, .unset, .unset, .unset, .unset] [(.int (5 : Int32)), (.ref b3), (.ref b3)])) rfl (hb hby at_37)
  obtain ⟨cl20, Ar20, q20, Sz20, Nn20, Hh20, Gg20⟩ := (id (Arv.pad V18 (pad_rep [(.ref (A 0)), (.ref (A 1)), (.ref (A 2)), (.ref (A 3)), (.ref (A 4))] .null 1)))
  have hin20 : ¬ ((5 : Int32) < 0 ∨ cl20.slots.size ≤ ((5 : Int32)).toNatClampNeg) := inb_of Sz20 ⟨by decide, by decide⟩
  obtain ⟨T21, h21, X21, e21, W21, st21⟩ := stR X19 hx hZ e19 Ar20 (j := (5 : Int32)) hin20 rfl (Sto.ofV Ar20 q20 O3 (Ins.self (EN.2.1.2.2.2.1.ext OL18.2))) (g := (mkF m 40 #[.val (.int p1), .val (.int p2), .val (.int p3), .unset, .unset, .unset, .unset, .unset, .unset] [(.ref (A 5)), (.int (5 : Int32)), (.ref b3), (.ref b3)])) rfl rfl (hb hby at_40)
  have NF21 := Fr.snoc X21 NF18 gn_b3
  have OL21 : Old Z n0 h21 := OL18.wr W21 gn_b3
  have KK21 : Keep h0 h21 [] := KK18.wr W21 (Or.inr sz_b3)
  have V21 : Arv Z h21 b3 k3 (.object "com/example/tallywire/tallywire/wire/FieldType") (28 : Int32) [(.ref (A 0)), (.ref (A 1)), (.ref (A 2)), (.ref (A 3)), (.ref (A 4)), (.ref (A 5))] .null := Arv.set Ar20 q20 Sz20 Nn20 Hh20 Gg20 rfl W21 5 (by decide) (by decide : 5 < 6)
  obtain ⟨T22, X22, e22, st22⟩ := getS2 X21 hx hZ hown (host := "") (Or.inl (hw _ (List.mem_of_getElem? (i := 16) rfl))) Via.refl e21 (EN.2.1.2.2.2.2.1.ext OL21.2) (g := (mkF m 44 #[.val (.int p1), .val (.int p2), .val (.int p3), .unset, .unset, .unset, .unset, .unset, .unset] [(.int (6 : Int32)), (.ref b3), (.ref b3)])) rfl (hb hby at_44)
  obtain ⟨cl23, Ar23, q23, Sz23, Nn23, Hh23, Gg23⟩ := (id (Arv.pad V21 (pad_rep [(.ref (A 0)), (.ref (A 1)), (.ref (A 2)), (.ref (A 3)), (.ref (A 4)), (.ref (A 5))] .null 1)))
  have hin23 : ¬ ((6 : Int32) < 0 ∨ cl23.slots.size ≤ ((6 : Int32)).toNatClampNeg) := inb_of Sz23 ⟨by decide, by decide⟩
  obtain ⟨T24, h24, X24, e24, W24, st24⟩ := stR X22 hx hZ e22 Ar23 (j := (6 : Int32)) hin23 rfl (Sto.ofV Ar23 q23 O3 (Ins.self (EN.2.1.2.2.2.2.2.1.ext OL21.2))) (g := (mkF m 47 #[.val (.int p1), .val (.int p2), .val (.int p3), .unset, .unset, .unset, .unset, .unset, .unset] [(.ref (A 6)), (.int (6 : Int32)), (.ref b3), (.ref b3)])) rfl rfl (hb hby at_47)
  have NF24 := Fr.snoc X24 NF21 gn_b3
  have OL24 : Old Z n0 h24 := OL21.wr W24 gn_b3
  have KK24 : Keep h0 h24 [] := KK21.wr W24 (Or.inr sz_b3)
  have V24 : Arv Z h24 b3 k3 (.object "com/example/tallywire/tallywire/wire/FieldType") (28 : Int32) [(.ref (A 0)), (.ref (A 1)), (.ref (A 2)), (.ref (A 3)), (.ref (A 4)), (.ref (A 5)), (.ref (A 6))] .null := Arv.set Ar23 q23 Sz23 Nn23 Hh23 Gg23 rfl W24 6 (by decide) (by decide : 6 < 7)
  obtain ⟨T25, X25, e25, st25⟩ := getS2 X24 hx hZ hown (host := "") (Or.inl (hw _ (List.mem_of_getElem? (i := 18) rfl))) Via.refl e24 (EN.2.1.2.2.2.2.2.2.1.ext OL24.2) (g := (mkF m 51 #[.val (.int p1), .val (.int p2), .val (.int p3), .unset, .unset, .unset, .unset, .unset, .unset] [(.int (7 : Int32)), (.ref b3), (.ref b3)])) rfl (hb hby at_51)
  obtain ⟨cl26, Ar26, q26, Sz26, Nn26, Hh26, Gg26⟩ := (id (Arv.pad V24 (pad_rep [(.ref (A 0)), (.ref (A 1)), (.ref (A 2)), (.ref (A 3)), (.ref (A 4)), (.ref (A 5)), (.ref (A 6))] .null 1)))
  have hin26 : ¬ ((7 : Int32) < 0 ∨ cl26.slots.size ≤ ((7 : Int32)).toNatClampNeg) := inb_of Sz26 ⟨by decide, by decide⟩
  obtain ⟨T27, h27, X27, e27, W27, st27⟩ := stR X25 hx hZ e25 Ar26 (j := (7 : Int32)) hin26 rfl (Sto.ofV Ar26 q26 O3 (Ins.self (EN.2.1.2.2.2.2.2.2.2.1.ext OL24.2))) (g := (mkF m 54 #[.val (.int p1), .val (.int p2), .val (.int p3), .unset, .unset, .unset, .unset, .unset, .unset] [(.ref (A 7)), (.int (7 : Int32)), (.ref b3), (.ref b3)])) rfl rfl (hb hby at_54)
  have NF27 := Fr.snoc X27 NF24 gn_b3
  have OL27 : Old Z n0 h27 := OL24.wr W27 gn_b3
  have KK27 : Keep h0 h27 [] := KK24.wr W27 (Or.inr sz_b3)
  have V27 : Arv Z h27 b3 k3 (.object "com/example/tallywire/tallywire/wire/FieldType") (28 : Int32) [(.ref (A 0)), (.ref (A 1)), (.ref (A 2)), (.ref (A 3)), (.ref (A 4)), (.ref (A 5)), (.ref (A 6)), (.ref (A 7))] .null := Arv.set Ar26 q26 Sz26 Nn26 Hh26 Gg26 rfl W27 7 (by decide) (by decide : 7 < 8)
  obtain ⟨T28, X28, e28, st28⟩ := getS2 X27 hx hZ hown (host := "") (Or.inl (hw _ (List.mem_of_getElem? (i := 20) rfl))) Via.refl e27 (EN.2.2.1.1.ext OL27.2) (g := (mkF m 58 #[.val (.int p1), .val (.int p2), .val (.int p3), .unset, .unset, .unset, .unset, .unset, .unset] [(.int (8 : Int32)), (.ref b3), (.ref b3)])) rfl (hb hby at_58)
  obtain ⟨cl29, Ar29, q29, Sz29, Nn29, Hh29, Gg29⟩ := (id (Arv.pad V27 (pad_rep [(.ref (A 0)), (.ref (A 1)), (.ref (A 2)), (.ref (A 3)), (.ref (A 4)), (.ref (A 5)), (.ref (A 6)), (.ref (A 7))] .null 1)))
  have hin29 : ¬ ((8 : Int32) < 0 ∨ cl29.slots.size ≤ ((8 : Int32)).toNatClampNeg) := inb_of Sz29 ⟨by decide, by decide⟩
  obtain ⟨T30, h30, X30, e30, W30, st30⟩ := stR X28 hx hZ e28 Ar29 (j := (8 : Int32)) hin29 rfl (Sto.ofV Ar29 q29 O3 (Ins.self (EN.2.2.1.2.1.ext OL27.2))) (g := (mkF m 61 #[.val (.int p1), .val (.int p2), .val (.int p3), .unset, .unset, .unset, .unset, .unset, .unset] [(.ref (A 8)), (.int (8 : Int32)), (.ref b3), (.ref b3)])) rfl rfl (hb hby at_61)
  have NF30 := Fr.snoc X30 NF27 gn_b3
  have OL30 : Old Z n0 h30 := OL27.wr W30 gn_b3
  have KK30 : Keep h0 h30 [] := KK27.wr W30 (Or.inr sz_b3)
  have V30 : Arv Z h30 b3 k3 (.object "com/example/tallywire/tallywire/wire/FieldType") (28 : Int32) [(.ref (A 0)), (.ref (A 1)), (.ref (A 2)), (.ref (A 3)), (.ref (A 4)), (.ref (A 5)), (.ref (A 6)), (.ref (A 7)), (.ref (A 8))] .null := Arv.set Ar29 q29 Sz29 Nn29 Hh29 Gg29 rfl W30 8 (by decide) (by decide : 8 < 9)
  obtain ⟨T31, X31, e31, st31⟩ := getS2 X30 hx hZ hown (host := "") (Or.inl (hw _ (List.mem_of_getElem? (i := 22) rfl))) Via.refl e30 (EN.2.2.1.2.2.1.ext OL30.2) (g := (mkF m 65 #[.val (.int p1), .val (.int p2), .val (.int p3), .unset, .unset, .unset, .unset, .unset, .unset] [(.int (9 : Int32)), (.ref b3), (.ref b3)])) rfl (hb hby at_65)
  obtain ⟨cl32, Ar32, q32, Sz32, Nn32, Hh32, Gg32⟩ := (id (Arv.pad V30 (pad_rep [(.ref (A 0)), (.ref (A 1)), (.ref (A 2)), (.ref (A 3)), (.ref (A 4)), (.ref (A 5)), (.ref (A 6)), (.ref (A 7)), (.ref (A 8))] .null 1)))
  have hin32 : ¬ ((9 : Int32) < 0 ∨ cl32.slots.size ≤ ((9 : Int32)).toNatClampNeg) := inb_of Sz32 ⟨by decide, by decide⟩
  obtain ⟨T33, h33, X33, e33, W33, st33⟩ := stR X31 hx hZ e31 Ar32 (j := (9 : Int32)) hin32 rfl (Sto.ofV Ar32 q32 O3 (Ins.self (EN.2.2.1.2.2.2.1.ext OL30.2))) (g := (mkF m 68 #[.val (.int p1), .val (.int p2), .val (.int p3), .unset, .unset, .unset, .unset, .unset, .unset] [(.ref (A 9)), (.int (9 : Int32)), (.ref b3), (.ref b3)])) rfl rfl (hb hby at_68)
  have NF33 := Fr.snoc X33 NF30 gn_b3
  have OL33 : Old Z n0 h33 := OL30.wr W33 gn_b3
  have KK33 : Keep h0 h33 [] := KK30.wr W33 (Or.inr sz_b3)
  have V33 : Arv Z h33 b3 k3 (.object "com/example/tallywire/tallywire/wire/FieldType") (28 : Int32) [(.ref (A 0)), (.ref (A 1)), (.ref (A 2)), (.ref (A 3)), (.ref (A 4)), (.ref (A 5)), (.ref (A 6)), (.ref (A 7)), (.ref (A 8)), (.ref (A 9))] .null := Arv.set Ar32 q32 Sz32 Nn32 Hh32 Gg32 rfl W33 9 (by decide) (by decide : 9 < 10)
  obtain ⟨T34, X34, e34, st34⟩ := getS2 X33 hx hZ hown (host := "") (Or.inl (hw _ (List.mem_of_getElem? (i := 24) rfl))) Via.refl e33 (EN.2.2.1.2.2.2.2.1.ext OL33.2) (g := (mkF m 72 #[.val (.int p1), .val (.int p2), .val (.int p3), .unset, .unset, .unset, .unset, .unset, .unset] [(.int (10 : Int32)), (.ref b3), (.ref b3)])) rfl (hb hby at_72)
  obtain ⟨cl35, Ar35, q35, Sz35, Nn35, Hh35, Gg35⟩ := (id (Arv.pad V33 (pad_rep [(.ref (A 0)), (.ref (A 1)), (.ref (A 2)), (.ref (A 3)), (.ref (A 4)), (.ref (A 5)), (.ref (A 6)), (.ref (A 7)), (.ref (A 8)), (.ref (A 9))] .null 1)))
  have hin35 : ¬ ((10 : Int32) < 0 ∨ cl35.slots.size ≤ ((10 : Int32)).toNatClampNeg) := inb_of Sz35 ⟨by decide, by decide⟩
  obtain ⟨T36, h36, X36, e36, W36, st36⟩ := stR X34 hx hZ e34 Ar35 (j := (10 : Int32)) hin35 rfl (Sto.ofV Ar35 q35 O3 (Ins.self (EN.2.2.1.2.2.2.2.2.1.ext OL33.2))) (g := (mkF m 75 #[.val (.int p1), .val (.int p2), .val (.int p3), .unset, .unset, .unset, .unset, .unset, .unset] [(.ref (A 10)), (.int (10 : Int32)), (.ref b3), (.ref b3)])) rfl rfl (hb hby at_75)
  have NF36 := Fr.snoc X36 NF33 gn_b3
  have OL36 : Old Z n0 h36 := OL33.wr W36 gn_b3
  have KK36 : Keep h0 h36 [] := KK33.wr W36 (Or.inr sz_b3)
  have V36 : Arv Z h36 b3 k3 (.object "com/example/tallywire/tallywire/wire/FieldType") (28 : Int32) [(.ref (A 0)), (.ref (A 1)), (.ref (A 2)), (.ref (A 3)), (.ref (A 4)), (.ref (A 5)), (.ref (A 6)), (.ref (A 7)), (.ref (A 8)), (.ref (A 9)), (.ref (A 10))] .null := Arv.set Ar35 q35 Sz35 Nn35 Hh35 Gg35 rfl W36 10 (by decide) (by decide : 10 < 11)
  obtain ⟨T37, X37, e37, st37⟩ := getS2 X36 hx hZ hown (host := "") (Or.inl (hw _ (List.mem_of_getElem? (i := 26) rfl))) Via.refl e36 (EN.2.2.1.2.2.2.2.2.2.1.ext OL36.2) (g := (mkF m 79 #[.val (.int p1), .val (.int p2), .val (.int p3), .unset, .unset, .unset, .unset, .unset, .unset] [(.int (11 : Int32)), (.ref b3), (.ref b3)])) rfl (hb hby at_79)
  obtain ⟨cl38, Ar38, q38, Sz38, Nn38, Hh38, Gg38⟩ := (id (Arv.pad V36 (pad_rep [(.ref (A 0)), (.ref (A 1)), (.ref (A 2)), (.ref (A 3)), (.ref (A 4)), (.ref (A 5)), (.ref (A 6)), (.ref (A 7)), (.ref (A 8)), (.ref (A 9)), (.ref (A 10))] .null 1)))
  have hin38 : ¬ ((11 : Int32) < 0 ∨ cl38.slots.size ≤ ((11 : Int32)).toNatClampNeg) := inb_of Sz38 ⟨by decide, by decide⟩
  obtain ⟨T39, h39, X39, e39, W39, st39⟩ := stR X37 hx hZ e37 Ar38 (j := (11 : Int32)) hin38 rfl (Sto.ofV Ar38 q38 O3 (Ins.self (EN.2.2.1.2.2.2.2.2.2.2.1.ext OL36.2))) (g := (mkF m 82 #[.val (.int p1), .val (.int p2), .val (.int p3), .unset, .unset, .unset, .unset, .unset, .unset] [(.ref (A 11)), (.int (11 : Int32)), (.ref b3), (.ref b3)])) rfl rfl (hb hby at_82)
  have NF39 := Fr.snoc X39 NF36 gn_b3
  have OL39 : Old Z n0 h39 := OL36.wr W39 gn_b3
  have KK39 : Keep h0 h39 [] := KK36.wr W39 (Or.inr sz_b3)
  have V39 : Arv Z h39 b3 k3 (.object "com/example/tallywire/tallywire/wire/FieldType") (28 : Int32) [(.ref (A 0)), (.ref (A 1)), (.ref (A 2)), (.ref (A 3)), (.ref (A 4)), (.ref (A 5)), (.ref (A 6)), (.ref (A 7)), (.ref (A 8)), (.ref (A 9)), (.ref (A 10)), (.ref (A 11))] .null := Arv.set Ar38 q38 Sz38 Nn38 Hh38 Gg38 rfl W39 11 (by decide) (by decide : 11 < 12)
  obtain ⟨T40, X40, e40, st40⟩ := getS2 X39 hx hZ hown (host := "") (Or.inl (hw _ (List.mem_of_getElem? (i := 28) rfl))) Via.refl e39 (EN.2.2.2.1.1.ext OL39.2) (g := (mkF m 86 #[.val (.int p1), .val (.int p2), .val (.int p3), .unset, .unset, .unset, .unset, .unset, .unset] [(.int (12 : Int32)), (.ref b3), (.ref b3)])) rfl (hb hby at_86)
  obtain ⟨cl41, Ar41, q41, Sz41, Nn41, Hh41, Gg41⟩ := (id (Arv.pad V39 (pad_rep [(.ref (A 0)), (.ref (A 1)), (.ref (A 2)), (.ref (A 3)), (.ref (A 4)), (.ref (A 5)), (.ref (A 6)), (.ref (A 7)), (.ref (A 8)), (.ref (A 9)), (.ref (A 10)), (.ref (A 11))] .null 1)))
  have hin41 : ¬ ((12 : Int32) < 0 ∨ cl41.slots.size ≤ ((12 : Int32)).toNatClampNeg) := inb_of Sz41 ⟨by decide, by decide⟩
  obtain ⟨T42, h42, X42, e42, W42, st42⟩ := stR X40 hx hZ e40 Ar41 (j := (12 : Int32)) hin41 rfl (Sto.ofV Ar41 q41 O3 (Ins.self (EN.2.2.2.1.2.1.ext OL39.2))) (g := (mkF m 89 #[.val (.int p1), .val (.int p2), .val (.int p3), .unset, .unset, .unset, .unset, .unset, .unset] [(.ref (A 12)), (.int (12 : Int32)), (.ref b3), (.ref b3)])) rfl rfl (hb hby at_89)
  have NF42 := Fr.snoc X42 NF39 gn_b3
  have OL42 : Old Z n0 h42 := OL39.wr W42 gn_b3
  have KK42 : Keep h0 h42 [] := KK39.wr W42 (Or.inr sz_b3)
  have V42 : Arv Z h42 b3 k3 (.object "com/example/tallywire/tallywire/wire/FieldType") (28 : Int32) [(.ref (A 0)), (.ref (A 1)), (.ref (A 2)), (.ref (A 3)), (.ref (A 4)), (.ref (A 5)), (.ref (A 6)), (.ref (A 7)), (.ref (A 8)), (.ref (A 9)), (.ref (A 10)), (.ref (A 11)), (.ref (A 12))] .null := Arv.set Ar41 q41 Sz41 Nn41 Hh41 Gg41 rfl W42 12 (by decide) (by decide : 12 < 13)
  obtain ⟨T43, X43, e43, st43⟩ := getS2 X42 hx hZ hown (host := "") (Or.inl (hw _ (List.mem_of_getElem? (i := 30) rfl))) Via.refl e42 (EN.2.2.2.1.2.2.1.ext OL42.2) (g := (mkF m 93 #[.val (.int p1), .val (.int p2), .val (.int p3), .unset, .unset, .unset, .unset, .unset, .unset] [(.int (13 : Int32)), (.ref b3), (.ref b3)])) rfl (hb hby at_93)
  obtain ⟨cl44, Ar44, q44, Sz44, Nn44, Hh44, Gg44⟩ := (id (Arv.pad V42 (pad_rep [(.ref (A 0)), (.ref (A 1)), (.ref (A 2)), (.ref (A 3)), (.ref (A 4)), (.ref (A 5)), (.ref (A 6)), (.ref (A 7)), (.ref (A 8)), (.ref (A 9)), (.ref (A 10)), (.ref (A 11)), (.ref (A 12))] .null 1)))
  have hin44 : ¬ ((13 : Int32) < 0 ∨ cl44.slots.size ≤ ((13 : Int32)).toNatClampNeg) := inb_of Sz44 ⟨by decide, by decide⟩
  obtain ⟨T45, h45, X45, e45, W45, st45⟩ := stR X43 hx hZ e43 Ar44 (j := (13 : Int32)) hin44 rfl (Sto.ofV Ar44 q44 O3 (Ins.self (EN.2.2.2.1.2.2.2.1.ext OL42.2))) (g := (mkF m 96 #[.val (.int p1), .val (.int p2), .val (.int p3), .unset, .unset, .unset, .unset, .unset, .unset] [(.ref (A 13)), (.int (13 : Int32)), (.ref b3), (.ref b3)])) rfl rfl (hb hby at_96)
  have NF45 := Fr.snoc X45 NF42 gn_b3
  have OL45 : Old Z n0 h45 := OL42.wr W45 gn_b3
  have KK45 : Keep h0 h45 [] := KK42.wr W45 (Or.inr sz_b3)
  have V45 : Arv Z h45 b3 k3 (.object "com/example/tallywire/tallywire/wire/FieldType") (28 : Int32) [(.ref (A 0)), (.ref (A 1)), (.ref (A 2)), (.ref (A 3)), (.ref (A 4)), (.ref (A 5)), (.ref (A 6)), (.ref (A 7)), (.ref (A 8)), (.ref (A 9)), (.ref (A 10)), (.ref (A 11)), (.ref (A 12)), (.ref (A 13))] .null := Arv.set Ar44 q44 Sz44 Nn44 Hh44 Gg44 rfl W45 13 (by decide) (by decide : 13 < 14)
  obtain ⟨T46, X46, e46, st46⟩ := getS2 X45 hx hZ hown (host := "") (Or.inl (hw _ (List.mem_of_getElem? (i := 32) rfl))) Via.refl e45 (EN.2.2.2.1.2.2.2.2.1.ext OL45.2) (g := (mkF m 100 #[.val (.int p1), .val (.int p2), .val (.int p3), .unset, .unset, .unset, .unset, .unset, .unset] [(.int (14 : Int32)), (.ref b3), (.ref b3)])) rfl (hb hby at_100)
  obtain ⟨cl47, Ar47, q47, Sz47, Nn47, Hh47, Gg47⟩ := (id (Arv.pad V45 (pad_rep [(.ref (A 0)), (.ref (A 1)), (.ref (A 2)), (.ref (A 3)), (.ref (A 4)), (.ref (A 5)), (.ref (A 6)), (.ref (A 7)), (.ref (A 8)), (.ref (A 9)), (.ref (A 10)), (.ref (A 11)), (.ref (A 12)), (.ref (A 13))] .null 1)))
  have hin47 : ¬ ((14 : Int32) < 0 ∨ cl47.slots.size ≤ ((14 : Int32)).toNatClampNeg) := inb_of Sz47 ⟨by decide, by decide⟩
  obtain ⟨T48, h48, X48, e48, W48, st48⟩ := stR X46 hx hZ e46 Ar47 (j := (14 : Int32)) hin47 rfl (Sto.ofV Ar47 q47 O3 (Ins.self (EN.2.2.2.1.2.2.2.2.2.1.ext OL45.2))) (g := (mkF m 103 #[.val (.int p1), .val (.int p2), .val (.int p3), .unset, .unset, .unset, .unset, .unset, .unset] [(.ref (A 14)), (.int (14 : Int32)), (.ref b3), (.ref b3)])) rfl rfl (hb hby at_103)
  have NF48 := Fr.snoc X48 NF45 gn_b3
  have OL48 : Old Z n0 h48 := OL45.wr W48 gn_b3
  have KK48 : Keep h0 h48 [] := KK45.wr W48 (Or.inr sz_b3)
  have V48 : Arv Z h48 b3 k3 (.object "com/example/tallywire/tallywire/wire/FieldType") (28 : Int32) [(.ref (A 0)), (.ref (A 1)), (.ref (A 2)), (.ref (A 3)), (.ref (A 4)), (.ref (A 5)), (.ref (A 6)), (.ref (A 7)), (.ref (A 8)), (.ref (A 9)), (.ref (A 10)), (.ref (A 11)), (.ref (A 12)), (.ref (A 13)), (.ref (A 14))] .null := Arv.set Ar47 q47 Sz47 Nn47 Hh47 Gg47 rfl W48 14 (by decide) (by decide : 14 < 15)
  obtain ⟨T49, X49, e49, st49⟩ := getS2 X48 hx hZ hown (host := "") (Or.inl (hw _ (List.mem_of_getElem? (i := 34) rfl))) Via.refl e48 (EN.2.2.2.1.2.2.2.2.2.2.1.ext OL48.2) (g := (mkF m 107 #[.val (.int p1), .val (.int p2), .val (.int p3), .unset, .unset, .unset, .unset, .unset, .unset] [(.int (15 : Int32)), (.ref b3), (.ref b3)])) rfl (hb hby at_107)
  obtain ⟨cl50, Ar50, q50, Sz50, Nn50, Hh50, Gg50⟩ := (id (Arv.pad V48 (pad_rep [(.ref (A 0)), (.ref (A 1)), (.ref (A 2)), (.ref (A 3)), (.ref (A 4)), (.ref (A 5)), (.ref (A 6)), (.ref (A 7)), (.ref (A 8)), (.ref (A 9)), (.ref (A 10)), (.ref (A 11)), (.ref (A 12)), (.ref (A 13)), (.ref (A 14))] .null 1)))
  have hin50 : ¬ ((15 : Int32) < 0 ∨ cl50.slots.size ≤ ((15 : Int32)).toNatClampNeg) := inb_of Sz50 ⟨by decide, by decide⟩
  obtain ⟨T51, h51, X51, e51, W51, st51⟩ := stR X49 hx hZ e49 Ar50 (j := (15 : Int32)) hin50 rfl (Sto.ofV Ar50 q50 O3 (Ins.self (EN.2.2.2.1.2.2.2.2.2.2.2.1.ext OL48.2))) (g := (mkF m 110 #[.val (.int p1), .val (.int p2), .val (.int p3), .unset, .unset, .unset, .unset, .unset, .unset] [(.ref (A 15)), (.int (15 : Int32)), (.ref b3), (.ref b3)])) rfl rfl (hb hby at_110)
  have NF51 := Fr.snoc X51 NF48 gn_b3
  have OL51 : Old Z n0 h51 := OL48.wr W51 gn_b3
  have KK51 : Keep h0 h51 [] := KK48.wr W51 (Or.inr sz_b3)
  have V51 : Arv Z h51 b3 k3 (.object "com/example/tallywire/tallywire/wire/FieldType") (28 : Int32) [(.ref (A 0)), (.ref (A 1)), (.ref (A 2)), (.ref (A 3)), (.ref (A 4)), (.ref (A 5)), (.ref (A 6)), (.ref (A 7)), (.ref (A 8)), (.ref (A 9)), (.ref (A 10)), (.ref (A 11)), (.ref (A 12)), (.ref (A 13)), (.ref (A 14)), (.ref (A 15))] .null := Arv.set Ar50 q50 Sz50 Nn50 Hh50 Gg50 rfl W51 15 (by decide) (by decide : 15 < 16)
  obtain ⟨T52, X52, e52, st52⟩ := getS2 X51 hx hZ hown (host := "") (Or.inl (hw _ (List.mem_of_getElem? (i := 36) rfl))) Via.refl e51 (EN.2.2.2.2.1.1.ext OL51.2) (g := (mkF m 114 #[.val (.int p1), .val (.int p2), .val (.int p3), .unset, .unset, .unset, .unset, .unset, .unset] [(.int (16 : Int32)), (.ref b3), (.ref b3)])) rfl (hb hby at_114)
  obtain ⟨cl53, Ar53, q53, Sz53, Nn53, Hh53, Gg53⟩ := (id (Arv.pad V51 (pad_rep [(.ref (A 0)), (.ref (A 1)), (.ref (A 2)), (.ref (A 3)), (.ref (A 4)), (.ref (A 5)), (.ref (A 6)), (.ref (A 7)), (.ref (A 8)), (.ref (A 9)), (.ref (A 10)), (.ref (A 11)), (.ref (A 12)), (.ref (A 13)), (.ref (A 14)), (.ref (A 15))] .null 1)))
  have hin53 : ¬ ((16 : Int32) < 0 ∨ cl53.slots.size ≤ ((16 : Int32)).toNatClampNeg) := inb_of Sz53 ⟨by decide, by decide⟩
  obtain ⟨T54, h54, X54, e54, W54, st54⟩ := stR X52 hx hZ e52 Ar53 (j := (16 : Int32)) hin53 rfl (Sto.ofV Ar53 q53 O3 (Ins.self (EN.2.2.2.2.1.2.1.ext OL51.2))) (g := (mkF m 117 #[.val (.int p1), .val (.int p2), .val (.int p3), .unset, .unset, .unset, .unset, .unset, .unset] [(.ref (A 16)), (.int (16 : Int32)), (.ref b3), (.ref b3)])) rfl rfl (hb hby at_117)
  have NF54 := Fr.snoc X54 NF51 gn_b3
  have OL54 : Old Z n0 h54 := OL51.wr W54 gn_b3
  have KK54 : Keep h0 h54 [] := KK51.wr W54 (Or.inr sz_b3)
  have V54 : Arv Z h54 b3 k3 (.object "com/example/tallywire/tallywire/wire/FieldType") (28 : Int32) [(.ref (A 0)), (.ref (A 1)), (.ref (A 2)), (.ref (A 3)), (.ref (A 4)), (.ref (A 5)), (.ref (A 6)), (.ref (A 7)), (.ref (A 8)), (.ref (A 9)), (.ref (A 10)), (.ref (A 11)), (.ref (A 12)), (.ref (A 13)), (.ref (A 14)), (.ref (A 15)), (.ref (A 16))] .null := Arv.set Ar53 q53 Sz53 Nn53 Hh53 Gg53 rfl W54 16 (by decide) (by decide : 16 < 17)
  obtain ⟨T55, X55, e55, st55⟩ := getS2 X54 hx hZ hown (host := "") (Or.inl (hw _ (List.mem_of_getElem? (i := 38) rfl))) Via.refl e54 (EN.2.2.2.2.1.2.2.1.ext OL54.2) (g := (mkF m 121 #[.val (.int p1), .val (.int p2), .val (.int p3), .unset, .unset, .unset, .unset, .unset, .unset] [(.int (17 : Int32)), (.ref b3), (.ref b3)])) rfl (hb hby at_121)
  obtain ⟨cl56, Ar56, q56, Sz56, Nn56, Hh56, Gg56⟩ := (id (Arv.pad V54 (pad_rep [(.ref (A 0)), (.ref (A 1)), (.ref (A 2)), (.ref (A 3)), (.ref (A 4)), (.ref (A 5)), (.ref (A 6)), (.ref (A 7)), (.ref (A 8)), (.ref (A 9)), (.ref (A 10)), (.ref (A 11)), (.ref (A 12)), (.ref (A 13)), (.ref (A 14)), (.ref (A 15)), (.ref (A 16))] .null 1)))
  have hin56 : ¬ ((17 : Int32) < 0 ∨ cl56.slots.size ≤ ((17 : Int32)).toNatClampNeg) := inb_of Sz56 ⟨by decide, by decide⟩
  obtain ⟨T57, h57, X57, e57, W57, st57⟩ := stR X55 hx hZ e55 Ar56 (j := (17 : Int32)) hin56 rfl (Sto.ofV Ar56 q56 O3 (Ins.self (EN.2.2.2.2.1.2.2.2.1.ext OL54.2))) (g := (mkF m 124 #[.val (.int p1), .val (.int p2), .val (.int p3), .unset, .unset, .unset, .unset, .unset, .unset] [(.ref (A 17)), (.int (17 : Int32)), (.ref b3), (.ref b3)])) rfl rfl (hb hby at_124)
  have NF57 := Fr.snoc X57 NF54 gn_b3
  have OL57 : Old Z n0 h57 := OL54.wr W57 gn_b3
  have KK57 : Keep h0 h57 [] := KK54.wr W57 (Or.inr sz_b3)
  have V57 : Arv Z h57 b3 k3 (.object "com/example/tallywire/tallywire/wire/FieldType") (28 : Int32) [(.ref (A 0)), (.ref (A 1)), (.ref (A 2)), (.ref (A 3)), (.ref (A 4)), (.ref (A 5)), (.ref (A 6)), (.ref (A 7)), (.ref (A 8)), (.ref (A 9)), (.ref (A 10)), (.ref (A 11)), (.ref (A 12)), (.ref (A 13)), (.ref (A 14)), (.ref (A 15)), (.ref (A 16)), (.ref (A 17))] .null := Arv.set Ar56 q56 Sz56 Nn56 Hh56 Gg56 rfl W57 17 (by decide) (by decide : 17 < 18)
  obtain ⟨T58, X58, e58, st58⟩ := getS2 X57 hx hZ hown (host := "") (Or.inl (hw _ (List.mem_of_getElem? (i := 40) rfl))) Via.refl e57 (EN.2.2.2.2.1.2.2.2.2.1.ext OL57.2) (g := (mkF m 128 #[.val (.int p1), .val (.int p2), .val (.int p3), .unset, .unset, .unset, .unset, .unset, .unset] [(.int (18 : Int32)), (.ref b3), (.ref b3)])) rfl (hb hby at_128)
  obtain ⟨cl59, Ar59, q59, Sz59, Nn59, Hh59, Gg59⟩ := (id (Arv.pad V57 (pad_rep [(.ref (A 0)), (.ref (A 1)), (.ref (A 2)), (.ref (A 3)), (.ref (A 4)), (.ref (A 5)), (.ref (A 6)), (.ref (A 7)), (.ref (A 8)), (.ref (A 9)), (.ref (A 10)), (.ref (A 11)), (.ref (A 12)), (.ref (A 13)), (.ref (A 14)), (.ref (A 15)), (.ref (A 16)), (.ref (A 17))] .null 1)))
  have hin59 : ¬ ((18 : Int32) < 0 ∨ cl59.slots.size ≤ ((18 : Int32)).toNatClampNeg) := inb_of Sz59 ⟨by decide, by decide⟩
  obtain ⟨T60, h60, X60, e60, W60, st60⟩ := stR X58 hx hZ e58 Ar59 (j := (18 : Int32)) hin59 rfl (Sto.ofV Ar59 q59 O3 (Ins.self (EN.2.2.2.2.1.2.2.2.2.2.1.ext OL57.2))) (g := (mkF m 131 #[.val (.int p1), .val (.int p2), .val (.int p3), .unset, .unset, .unset, .unset, .unset, .unset] [(.ref (A 18)), (.int (18 : Int32)), (.ref b3), (.ref b3)])) rfl rfl (hb hby at_131)
  have NF60 := Fr.snoc X60 NF57 gn_b3
  have OL60 : Old Z n0 h60 := OL57.wr W60 gn_b3
  have KK60 : Keep h0 h60 [] := KK57.wr W60 (Or.inr sz_b3)
  have V60 : Arv Z h60 b3 k3 (.object "com/example/tallywire/tallywire/wire/FieldType") (28 : Int32) [(.ref (A 0)), (.ref (A 1)), (.ref (A 2)), (.ref (A 3)), (.ref (A 4)), (.ref (A 5)), (.ref (A 6)), (.ref (A 7)), (.ref (A 8)), (.ref (A 9)), (.ref (A 10)), (.ref (A 11)), (.ref (A 12)), (.ref (A 13)), (.ref (A 14)), (.ref (A 15)), (.ref (A 16)), (.ref (A 17)), (.ref (A 18))] .null := Arv.set Ar59 q59 Sz59 Nn59 Hh59 Gg59 rfl W60 18 (by decide) (by decide : 18 < 19)
  obtain ⟨T61, X61, e61, st61⟩ := getS2 X60 hx hZ hown (host := "") (Or.inl (hw _ (List.mem_of_getElem? (i := 42) rfl))) Via.refl e60 (EN.2.2.2.2.1.2.2.2.2.2.2.1.ext OL60.2) (g := (mkF m 135 #[.val (.int p1), .val (.int p2), .val (.int p3), .unset, .unset, .unset, .unset, .unset, .unset] [(.int (19 : Int32)), (.ref b3), (.ref b3)])) rfl (hb hby at_135)
  obtain ⟨cl62, Ar62, q62, Sz62, Nn62, Hh62, Gg62⟩ := (id (Arv.pad V60 (pad_rep [(.ref (A 0)), (.ref (A 1)), (.ref (A 2)), (.ref (A 3)), (.ref (A 4)), (.ref (A 5)), (.ref (A 6)), (.ref (A 7)), (.ref (A 8)), (.ref (A 9)), (.ref (A 10)), (.ref (A 11)), (.ref (A 12)), (.ref (A 13)), (.ref (A 14)), (.ref (A 15)), (.ref (A 16)), (.ref (A 17)), (.ref (A 18))] .null 1)))
  have hin62 : ¬ ((19 : Int32) < 0 ∨ cl62.slots.size ≤ ((19 : Int32)).toNatClampNeg) := inb_of Sz62 ⟨by decide, by decide⟩
  obtain ⟨T63, h63, X63, e63, W63, st63⟩ := stR X61 hx hZ e61 Ar62 (j := (19 : Int32)) hin62 rfl (Sto.ofV Ar62 q62 O3 (Ins.self (EN.2.2.2.2.1.2.2.2.2.2.2.2.1.ext OL60.2))) (g := (mkF m 138 #[.val (.int p1), .val (.int p2), .val (.int p3), .unset, .unset, .unset, .unset, .unset, .unset] [(.ref (A 19)), (.int (19 : Int32)), (.ref b3), (.ref b3)])) rfl rfl (hb hby at_138)
  have NF63 := Fr.snoc X63 NF60 gn_b3
  have OL63 : Old Z n0 h63 := OL60.wr W63 gn_b3
  have KK63 : Keep h0 h63 [] := KK60.wr W63 (Or.inr sz_b3)
  have V63 : Arv Z h63 b3 k3 (.object "com/example/tallywire/tallywire/wire/FieldType") (28 : Int32) [(.ref (A 0)), (.ref (A 1)), (.ref (A 2)), (.ref (A 3)), (.ref (A 4)), (.ref (A 5)), (.ref (A 6)), (.ref (A 7)), (.ref (A 8)), (.ref (A 9)), (.ref (A 10)), (.ref (A 11)), (.ref (A 12)), (.ref (A 13)), (.ref (A 14)), (.ref (A 15)), (.ref (A 16)), (.ref (A 17)), (.ref (A 18)), (.ref (A 19))] .null := Arv.set Ar62 q62 Sz62 Nn62 Hh62 Gg62 rfl W63 19 (by decide) (by decide : 19 < 20)
  obtain ⟨T64, X64, e64, st64⟩ := getS2 X63 hx hZ hown (host := "") (Or.inl (hw _ (List.mem_of_getElem? (i := 44) rfl))) Via.refl e63 (EN.2.2.2.2.2.1.1.ext OL63.2) (g := (mkF m 142 #[.val (.int p1), .val (.int p2), .val (.int p3), .unset, .unset, .unset, .unset, .unset, .unset] [(.int (20 : Int32)), (.ref b3), (.ref b3)])) rfl (hb hby at_142)
  obtain ⟨cl65, Ar65, q65, Sz65, Nn65, Hh65, Gg65⟩ := (id (Arv.pad V63 (pad_rep [(.ref (A 0)), (.ref (A 1)), (.ref (A 2)), (.ref (A 3)), (.ref (A 4)), (.ref (A 5)), (.ref (A 6)), (.ref (A 7)), (.ref (A 8)), (.ref (A 9)), (.ref (A 10)), (.ref (A 11)), (.ref (A 12)), (.ref (A 13)), (.ref (A 14)), (.ref (A 15)), (.ref (A 16)), (.ref (A 17)), (.ref (A 18)), (.ref (A 19))] .null 1)))
  have hin65 : ¬ ((20 : Int32) < 0 ∨ cl65.slots.size ≤ ((20 : Int32)).toNatClampNeg) := inb_of Sz65 ⟨by decide, by decide⟩
  obtain ⟨T66, h66, X66, e66, W66, st66⟩ := stR X64 hx hZ e64 Ar65 (j := (20 : Int32)) hin65 rfl (Sto.ofV Ar65 q65 O3 (Ins.self (EN.2.2.2.2.2.1.2.1.ext OL63.2))) (g := (mkF m 145 #[.val (.int p1), .val (.int p2), .val (.int p3), .unset, .unset, .unset, .unset, .unset, .unset] [(.ref (A 20)), (.int (20 : Int32)), (.ref b3), (.ref b3)])) rfl rfl (hb hby at_145)
  have NF66 := Fr.snoc X66 NF63 gn_b3
  have OL66 : Old Z n0 h66 := OL63.wr W66 gn_b3
  have KK66 : Keep h0 h66 [] := KK63.wr W66 (Or.inr sz_b3)
  have V66 : Arv Z h66 b3 k3 (.object "com/example/tallywire/tallywire/wire/FieldType") (28 : Int32) [(.ref (A 0)), (.ref (A 1)), (.ref (A 2)), (.ref (A 3)), (.ref (A 4)), (.ref (A 5)), (.ref (A 6)), (.ref (A 7)), (.ref (A 8)), (.ref (A 9)), (.ref (A 10)), (.ref (A 11)), (.ref (A 12)), (.ref (A 13)), (.ref (A 14)), (.ref (A 15)), (.ref (A 16)), (.ref (A 17)), (.ref (A 18)), (.ref (A 19)), (.ref (A 20))] .null := Arv.set Ar65 q65 Sz65 Nn65 Hh65 Gg65 rfl W66 20 (by decide) (by decide : 20 < 21)
  obtain ⟨T67, X67, e67, st67⟩ := getS2 X66 hx hZ hown (host := "") (Or.inl (hw _ (List.mem_of_getElem? (i := 46) rfl))) Via.refl e66 (EN.2.2.2.2.2.1.2.2.1.ext OL66.2) (g := (mkF m 149 #[.val (.int p1), .val (.int p2), .val (.int p3), .unset, .unset, .unset, .unset, .unset, .unset] [(.int (21 : Int32)), (.ref b3), (.ref b3)])) rfl (hb hby at_149)
  obtain ⟨cl68, Ar68, q68, Sz68, Nn68, Hh68, Gg68⟩ := (id (Arv.pad V66 (pad_rep [(.ref (A 0)), (.ref (A 1)), (.ref (A 2)), (.ref (A 3)), (.ref (A 4)), (.ref (A 5)), (.ref (A 6)), (.ref (A 7)), (.ref (A 8)), (.ref (A 9)), (.ref (A 10)), (.ref (A 11)), (.ref (A 12)), (.ref (A 13)), (.ref (A 14)), (.ref (A 15)), (.ref (A 16)), (.ref (A 17)), (.ref (A 18)), (.ref (A 19)), (.ref (A 20))] .null 1)))
  have hin68 : ¬ ((21 : Int32) < 0 ∨ cl68.slots.size ≤ ((21 : Int32)).toNatClampNeg) := inb_of Sz68 ⟨by decide, by decide⟩
  obtain ⟨T69, h69, X69, e69, W69, st69⟩ := stR X67 hx hZ e67 Ar68 (j := (21 : Int32)) hin68 rfl (Sto.ofV Ar68 q68 O3 (Ins.self (EN.2.2.2.2.2.1.2.2.2.1.ext OL66.2))) (g := (mkF m 152 #[.val (.int p1), .val (.int p2), .val (.int p3), .unset, .unset, .unset, .unset, .unset, .unset] [(.ref (A 21)), (.int (21 : Int32)), (.ref b3), (.ref b3)])) rfl rfl (hb hby at_152)
  have NF69 := Fr.snoc X69 NF66 gn_b3
  have OL69 : Old Z n0 h69 := OL66.wr W69 gn_b3
  have KK69 : Keep h0 h69 [] := KK66.wr W69 (Or.inr sz_b3)
  have V69 : Arv Z h69 b3 k3 (.object "com/example/tallywire/tallywire/wire/FieldType") (28 : Int32) [(.ref (A 0)), (.ref (A 1)), (.ref (A 2)), (.ref (A 3)), (.ref (A 4)), (.ref (A 5)), (.ref (A 6)), (.ref (A 7)), (.ref (A 8)), (.ref (A 9)), (.ref (A 10)), (.ref (A 11)), (.ref (A 12)), (.ref (A 13)), (.ref (A 14)), (.ref (A 15)), (.ref (A 16)), (.ref (A 17)), (.ref (A 18)), (.ref (A 19)), (.ref (A 20)), (.ref (A 21))] .null := Arv.set Ar68 q68 Sz68 Nn68 Hh68 Gg68 rfl W69 21 (by decide) (by decide : 21 < 22)
  obtain ⟨T70, X70, e70, st70⟩ := getS2 X69 hx hZ hown (host := "") (Or.inl (hw _ (List.mem_of_getElem? (i := 48) rfl))) Via.refl e69 (EN.2.2.2.2.2.1.2.2.2.2.1.ext OL69.2) (g := (mkF m 156 #[.val (.int p1), .val (.int p2), .val (.int p3), .unset, .unset, .unset, .unset, .unset, .unset] [(.int (22 : Int32)), (.ref b3), (.ref b3)])) rfl (hb hby at_156)
  obtain ⟨cl71, Ar71, q71, Sz71, Nn71, Hh71, Gg71⟩ := (id (Arv.pad V69 (pad_rep [(.ref (A 0)), (.ref (A 1)), (.ref (A 2)), (.ref (A 3)), (.ref (A 4)), (.ref (A 5)), (.ref (A 6)), (.ref (A 7)), (.ref (A 8)), (.ref (A 9)), (.ref (A 10)), (.ref (A 11)), (.ref (A 12)), (.ref (A 13)), (.ref (A 14)), (.ref (A 15)), (.ref (A 16)), (.ref (A 17)), (.ref (A 18)), (.ref (A 19)), (.ref (A 20)), (.ref (A 21))] .null 1)))
  have hin71 : ¬ ((22 : Int32) < 0 ∨ cl71.slots.size ≤ ((22 : Int32)).toNatClampNeg) := inb_of Sz71 ⟨by decide, by decide⟩
  obtain ⟨T72, h72, X72, e72, W72, st72⟩ := stR X70 hx hZ e70 Ar71 (j := (22 : Int32)) hin71 rfl (Sto.ofV Ar71 q71 O3 (Ins.self (EN.2.2.2.2.2.1.2.2.2.2.2.1.ext OL69.2))) (g := (mkF m 159 #[.val (.int p1), .val (.int p2), .val (.int p3), .unset, .unset, .unset, .unset, .unset, .unset] [(.ref (A 22)), (.int (22 : Int32)), (.ref b3), (.ref b3)])) rfl rfl (hb hby at_159)
  have NF72 := Fr.snoc X72 NF69 gn_b3
  have OL72 : Old Z n0 h72 := OL69.wr W72 gn_b3
  have KK72 : Keep h0 h72 [] := KK69.wr W72 (Or.inr sz_b3)
  have V72 : Arv Z h72 b3 k3 (.object "com/example/tallywire/tallywire/wire/FieldType") (28 : Int32) [(.ref (A 0)), (.ref (A 1)), (.ref (A 2)), (.ref (A 3)), (.ref (A 4)), (.ref (A 5)), (.ref (A 6)), (.ref (A 7)), (.ref (A 8)), (.ref (A 9)), (.ref (A 10)), (.ref (A 11)), (.ref (A 12)), (.ref (A 13)), (.ref (A 14)), (.ref (A 15)), (.ref (A 16)), (.ref (A 17)), (.ref (A 18)), (.ref (A 19)), (.ref (A 20)), (.ref (A 21)), (.ref (A 22))] .null := Arv.set Ar71 q71 Sz71 Nn71 Hh71 Gg71 rfl W72 22 (by decide) (by decide : 22 < 23)
  obtain ⟨T73, X73, e73, st73⟩ := getS2 X72 hx hZ hown (host := "") (Or.inl (hw _ (List.mem_of_getElem? (i := 50) rfl))) Via.refl e72 (EN.2.2.2.2.2.1.2.2.2.2.2.2.1.ext OL72.2) (g := (mkF m 163 #[.val (.int p1), .val (.int p2), .val (.int p3), .unset, .unset, .unset, .unset, .unset, .unset] [(.int (23 : Int32)), (.ref b3), (.ref b3)])) rfl (hb hby at_163)
  obtain ⟨cl74, Ar74, q74, Sz74, Nn74, Hh74, Gg74⟩ := (id (Arv.pad V72 (pad_rep [(.ref (A 0)), (.ref (A 1)), (.ref (A 2)), (.ref (A 3)), (.ref (A 4)), (.ref (A 5)), (.ref (A 6)), (.ref (A 7)), (.ref (A 8)), (.ref (A 9)), (.ref (A 10)), (.ref (A 11)), (.ref (A 12)), (.ref (A 13)), (.ref (A 14)), (.ref (A 15)), (.ref (A 16)), (.ref (A 17)), (.ref (A 18)), (.ref (A 19)), (.ref (A 20)), (.ref (A 21)), (.ref (A 22))] .null 1)))
  have hin74 : ¬ ((23 : Int32) < 0 ∨ cl74.slots.size ≤ ((23 : Int32)).toNatClampNeg) := inb_of Sz74 ⟨by decide, by decide⟩
  obtain ⟨T75, h75, X75, e75, W75, st75⟩ := stR X73 hx hZ e73 Ar74 (j := (23 : Int32)) hin74 rfl (Sto.ofV Ar74 q74 O3 (Ins.self (EN.2.2.2.2.2.1.2.2.2.2.2.2.2.1.ext OL72.2))) (g := (mkF m 166 #[.val (.int p1), .val (.int p2), .val (.int p3), .unset, .unset, .unset, .unset, .unset, .unset] [(.ref (A 23)), (.int (23 : Int32)), (.ref b3), (.ref b3)])) rfl rfl (hb hby at_166)
  have NF75 := Fr.snoc X75 NF72 gn_b3
  have OL75 : Old Z n0 h75 := OL72.wr W75 gn_b3
  have KK75 : Keep h0 h75 [] := KK72.wr W75 (Or.inr sz_b3)
  have V75 : Arv Z h75 b3 k3 (.object "com/example/tallywire/tallywire/wire/FieldType") (28 : Int32) [(.ref (A 0)), (.ref (A 1)), (.ref (A 2)), (.ref (A 3)), (.ref (A 4)), (.ref (A 5)), (.ref (A 6)), (.ref (A 7)), (.ref (A 8)), (.ref (A 9)), (.ref (A 10)), (.ref (A 11)), (.ref (A 12)), (.ref (A 13)), (.ref (A 14)), (.ref (A 15)), (.ref (A 16)), (.ref (A 17)), (.ref (A 18)), (.ref (A 19)), (.ref (A 20)), (.ref (A 21)), (.ref (A 22)), (.ref (A 23))] .null := Arv.set Ar74 q74 Sz74 Nn74 Hh74 Gg74 rfl W75 23 (by decide) (by decide : 23 < 24)
  obtain ⟨T76, X76, e76, st76⟩ := getS2 X75 hx hZ hown (host := "") (Or.inl (hw _ (List.mem_of_getElem? (i := 52) rfl))) Via.refl e75 (EN.2.2.2.2.2.2.1.1.ext OL75.2) (g := (mkF m 170 #[.val (.int p1), .val (.int p2), .val (.int p3), .unset, .unset, .unset, .unset, .unset, .unset] [(.int (24 : Int32)), (.ref b3), (.ref b3)])) rfl (hb hby at_170)
  obtain ⟨cl77, Ar77, q77, Sz77, Nn77, Hh77, Gg77⟩ := (id (Arv.pad V75 (pad_rep [(.ref (A 0)), (.ref (A 1)), (.ref (A 2)), (.ref (A 3)), (.ref (A 4)), (.ref (A 5)), (.ref (A 6)), (.ref (A 7)), (.ref (A 8)), (.ref (A 9)), (.ref (A 10)), (.ref (A 11)), (.ref (A 12)), (.ref (A 13)), (.ref (A 14)), (.ref (A 15)), (.ref (A 16)), (.ref (A 17)), (.ref (A 18)), (.ref (A 19)), (.ref (A 20)), (.ref (A 21)), (.ref (A 22)), (.ref (A 23))] .null 1)))
  have hin77 : ¬ ((24 : Int32) < 0 ∨ cl77.slots.size ≤ ((24 : Int32)).toNatClampNeg) := inb_of Sz77 ⟨by decide, by decide⟩
  obtain ⟨T78, h78, X78, e78, W78, st78⟩ := stR X76 hx hZ e76 Ar77 (j := (24 : Int32)) hin77 rfl (Sto.ofV Ar77 q77 O3 (Ins.self (EN.2.2.2.2.2.2.1.2.1.ext OL75.2))) (g := (mkF m 173 #[.val (.int p1), .val (.int p2), .val (.int p3), .unset, .unset, .unset, .unset, .unset, .unset] [(.ref (A 24)), (.int (24 : Int32)), (.ref b3), (.ref b3)])) rfl rfl (hb hby at_173)
  have NF78 := Fr.snoc X78 NF75 gn_b3
  have OL78 : Old Z n0 h78 := OL75.wr W78 gn_b3
  have KK78 : Keep h0 h78 [] := KK75.wr W78 (Or.inr sz_b3)
  have V78 : Arv Z h78 b3 k3 (.object "com/example/tallywire/tallywire/wire/FieldType") (28 : Int32) [(.ref (A 0)), (.ref (A 1)), (.ref (A 2)), (.ref (A 3)), (.ref (A 4)), (.ref (A 5)), (.ref (A 6)), (.ref (A 7)), (.ref (A 8)), (.ref (A 9)), (.ref (A 10)), (.ref (A 11)), (.ref (A 12)), (.ref (A 13)), (.ref (A 14)), (.ref (A 15)), (.ref (A 16)), (.ref (A 17)), (.ref (A 18)), (.ref (A 19)), (.ref (A 20)), (.ref (A 21)), (.ref (A 22)), (.ref (A 23)), (.ref (A 24))] .null := Arv.set Ar77 q77 Sz77 Nn77 Hh77 Gg77 rfl W78 24 (by decide) (by decide : 24 < 25)
  obtain ⟨T79, X79, e79, st79⟩ := getS2 X78 hx hZ hown (host := "") (Or.inl (hw _ (List.mem_of_getElem? (i := 54) rfl))) Via.refl e78 (EN.2.2.2.2.2.2.1.2.2.1.ext OL78.2) (g := (mkF m 177 #[.val (.int p1), .val (.int p2), .val (.int p3), .unset, .unset, .unset, .unset, .unset, .unset] [(.int (25 : Int32)), (.ref b3), (.ref b3)])) rfl (hb hby at_177)
  obtain ⟨cl80, Ar80, q80, Sz80, Nn80, Hh80, Gg80⟩ := (id (Arv.pad V78 (pad_rep [(.ref (A 0)), (.ref (A 1)), (.ref (A 2)), (.ref (A 3)), (.ref (A 4)), (.ref (A 5)), (.ref (A 6)), (.ref (A 7)), (.ref (A 8)), (.ref (A 9)), (.ref (A 10)), (.ref (A 11)), (.ref (A 12)), (.ref (A 13)), (.ref (A 14)), (.ref (A 15)), (.ref (A 16)), (.ref (A 17)), (.ref (A 18)), (.ref (A 19)), (.ref (A 20)), (.ref (A 21)), (.ref (A 22)), (.ref (A 23)), (.ref (A 24))] .null 1)))
  have hin80 : ¬ ((25 : Int32) < 0 ∨ cl80.slots.size ≤ ((25 : Int32)).toNatClampNeg) := inb_of Sz80 ⟨by decide, by decide⟩
  obtain ⟨T81, h81, X81, e81, W81, st81⟩ := stR X79 hx hZ e79 Ar80 (j := (25 : Int32)) hin80 rfl (Sto.ofV Ar80 q80 O3 (Ins.self (EN.2.2.2.2.2.2.1.2.2.2.1.ext OL78.2))) (g := (mkF m 180 #[.val (.int p1), .val (.int p2), .val (.int p3), .unset, .unset, .unset, .unset, .unset, .unset] [(.ref (A 25)), (.int (25 : Int32)), (.ref b3), (.ref b3)])) rfl rfl (hb hby at_180)
  have NF81 := Fr.snoc X81 NF78 gn_b3
  have OL81 : Old Z n0 h81 := OL78.wr W81 gn_b3
  have KK81 : Keep h0 h81 [] := KK78.wr W81 (Or.inr sz_b3)
  have V81 : Arv Z h81 b3 k3 (.object "com/example/tallywire/tallywire/wire/FieldType") (28 : Int32) [(.ref (A 0)), (.ref (A 1)), (.ref (A 2)), (.ref (A 3)), (.ref (A 4)), (.ref (A 5)), (.ref (A 6)), (.ref (A 7)), (.ref (A 8)), (.ref (A 9)), (.ref (A 10)), (.ref (A 11)), (.ref (A 12)), (.ref (A 13)), (.ref (A 14)), (.ref (A 15)), (.ref (A 16)), (.ref (A 17)), (.ref (A 18)), (.ref (A 19)), (.ref (A 20)), (.ref (A 21)), (.ref (A 22)), (.ref (A 23)), (.ref (A 24)), (.ref (A 25))] .null := Arv.set Ar80 q80 Sz80 Nn80 Hh80 Gg80 rfl W81 25 (by decide) (by decide : 25 < 26)
  obtain ⟨T82, X82, e82, st82⟩ := getS2 X81 hx hZ hown (host := "") (Or.inl (hw _ (List.mem_of_getElem? (i := 56) rfl))) Via.refl e81 (EN.2.2.2.2.2.2.1.2.2.2.2.1.ext OL81.2) (g := (mkF m 184 #[.val (.int p1), .val (.int p2), .val (.int p3), .unset, .unset, .unset, .unset, .unset, .unset] [(.int (26 : Int32)), (.ref b3), (.ref b3)])) rfl (hb hby at_184)
  obtain ⟨cl83, Ar83, q83, Sz83, Nn83, Hh83, Gg83⟩ := (id (Arv.pad V81 (pad_rep [(.ref (A 0)), (.ref (A 1)), (.ref (A 2)), (.ref (A 3)), (.ref (A 4)), (.ref (A 5)), (.ref (A 6)), (.ref (A 7)), (.ref (A 8)), (.ref (A 9)), (.ref (A 10)), (.ref (A 11)), (.ref (A 12)), (.ref (A 13)), (.ref (A 14)), (.ref (A 15)), (.ref (A 16)), (.ref (A 17)), (.ref (A 18)), (.ref (A 19)), (.ref (A 20)), (.ref (A 21)), (.ref (A 22)), (.ref (A 23)), (.ref (A 24)), (.ref (A 25))] .null 1)))
  have hin83 : ¬ ((26 : Int32) < 0 ∨ cl83.slots.size ≤ ((26 : Int32)).toNatClampNeg) := inb_of Sz83 ⟨by decide, by decide⟩
  obtain ⟨T84, h84, X84, e84, W84, st84⟩ := stR X82 hx hZ e82 Ar83 (j := (26 : Int32)) hin83 rfl (Sto.ofV Ar83 q83 O3 (Ins.self (EN.2.2.2.2.2.2.1.2.2.2.2.2.1.ext OL81.2))) (g := (mkF m 187 #[.val (.int p1), .val (.int p2), .val (.int p3), .unset, .unset, .unset, .unset, .unset, .unset] [(.ref (A 26)), (.int (26 : Int32)), (.ref b3), (.ref b3)])) rfl rfl (hb hby at_187)
  have NF84 := Fr.snoc X84 NF81 gn_b3
  have OL84 : Old Z n0 h84 := OL81.wr W84 gn_b3
  have KK84 : Keep h0 h84 [] := KK81.wr W84 (Or.inr sz_b3)
  have V84 : Arv Z h84 b3 k3 (.object "com/example/tallywire/tallywire/wire/FieldType") (28 : Int32) [(.ref (A 0)), (.ref (A 1)), (.ref (A 2)), (.ref (A 3)), (.ref (A 4)), (.ref (A 5)), (.ref (A 6)), (.ref (A 7)), (.ref (A 8)), (.ref (A 9)), (.ref (A 10)), (.ref (A 11)), (.ref (A 12)), (.ref (A 13)), (.ref (A 14)), (.ref (A 15)), (.ref (A 16)), (.ref (A 17)), (.ref (A 18)), (.ref (A 19)), (.ref (A 20)), (.ref (A 21)), (.ref (A 22)), (.ref (A 23)), (.ref (A 24)), (.ref (A 25)), (.ref (A 26))] .null := Arv.set Ar83 q83 Sz83 Nn83 Hh83 Gg83 rfl W84 26 (by decide) (by decide : 26 < 27)
  obtain ⟨T85, X85, e85, st85⟩ := getS2 X84 hx hZ hown (host := "") (Or.inl (hw _ (List.mem_of_getElem? (i := 58) rfl))) Via.refl e84 (EN.2.2.2.2.2.2.1.2.2.2.2.2.2.1.ext OL84.2) (g := (mkF m 191 #[.val (.int p1), .val (.int p2), .val (.int p3), .unset, .unset, .unset, .unset, .unset, .unset] [(.int (27 : Int32)), (.ref b3), (.ref b3)])) rfl (hb hby at_191)
  obtain ⟨cl86, Ar86, q86, Sz86, Nn86, Hh86, Gg86⟩ := (id (Arv.pad V84 (pad_rep [(.ref (A 0)), (.ref (A 1)), (.ref (A 2)), (.ref (A 3)), (.ref (A 4)), (.ref (A 5)), (.ref (A 6)), (.ref (A 7)), (.ref (A 8)), (.ref (A 9)), (.ref (A 10)), (.ref (A 11)), (.ref (A 12)), (.ref (A 13)), (.ref (A 14)), (.ref (A 15)), (.ref (A 16)), (.ref (A 17)), (.ref (A 18)), (.ref (A 19)), (.ref (A 20)), (.ref (A 21)), (.ref (A 22)), (.ref (A 23)), (.ref (A 24)), (.ref (A 25)), (.ref (A 26))] .null 1)))
  have hin86 : ¬ ((27 : Int32) < 0 ∨ cl86.slots.size ≤ ((27 : Int32)).toNatClampNeg) := inb_of Sz86 ⟨by decide, by decide⟩
  obtain ⟨T87, h87, X87, e87, W87, st87⟩ := stR X85 hx hZ e85 Ar86 (j := (27 : Int32)) hin86 rfl (Sto.ofV Ar86 q86 O3 (Ins.self (EN.2.2.2.2.2.2.1.2.2.2.2.2.2.2.1.ext OL84.2))) (g := (mkF m 194 #[.val (.int p1), .val (.int p2), .val (.int p3), .unset, .unset, .unset, .unset, .unset, .unset] [(.ref (A 27)), (.int (27 : Int32)), (.ref b3), (.ref b3)])) rfl rfl (hb hby at_194)
  have NF87 := Fr.snoc X87 NF84 gn_b3
  have OL87 : Old Z n0 h87 := OL84.wr W87 gn_b3
  have KK87 : Keep h0 h87 [] := KK84.wr W87 (Or.inr sz_b3)
  have V87 : Arv Z h87 b3 k3 (.object "com/example/tallywire/tallywire/wire/FieldType") (28 : Int32) [(.ref (A 0)), (.ref (A 1)), (.ref (A 2)), (.ref (A 3)), (.ref (A 4)), (.ref (A 5)), (.ref (A 6)), (.ref (A 7)), (.ref (A 8)), (.ref (A 9)), (.ref (A 10)), (.ref (A 11)), (.ref (A 12)), (.ref (A 13)), (.ref (A 14)), (.ref (A 15)), (.ref (A 16)), (.ref (A 17)), (.ref (A 18)), (.ref (A 19)), (.ref (A 20)), (.ref (A 21)), (.ref (A 22)), (.ref (A 23)), (.ref (A 24)), (.ref (A 25)), (.ref (A 26)), (.ref (A 27))] .null := Arv.set Ar86 q86 Sz86 Nn86 Hh86 Gg86 rfl W87 27 (by decide) (by decide : 27 < 28)
  have pre88 : ∀ t, Steps p.tables e below (T87.setTop (mkF m 203 #[.val (.int p1), .val (.int p2), .val (.int p3), .val (.ref b3), .unset, .unset, .unset, .unset, .unset] [(.int ((p1 &&& (2147483647 : Int32)) % (28 : Int32)))])) t → Steps p.tables e below (s₁.setTop (entryFrame m #[(.int p1), (.int p2), (.int p3)] maxLocals)) t := fun t k => pre0 t (by
    show Steps p.tables e below (s₁.setTop (mkF m 0 #[.val (.int p1), .val (.int p2), .val (.int p3), .unset, .unset, .unset, .unset, .unset, .unset] [])) _
    refine XS.bipush X0.here hx rfl (hb hby at_0) ?_
    refine st3 _ ?_
    show Steps p.tables e below (T3.setTop (mkF m 5 #[.val (.int p1), .val (.int p2), .val (.int p3), .unset, .unset, .unset, .unset, .unset, .unset] [(.ref b3)])) _
    refine XS.dup X3.here hx rfl (hb hby at_5) rfl rfl ?_
    refine XS.iconst X3.here hx rfl (hb hby at_6) ?_
    refine st4 _ ?_
    show Steps p.tables e below (T4.setTop (mkF m 10 #[.val (.int p1), .val (.int p2), .val (.int p3), .unset, .unset, .unset, .unset, .unset, .unset] [(.ref (A 0)), (.int (0 : Int32)), (.ref b3), (.ref b3)])) _
    refine st6 _ ?_
    show Steps p.tables e below (T6.setTop (mkF m 11 #[.val (.int p1), .val (.int p2), .val (.int p3), .unset, .unset, .unset, .unset, .unset, .unset] [(.ref b3)])) _
    refine XS.dup X6.here hx rfl (hb hby at_11) rfl rfl ?_
    refine XS.iconst X6.here hx rfl (hb hby at_12) ?_
    refine st7 _ ?_
    show Steps p.tables e below (T7.setTop (mkF m 16 #[.val (.int p1), .val (.int p2), .val (.int p3), .unset, .unset, .unset, .unset, .unset, .unset] [(.ref (A 1)), (.int (1 : Int32)), (.ref b3), (.ref b3)])) _
    refine st9 _ ?_
    show Steps p.tables e below (T9.setTop (mkF m 17 #[.val (.int p1), .val (.int p2), .val (.int p3), .unset, .unset, .unset, .unset, .unset, .unset] [(.ref b3)])) _
    refine XS.dup X9.here hx rfl (hb hby at_17) rfl rfl ?_
    refine XS.iconst X9.here hx rfl (hb hby at_18) ?_
    refine st10 _ ?_
    show Steps p.tables e below (T10.setTop (mkF m 22 #[.val (.int p1), .val (.int p2), .val (.int p3), .unset, .unset, .unset, .unset, .unset, .unset] [(.ref (A 2)), (.int (2 : Int32)), (.ref b3), (.ref b3)])) _
    refine st12 _ ?_
    show Steps p.tables e below (T12.setTop (mkF m 23 #[.val (.int p1), .val (.int p2), .val (.int p3), .unset, .unset, .unset, .unset, .unset, .unset] [(.ref b3)])) _
    refine XS.dup X12.here hx rfl (hb hby at_23) rfl rfl ?_
    refine XS.iconst X12.here hx rfl (hb hby at_24) ?_
    refine st13 _ ?_
    show Steps p.tables e below (T13.setTop (mkF m 28 #[.val (.int p1), .val (.int p2), .val (.int p3), .unset, .unset, .unset, .unset, .unset, .unset] [(.ref (A 3)), (.int (3 : Int32)), (.ref b3), (.ref b3)])) _
    refine st15 _ ?_
    show Steps p.tables e below (T15.setTop (mkF m 29 #[.val (.int p1), .val (.int p2), .val (.int p3), .unset, .unset, .unset, .unset, .unset, .unset] [(.ref b3)])) _
    refine XS.dup X15.here hx rfl (hb hby at_29) rfl rfl ?_
    refine XS.iconst X15.here hx rfl (hb hby at_30) ?_
    refine st16 _ ?_
    show Steps p.tables e below (T16.setTop (mkF m 34 #[.val (.int p1), .val (.int p2), .val (.int p3), .unset, .unset, .unset, .unset, .unset, .unset] [(.ref (A 4)), (.int (4 : Int32)), (.ref b3), (.ref b3)])) _
    refine st18 _ ?_
    show Steps p.tables e below (T18.setTop (mkF m 35 #[.val (.int p1), .val (.int p2), .val (.int p3), .unset, .unset, .unset, .unset, .unset, .unset] [(.ref b3)])) _
    refine XS.dup X18.here hx rfl (hb hby at_35) rfl rfl ?_
    refine XS.iconst X18.here hx rfl (hb hby at_36) ?_
    refine st19 _ ?_
    show Steps p.tables e below (T19.setTop (mkF m 40 #[.val (.int p1), .val (.int p2), .val (.int p3), .unset, .unset, .unset, .unset, .unset, .unset] [(.ref (A 5)), (.int (5 : Int32)), (.ref b3), (.ref b3)])) _
    refine st21 _ ?_
    show Steps p.tables e below (T21.setTop (mkF m 41 #[.val (.int p1), .val (.int p2), .val (.int p3), .unset, .unset, .unset, .unset, .unset, .unset] [(.ref b3)])) _
    refine XS.dup X21.here hx rfl (hb hby at_41) rfl rfl ?_
    refine XS.bipush X21.here hx rfl (hb hby at_42) ?_
    refine st22 _ ?_
    show Steps p.tables e below (T22.setTop (mkF m 47 #[.val (.int p1), .val (.int p2), .val (.int p3), .unset, .unset, .unset, .unset, .unset, .unset] [(.ref (A 6)), (.int (6 : Int32)), (.ref b3), (.ref b3)])) _
    refine st24 _ ?_
    show Steps p.tables e below (T24.setTop (mkF m 48 #[.val (.int p1), .val (.int p2), .val (.int p3), .unset, .unset, .unset, .unset, .unset, .unset] [(.ref b3)])) _
    refine XS.dup X24.here hx rfl (hb hby at_48) rfl rfl ?_
    refine XS.bipush X24.here hx rfl (hb hby at_49) ?_
    refine st25 _ ?_
    show Steps p.tables e below (T25.setTop (mkF m 54 #[.val (.int p1), .val (.int p2), .val (.int p3), .unset, .unset, .unset, .unset, .unset, .unset] [(.ref (A 7)), (.int (7 : Int32)), (.ref b3), (.ref b3)])) _
    refine st27 _ ?_
    show Steps p.tables e below (T27.setTop (mkF m 55 #[.val (.int p1), .val (.int p2), .val (.int p3), .unset, .unset, .unset, .unset, .unset, .unset] [(.ref b3)])) _
    refine XS.dup X27.here hx rfl (hb hby at_55) rfl rfl ?_
    refine XS.bipush X27.here hx rfl (hb hby at_56) ?_
    refine st28 _ ?_
    show Steps p.tables e below (T28.setTop (mkF m 61 #[.val (.int p1), .val (.int p2), .val (.int p3), .unset, .unset, .unset, .unset, .unset, .unset] [(.ref (A 8)), (.int (8 : Int32)), (.ref b3), (.ref b3)])) _
    refine st30 _ ?_
    show Steps p.tables e below (T30.setTop (mkF m 62 #[.val (.int p1), .val (.int p2), .val (.int p3), .unset, .unset, .unset, .unset, .unset, .unset] [(.ref b3)])) _
    refine XS.dup X30.here hx rfl (hb hby at_62) rfl rfl ?_
    refine XS.bipush X30.here hx rfl (hb hby at_63) ?_
    refine st31 _ ?_
    show Steps p.tables e below (T31.setTop (mkF m 68 #[.val (.int p1), .val (.int p2), .val (.int p3), .unset, .unset, .unset, .unset, .unset, .unset] [(.ref (A 9)), (.int (9 : Int32)), (.ref b3), (.ref b3)])) _
    refine st33 _ ?_
    show Steps p.tables e below (T33.setTop (mkF m 69 #[.val (.int p1), .val (.int p2), .val (.int p3), .unset, .unset, .unset, .unset, .unset, .unset] [(.ref b3)])) _
    refine XS.dup X33.here hx rfl (hb hby at_69) rfl rfl ?_
    refine XS.bipush X33.here hx rfl (hb hby at_70) ?_
    refine st34 _ ?_
    show Steps p.tables e below (T34.setTop (mkF m 75 #[.val (.int p1), .val (.int p2), .val (.int p3), .unset, .unset, .unset, .unset, .unset, .unset] [(.ref (A 10)), (.int (10 : Int32)), (.ref b3), (.ref b3)])) _
    refine st36 _ ?_
    show Steps p.tables e below (T36.setTop (mkF m 76 #[.val (.int p1), .val (.int p2), .val (.int p3), .unset, .unset, .unset, .unset, .unset, .unset] [(.ref b3)])) _
    refine XS.dup X36.here hx rfl (hb hby at_76) rfl rfl ?_
    refine XS.bipush X36.here hx rfl (hb hby at_77) ?_
    refine st37 _ ?_
    show Steps p.tables e below (T37.setTop (mkF m 82 #[.val (.int p1), .val (.int p2), .val (.int p3), .unset, .unset, .unset, .unset, .unset, .unset] [(.ref (A 11)), (.int (11 : Int32)), (.ref b3), (.ref b3)])) _
    refine st39 _ ?_
    show Steps p.tables e below (T39.setTop (mkF m 83 #[.val (.int p1), .val (.int p2), .val (.int p3), .unset, .unset, .unset, .unset, .unset, .unset] [(.ref b3)])) _
    refine XS.dup X39.here hx rfl (hb hby at_83) rfl rfl ?_
    refine XS.bipush X39.here hx rfl (hb hby at_84) ?_
    refine st40 _ ?_
    show Steps p.tables e below (T40.setTop (mkF m 89 #[.val (.int p1), .val (.int p2), .val (.int p3), .unset, .unset, .unset, .unset, .unset, .unset] [(.ref (A 12)), (.int (12 : Int32)), (.ref b3), (.ref b3)])) _
    refine st42 _ ?_
    show Steps p.tables e below (T42.setTop (mkF m 90 #[.val (.int p1), .val (.int p2), .val (.int p3), .unset, .unset, .unset, .unset, .unset, .unset] [(.ref b3)])) _
    refine XS.dup X42.here hx rfl (hb hby at_90) rfl rfl ?_
    refine XS.bipush X42.here hx rfl (hb hby at_91) ?_
    refine st43 _ ?_
    show Steps p.tables e below (T43.setTop (mkF m 96 #[.val (.int p1), .val (.int p2), .val (.int p3), .unset, .unset, .unset, .unset, .unset, .unset] [(.ref (A 13)), (.int (13 : Int32)), (.ref b3), (.ref b3)])) _
    refine st45 _ ?_
    show Steps p.tables e below (T45.setTop (mkF m 97 #[.val (.int p1), .val (.int p2), .val (.int p3), .unset, .unset, .unset, .unset, .unset, .unset] [(.ref b3)])) _
    refine XS.dup X45.here hx rfl (hb hby at_97) rfl rfl ?_
    refine XS.bipush X45.here hx rfl (hb hby at_98) ?_
    refine st46 _ ?_
    show Steps p.tables e below (T46.setTop (mkF m 103 #[.val (.int p1), .val (.int p2), .val (.int p3), .unset, .unset, .unset, .unset, .unset, .unset] [(.ref (A 14)), (.int (14 : Int32)), (.ref b3), (.ref b3)])) _
    refine st48 _ ?_
    show Steps p.tables e below (T48.setTop (mkF m 104 #[.val (.int p1), .val (.int p2), .val (.int p3), .unset, .unset, .unset, .unset, .unset, .unset] [(.ref b3)])) _
    refine XS.dup X48.here hx rfl (hb hby at_104) rfl rfl ?_
    refine XS.bipush X48.here hx rfl (hb hby at_105) ?_
    refine st49 _ ?_
    show Steps p.tables e below (T49.setTop (mkF m 110 #[.val (.int p1), .val (.int p2), .val (.int p3), .unset, .unset, .unset, .unset, .unset, .unset] [(.ref (A 15)), (.int (15 : Int32)), (.ref b3), (.ref b3)])) _
    refine st51 _ ?_
    show Steps p.tables e below (T51.setTop (mkF m 111 #[.val (.int p1), .val (.int p2), .val (.int p3), .unset, .unset, .unset, .unset, .unset, .unset] [(.ref b3)])) _
    refine XS.dup X51.here hx rfl (hb hby at_111) rfl rfl ?_
    refine XS.bipush X51.here hx rfl (hb hby at_112) ?_
    refine st52 _ ?_
    show Steps p.tables e below (T52.setTop (mkF m 117 #[.val (.int p1), .val (.int p2), .val (.int p3), .unset, .unset, .unset, .unset, .unset, .unset] [(.ref (A 16)), (.int (16 : Int32)), (.ref b3), (.ref b3)])) _
    refine st54 _ ?_
    show Steps p.tables e below (T54.setTop (mkF m 118 #[.val (.int p1), .val (.int p2), .val (.int p3), .unset, .unset, .unset, .unset, .unset, .unset] [(.ref b3)])) _
    refine XS.dup X54.here hx rfl (hb hby at_118) rfl rfl ?_
    refine XS.bipush X54.here hx rfl (hb hby at_119) ?_
    refine st55 _ ?_
    show Steps p.tables e below (T55.setTop (mkF m 124 #[.val (.int p1), .val (.int p2), .val (.int p3), .unset, .unset, .unset, .unset, .unset, .unset] [(.ref (A 17)), (.int (17 : Int32)), (.ref b3), (.ref b3)])) _
    refine st57 _ ?_
    show Steps p.tables e below (T57.setTop (mkF m 125 #[.val (.int p1), .val (.int p2), .val (.int p3), .unset, .unset, .unset, .unset, .unset, .unset] [(.ref b3)])) _
    refine XS.dup X57.here hx rfl (hb hby at_125) rfl rfl ?_
    refine XS.bipush X57.here hx rfl (hb hby at_126) ?_
    refine st58 _ ?_
    show Steps p.tables e below (T58.setTop (mkF m 131 #[.val (.int p1), .val (.int p2), .val (.int p3), .unset, .unset, .unset, .unset, .unset, .unset] [(.ref (A 18)), (.int (18 : Int32)), (.ref b3), (.ref b3)])) _
    refine st60 _ ?_
    show Steps p.tables e below (T60.setTop (mkF m 132 #[.val (.int p1), .val (.int p2), .val (.int p3), .unset, .unset, .unset, .unset, .unset, .unset] [(.ref b3)])) _
    refine XS.dup X60.here hx rfl (hb hby at_132) rfl rfl ?_
    refine XS.bipush X60.here hx rfl (hb hby at_133) ?_
    refine st61 _ ?_
    show Steps p.tables e below (T61.setTop (mkF m 138 #[.val (.int p1), .val (.int p2), .val (.int p3), .unset, .unset, .unset, .unset, .unset, .unset] [(.ref (A 19)), (.int (19 : Int32)), (.ref b3), (.ref b3)])) _
    refine st63 _ ?_
    show Steps p.tables e below (T63.setTop (mkF m 139 #[.val (.int p1), .val (.int p2), .val (.int p3), .unset, .unset, .unset, .unset, .unset, .unset] [(.ref b3)])) _
    refine XS.dup X63.here hx rfl (hb hby at_139) rfl rfl ?_
    refine XS.bipush X63.here hx rfl (hb hby at_140) ?_
    refine st64 _ ?_
    show Steps p.tables e below (T64.setTop (mkF m 145 #[.val (.int p1), .val (.int p2), .val (.int p3), .unset, .unset, .unset, .unset, .unset, .unset] [(.ref (A 20)), (.int (20 : Int32)), (.ref b3), (.ref b3)])) _
    refine st66 _ ?_
    show Steps p.tables e below (T66.setTop (mkF m 146 #[.val (.int p1), .val (.int p2), .val (.int p3), .unset, .unset, .unset, .unset, .unset, .unset] [(.ref b3)])) _
    refine XS.dup X66.here hx rfl (hb hby at_146) rfl rfl ?_
    refine XS.bipush X66.here hx rfl (hb hby at_147) ?_
    refine st67 _ ?_
    show Steps p.tables e below (T67.setTop (mkF m 152 #[.val (.int p1), .val (.int p2), .val (.int p3), .unset, .unset, .unset, .unset, .unset, .unset] [(.ref (A 21)), (.int (21 : Int32)), (.ref b3), (.ref b3)])) _
    refine st69 _ ?_
    show Steps p.tables e below (T69.setTop (mkF m 153 #[.val (.int p1), .val (.int p2), .val (.int p3), .unset, .unset, .unset, .unset, .unset, .unset] [(.ref b3)])) _
    refine XS.dup X69.here hx rfl (hb hby at_153) rfl rfl ?_
    refine XS.bipush X69.here hx rfl (hb hby at_154) ?_
    refine st70 _ ?_
    show Steps p.tables e below (T70.setTop (mkF m 159 #[.val (.int p1), .val (.int p2), .val (.int p3), .unset, .unset, .unset, .unset, .unset, .unset] [(.ref (A 22)), (.int (22 : Int32)), (.ref b3), (.ref b3)])) _
    refine st72 _ ?_
    show Steps p.tables e below (T72.setTop (mkF m 160 #[.val (.int p1), .val (.int p2), .val (.int p3), .unset, .unset, .unset, .unset, .unset, .unset] [(.ref b3)])) _
    refine XS.dup X72.here hx rfl (hb hby at_160) rfl rfl ?_
    refine XS.bipush X72.here hx rfl (hb hby at_161) ?_
    refine st73 _ ?_
    show Steps p.tables e below (T73.setTop (mkF m 166 #[.val (.int p1), .val (.int p2), .val (.int p3), .unset, .unset, .unset, .unset, .unset, .unset] [(.ref (A 23)), (.int (23 : Int32)), (.ref b3), (.ref b3)])) _
    refine st75 _ ?_
    show Steps p.tables e below (T75.setTop (mkF m 167 #[.val (.int p1), .val (.int p2), .val (.int p3), .unset, .unset, .unset, .unset, .unset, .unset] [(.ref b3)])) _
    refine XS.dup X75.here hx rfl (hb hby at_167) rfl rfl ?_
    refine XS.bipush X75.here hx rfl (hb hby at_168) ?_
    refine st76 _ ?_
    show Steps p.tables e below (T76.setTop (mkF m 173 #[.val (.int p1), .val (.int p2), .val (.int p3), .unset, .unset, .unset, .unset, .unset, .unset] [(.ref (A 24)), (.int (24 : Int32)), (.ref b3), (.ref b3)])) _
    refine st78 _ ?_
    show Steps p.tables e below (T78.setTop (mkF m 174 #[.val (.int p1), .val (.int p2), .val (.int p3), .unset, .unset, .unset, .unset, .unset, .unset] [(.ref b3)])) _
    refine XS.dup X78.here hx rfl (hb hby at_174) rfl rfl ?_
    refine XS.bipush X78.here hx rfl (hb hby at_175) ?_
    refine st79 _ ?_
    show Steps p.tables e below (T79.setTop (mkF m 180 #[.val (.int p1), .val (.int p2), .val (.int p3), .unset, .unset, .unset, .unset, .unset, .unset] [(.ref (A 25)), (.int (25 : Int32)), (.ref b3), (.ref b3)])) _
    refine st81 _ ?_
    show Steps p.tables e below (T81.setTop (mkF m 181 #[.val (.int p1), .val (.int p2), .val (.int p3), .unset, .unset, .unset, .unset, .unset, .unset] [(.ref b3)])) _
    refine XS.dup X81.here hx rfl (hb hby at_181) rfl rfl ?_
    refine XS.bipush X81.here hx rfl (hb hby at_182) ?_
    refine st82 _ ?_
    show Steps p.tables e below (T82.setTop (mkF m 187 #[.val (.int p1), .val (.int p2), .val (.int p3), .unset, .unset, .unset, .unset, .unset, .unset] [(.ref (A 26)), (.int (26 : Int32)), (.ref b3), (.ref b3)])) _
    refine st84 _ ?_
    show Steps p.tables e below (T84.setTop (mkF m 188 #[.val (.int p1), .val (.int p2), .val (.int p3), .unset, .unset, .unset, .unset, .unset, .unset] [(.ref b3)])) _
    refine XS.dup X84.here hx rfl (hb hby at_188) rfl rfl ?_
    refine XS.bipush X84.here hx rfl (hb hby at_189) ?_
    refine st85 _ ?_
    show Steps p.tables e below (T85.setTop (mkF m 194 #[.val (.int p1), .val (.int p2), .val (.int p3), .unset, .unset, .unset, .unset, .unset, .unset] [(.ref (A 27)), (.int (27 : Int32)), (.ref b3), (.ref b3)])) _
    refine st87 _ ?_
    show Steps p.tables e below (T87.setTop (mkF m 195 #[.val (.int p1), .val (.int p2), .val (.int p3), .unset, .unset, .unset, .unset, .unset, .unset] [(.ref b3)])) _
    refine XS.astoreN X87.here hx rfl (hb hby at_195) rfl rfl (l' := #[.val (.int p1), .val (.int p2), .val (.int p3), .val (.ref b3), .unset, .unset, .unset, .unset, .unset]) rfl ?_
    refine XS.iloadN X87.here hx rfl (hb hby at_196) rfl ?_
    refine X87.ldcInt hx hown (mvT hZ (hw _ (List.mem_of_getElem? (i := 60) rfl))) (g := (mkF m 197 #[.val (.int p1), .val (.int p2), .val (.int p3), .val (.ref b3), .unset, .unset, .unset, .unset, .unset] [(.int p1)])) rfl (hb hby at_197) _ ?_
    show Steps p.tables e below (T87.setTop (mkF m 199 #[.val (.int p1), .val (.int p2), .val (.int p3), .val (.ref b3), .unset, .unset, .unset, .unset, .unset] [(.int (2147483647 : Int32)), (.int p1)])) _
    refine XS.iand X87.here hx rfl (hb hby at_199) rfl ?_
    show Steps p.tables e below (T87.setTop (mkF m 200 #[.val (.int p1), .val (.int p2), .val (.int p3), .val (.ref b3), .unset, .unset, .unset, .unset, .unset] [(.int (p1 &&& (2147483647 : Int32)))])) _
    refine XS.bipush X87.here hx rfl (hb hby at_200) ?_
    refine iremM X87 hx rfl (hb hby at_202) rfl (by decide) ?_
    exact k)
  obtain ⟨nn89, hn89, hk89⟩ := own_k p1
  match nn89, hn89, hk89 with
  | 0, _, hk89 =>
    obtain ⟨cl90, Ar90, q90, Sz90, Nn90, Hh90, Gg90⟩ := (id V87)
    have hin90 : ¬ ((0 : Int32) < 0 ∨ cl90.slots.size ≤ ((0 : Int32)).toNatClampNeg) := inb_of Sz90 ⟨by decide, by decide⟩
    have hat90 : cl90.slots[((0 : Int32)).toNatClampNeg]? = some (.ref (A 0)) := Has.at Hh90 hin90 rfl
    obtain ⟨cq94, kq94, q94a, q94b, q94c⟩ := isOf hZ e87 (EN.1.2.1.ext OL87.2)
    obtain ⟨_, _, ⟨T94, L94, k94, n94⟩, -, X94, ⟨Lc94, hQ94, l94, y94, z94⟩, st94⟩ := X87.virtualBack hx (y := own_m0) (z := own_m0) hown (mvT hZ (hw _ (List.mem_of_getElem? (i := 61) rfl))) (mvT hZ (hw _ (List.mem_of_getElem? (i := 62) rfl))) (notFace_of_selects (args := #[]) (mvT hZ (hw _ (List.mem_of_getElem? (i := 64) rfl)))) (mvT hZ (hw _ (List.mem_of_getElem? (i := 64) rfl))) (mvT hZ (hw _ (List.mem_of_getElem? (i := 63) rfl))) (by decide) (backOf (W := 0) (rm1 l Z a0 hw [] h87 n0 p1 p2 p3 A K cs EN OL87) hZ (hw _ (List.mem_of_getElem? (i := 65) rfl)) (hw _ (List.mem_of_getElem? (i := 3) rfl)) (by decide) (by decide)) q94a q94c (g := (mkF m 234 #[.val (.int p1), .val (.int p2), .val (.int p3), .val (.ref b3), .val (.int (0 : Int32)), .val (.ref (A 0)), .val (.int (0 : Int32)), .unset, .unset] [(.ref (A 0))])) rfl (by rw [hml]; rfl) (Steps.refl _) (argsL := []) (rest := []) (lenOf own_pd0 rfl) rfl (by show 2 * 0 + _ ≤ _; exact Nat.le_of_eq rfl) (hb hby at_234) (fun _ _ => ⟨rfl, e87, (by decide : 1 + 0 ≤ _), (by decide : 28 + 0 ≤ _)⟩)
    dsimp only [Pt.U, Pt.locs, Pt.cells, Pt.slots] at X94 l94 y94 z94 st94 hQ94
    replace X94 := own_sub X94 l94 y94 z94
    obtain ⟨rfl, N94q, e94⟩ := hQ94
    have N94 := Fr.app NF87 N94q
    obtain ⟨fs, hr, hrun, hended, hW, hsame⟩ := X94.leave (v := some (.int (1 : Int32))) (fun h => by rw [Bd.returns] at h; cases h)
    refine ⟨_, _, pre88 _ ?_, hrun, hended, _, _, rfl, ?_, ⟨_, rfl⟩, hW, hsame.mono (by decide) (by decide)⟩
    · show Steps p.tables e below (T87.setTop (mkF m 203 #[.val (.int p1), .val (.int p2), .val (.int p3), .val (.ref b3), .unset, .unset, .unset, .unset, .unset] [(.int ((p1 &&& (2147483647 : Int32)) % (28 : Int32)))])) _
      rw [hk89]
      show Steps p.tables e below (T87.setTop (mkF m 203 #[.val (.int p1), .val (.int p2), .val (.int p3), .val (.ref b3), .unset, .unset, .unset, .unset, .unset] [(.int (0 : Int32))])) _
      refine XS.istore X87.here hx rfl (hb hby at_203) rfl (l' := #[.val (.int p1), .val (.int p2), .val (.int p3), .val (.ref b3), .val (.int (0 : Int32)), .unset, .unset, .unset, .unset]) rfl ?_
      refine XS.aloadN X87.here hx rfl (hb hby at_205) rfl rfl ?_
      refine XS.iload X87.here hx rfl (hb hby at_206) rfl ?_
      show Steps p.tables e below (T87.setTop (mkF m 208 #[.val (.int p1), .val (.int p2), .val (.int p3), .val (.ref b3), .val (.int (0 : Int32)), .unset, .unset, .unset, .unset] [(.int (0 : Int32)), (.ref b3)])) _
      refine X87.aaload hx (j := (0 : Int32)) (v := (.ref (A 0))) (by rw [e87]; exact Ar90.1) (State.isArrayOf_alike hZ.alike Ar90.2.1) rfl Ar90.2.2 hin90 hat90 (g := (mkF m 208 #[.val (.int p1), .val (.int p2), .val (.int p3), .val (.ref b3), .val (.int (0 : Int32)), .unset, .unset, .unset, .unset] [(.int (0 : Int32)), (.ref b3)])) rfl rfl (hb hby at_208) _ ?_
      show Steps p.tables e below (T87.setTop (mkF m 209 #[.val (.int p1), .val (.int p2), .val (.int p3), .val (.ref b3), .val (.int (0 : Int32)), .unset, .unset, .unset, .unset] [(.ref (A 0))])) _
      refine XS.astore X87.here hx rfl (hb hby at_209) rfl rfl (l' := #[.val (.int p1), .val (.int p2), .val (.int p3), .val (.ref b3), .val (.int (0 : Int32)), .val (.ref (A 0)), .unset, .unset, .unset]) rfl ?_
      refine XS.iload X87.here hx rfl (hb hby at_211) rfl ?_
      refine XS.bipush X87.here hx rfl (hb hby at_213) ?_
      show Steps p.tables e below (T87.setTop (mkF m 215 #[.val (.int p1), .val (.int p2), .val (.int p3), .val (.ref b3), .val (.int (0 : Int32)), .val (.ref (A 0)), .unset, .unset, .unset] [(.int (13 : Int32)), (.int (0 : Int32))])) _
      refine XS.icmpYes X87.here hx rfl (pc0 := 215) (pc' := 229) rfl (hb hby at_215) rfl (tlt (by decide : (0 : Int32) < (13 : Int32))).1 (by decide) (by decide) ?_
      show Steps p.tables e below (T87.setTop (mkF m 229 #[.val (.int p1), .val (.int p2), .val (.int p3), .val (.ref b3), .val (.int (0 : Int32)), .val (.ref (A 0)), .unset, .unset, .unset] [])) _
      refine XS.iconst X87.here hx rfl (hb hby at_229) ?_
      refine XS.istore X87.here hx rfl (hb hby at_230) rfl (l' := #[.val (.int p1), .val (.int p2), .val (.int p3), .val (.ref b3), .val (.int (0 : Int32)), .val (.ref (A 0)), .val (.int (0 : Int32)), .unset, .unset]) rfl ?_
      refine XS.aload X87.here hx rfl (hb hby at_232) rfl rfl ?_
      show Steps p.tables e below (T87.setTop (mkF m 234 #[.val (.int p1), .val (.int p2), .val (.int p3), .val (.ref b3), .val (.int (0 : Int32)), .val (.ref (A 0)), .val (.int (0 : Int32)), .unset, .unset] [(.ref (A 0))])) _
      refine st94.trans ?_
      show Steps p.tables e below (T94.setTop (mkF m 237 #[.val (.int p1), .val (.int p2), .val (.int p3), .val (.ref b3), .val (.int (0 : Int32)), .val (.ref (A 0)), .val (.int (0 : Int32)), .unset, .unset] [(.int (0 : Int32))])) _
      refine XS.istore X94.here hx rfl (hb hby at_237) rfl (l' := #[.val (.int p1), .val (.int p2), .val (.int p3), .val (.ref b3), .val (.int (0 : Int32)), .val (.ref (A 0)), .val (.int (0 : Int32)), .val (.int (0 : Int32)), .unset]) rfl ?_
      refine XS.iload X94.here hx rfl (hb hby at_239) rfl ?_
      refine XS.iload X94.here hx rfl (hb hby at_241) rfl ?_
      show Steps p.tables e below (T94.setTop (mkF m 243 #[.val (.int p1), .val (.int p2), .val (.int p3), .val (.ref b3), .val (.int (0 : Int32)), .val (.ref (A 0)), .val (.int (0 : Int32)), .val (.int (0 : Int32)), .unset] [(.int (0 : Int32)), (.int (0 : Int32))])) _
      refine XS.icmpYes X94.here hx rfl (pc0 := 243) (pc' := 248) rfl (hb hby at_243) rfl (teq (by decide : (0 : Int32) = (0 : Int32))).1 (by decide) (by decide) ?_
      show Steps p.tables e below (T94.setTop (mkF m 248 #[.val (.int p1), .val (.int p2), .val (.int p3), .val (.ref b3), .val (.int (0 : Int32)), .val (.ref (A 0)), .val (.int (0 : Int32)), .val (.int (0 : Int32)), .unset] [])) _
      refine XS.iload X94.here hx rfl (hb hby at_248) rfl ?_
      refine XS.ifNo X94.here hx rfl (hb hby at_250) rfl ((if0 _ _).trans (teq (by decide : (0 : Int32) = (0 : Int32))).2) ?_
      show Steps p.tables e below (T94.setTop (mkF m 253 #[.val (.int p1), .val (.int p2), .val (.int p3), .val (.ref b3), .val (.int (0 : Int32)), .val (.ref (A 0)), .val (.int (0 : Int32)), .val (.int (0 : Int32)), .unset] [])) _
      refine XS.iconst X94.here hx rfl (hb hby at_253) ?_
      exact retN X94 hx (t := .boolean) Bd.returns (by simp) (hb hby at_254) hr
    · show LQ n0 _ T94.heap _
      exact ⟨rfl, N94, trivial⟩
  | 1, _, hk89 =>
    obtain ⟨cl95, Ar95, q95, Sz95, Nn95, Hh95, Gg95⟩ := (id V87)
    have hin95 : ¬ ((1 : Int32) < 0 ∨ cl95.slots.size ≤ ((1 : Int32)).toNatClampNeg) := inb_of Sz95 ⟨by decide, by decide⟩
    have hat95 : cl95.slots[((1 : Int32)).toNatClampNeg]? = some (.ref (A 1)) := Has.at Hh95 hin95 rfl
    obtain ⟨cq99, kq99, q99a, q99b, q99c⟩ := isOf hZ e87 (EN.1.2.2.2.1.ext OL87.2)
    obtain ⟨_, _, ⟨T99, L99, k99, n99⟩, -, X99, ⟨Lc99, hQ99, l99, y99, z99⟩, st99⟩ := X87.virtualBack hx (y := own_m0) (z := own_m0) hown (mvT hZ (hw _ (List.mem_of_getElem? (i := 61) rfl))) (mvT hZ (hw _ (List.mem_of_getElem? (i := 62) rfl))) (notFace_of_selects (args := #[]) (mvT hZ (hw _ (List.mem_of_getElem? (i := 64) rfl)))) (mvT hZ (hw _ (List.mem_of_getElem? (i := 64) rfl))) (mvT hZ (hw _ (List.mem_of_getElem? (i := 63) rfl))) (by decide) (backOf (W := 0) (rm2 l Z a0 hw [] h87 n0 p1 p2 p3 A K cs EN OL87) hZ (hw _ (List.mem_of_getElem? (i := 65) rfl)) (hw _ (List.mem_of_getElem? (i := 3) rfl)) (by decide) (by decide)) q99a q99c (g := (mkF m 234 #[.val (.int p1), .val (.int p2), .val (.int p3), .val (.ref b3), .val (.int (1 : Int32)), .val (.ref (A 1)), .val (.int (0 : Int32)), .unset, .unset] [(.ref (A 1))])) rfl (by rw [hml]; rfl) (Steps.refl _) (argsL := []) (rest := []) (lenOf own_pd0 rfl) rfl (by show 2 * 0 + _ ≤ _; exact Nat.le_of_eq rfl) (hb hby at_234) (fun _ _ => ⟨rfl, e87, (by decide : 1 + 0 ≤ _), (by decide : 28 + 0 ≤ _)⟩)
    dsimp only [Pt.U, Pt.locs, Pt.cells, Pt.slots] at X99 l99 y99 z99 st99 hQ99
    replace X99 := own_sub X99 l99 y99 z99
    obtain ⟨rfl, N99q, e99⟩ := hQ99
    have N99 := Fr.app NF87 N99q
    obtain ⟨fs, hr, hrun, hended, hW, hsame⟩ := X99.leave (v := some (.int (1 : Int32))) (fun h => by rw [Bd.returns] at h; cases h)
    refine ⟨_, _, pre88 _ ?_, hrun, hended, _, _, rfl, ?_, ⟨_, rfl⟩, hW, hsame.mono (by decide) (by decide)⟩
    · show Steps p.tables e below (T87.setTop (mkF m 203 #[.val (.int p1), .val (.int p2), .val (.int p3), .val (.ref b3), .unset, .unset, .unset, .unset, .unset] [(.int ((p1 &&& (2147483647 : Int32)) % (28 : Int32)))])) _
      rw [hk89]
      show Steps p.tables e below (T87.setTop (mkF m 203 #[.val (.int p1), .val (.int p2), .val (.int p3), .val (.ref b3), .unset, .unset, .unset, .unset, .unset] [(.int (1 : Int32))])) _
      refine XS.istore X87.here hx rfl (hb hby at_203) rfl (l' := #[.val (.int p1), .val (.int p2), .val (.int p3), .val (.ref b3), .val (.int (1 : Int32)), .unset, .unset, .unset, .unset]) rfl ?_
      refine XS.aloadN X87.here hx rfl (hb hby at_205) rfl rfl ?_
      refine XS.iload X87.here hx rfl (hb hby at_206) rfl ?_
      show Steps p.tables e below (T87.setTop (mkF m 208 #[.val (.int p1), .val (.int p2), .val (.int p3), .val (.ref b3), .val (.int (1 : Int32)), .unset, .unset, .unset, .unset] [(.int (1 : Int32)), (.ref b3)])) _
      refine X87.aaload hx (j := (1 : Int32)) (v := (.ref (A 1))) (by rw [e87]; exact Ar95.1) (State.isArrayOf_alike hZ.alike Ar95.2.1) rfl Ar95.2.2 hin95 hat95 (g := (mkF m 208 #[.val (.int p1), .val (.int p2), .val (.int p3), .val (.ref b3), .val (.int (1 : Int32)), .unset, .unset, .unset, .unset] [(.int (1 : Int32)), (.ref b3)])) rfl rfl (hb hby at_208) _ ?_
      show Steps p.tables e below (T87.setTop (mkF m 209 #[.val (.int p1), .val (.int p2), .val (.int p3), .val (.ref b3), .val (.int (1 : Int32)), .unset, .unset, .unset, .unset] [(.ref (A 1))])) _
      refine XS.astore X87.here hx rfl (hb hby at_209) rfl rfl (l' := #[.val (.int p1), .val (.int p2), .val (.int p3), .val (.ref b3), .val (.int (1 : Int32)), .val (.ref (A 1)), .unset, .unset, .unset]) rfl ?_
      refine XS.iload X87.here hx rfl (hb hby at_211) rfl ?_
      refine XS.bipush X87.here hx rfl (hb hby at_213) ?_
      show Steps p.tables e below (T87.setTop (mkF m 215 #[.val (.int p1), .val (.int p2), .val (.int p3), .val (.ref b3), .val (.int (1 : Int32)), .val (.ref (A 1)), .unset, .unset, .unset] [(.int (13 : Int32)), (.int (1 : Int32))])) _
      refine XS.icmpYes X87.here hx rfl (pc0 := 215) (pc' := 229) rfl (hb hby at_215) rfl (tlt (by decide : (1 : Int32) < (13 : Int32))).1 (by decide) (by decide) ?_
      show Steps p.tables e below (T87.setTop (mkF m 229 #[.val (.int p1), .val (.int p2), .val (.int p3), .val (.ref b3), .val (.int (1 : Int32)), .val (.ref (A 1)), .unset, .unset, .unset] [])) _
      refine XS.iconst X87.here hx rfl (hb hby at_229) ?_
      refine XS.istore X87.here hx rfl (hb hby at_230) rfl (l' := #[.val (.int p1), .val (.int p2), .val (.int p3), .val (.ref b3), .val (.int (1 : Int32)), .val (.ref (A 1)), .val (.int (0 : Int32)), .unset, .unset]) rfl ?_
      refine XS.aload X87.here hx rfl (hb hby at_232) rfl rfl ?_
      show Steps p.tables e below (T87.setTop (mkF m 234 #[.val (.int p1), .val (.int p2), .val (.int p3), .val (.ref b3), .val (.int (1 : Int32)), .val (.ref (A 1)), .val (.int (0 : Int32)), .unset, .unset] [(.ref (A 1))])) _
      refine st99.trans ?_
      show Steps p.tables e below (T99.setTop (mkF m 237 #[.val (.int p1), .val (.int p2), .val (.int p3), .val (.ref b3), .val (.int (1 : Int32)), .val (.ref (A 1)), .val (.int (0 : Int32)), .unset, .unset] [(.int (0 : Int32))])) _
      refine XS.istore X99.here hx rfl (hb hby at_237) rfl (l' := #[.val (.int p1), .val (.int p2), .val (.int p3), .val (.ref b3), .val (.int (1 : Int32)), .val (.ref (A 1)), .val (.int (0 : Int32)), .val (.int (0 : Int32)), .unset]) rfl ?_
      refine XS.iload X99.here hx rfl (hb hby at_239) rfl ?_
      refine XS.iload X99.here hx rfl (hb hby at_241) rfl ?_
      show Steps p.tables e below (T99.setTop (mkF m 243 #[.val (.int p1), .val (.int p2), .val (.int p3), .val (.ref b3), .val (.int (1 : Int32)), .val (.ref (A 1)), .val (.int (0 : Int32)), .val (.int (0 : Int32)), .unset] [(.int (0 : Int32)), (.int (0 : Int32))])) _
      refine XS.icmpYes X99.here hx rfl (pc0 := 243) (pc' := 248) rfl (hb hby at_243) rfl (teq (by decide : (0 : Int32) = (0 : Int32))).1 (by decide) (by decide) ?_
      show Steps p.tables e below (T99.setTop (mkF m 248 #[.val (.int p1), .val (.int p2), .val (.int p3), .val (.ref b3), .val (.int (1 : Int32)), .val (.ref (A 1)), .val (.int (0 : Int32)), .val (.int (0 : Int32)), .unset] [])) _
      refine XS.iload X99.here hx rfl (hb hby at_248) rfl ?_
      refine XS.ifNo X99.here hx rfl (hb hby at_250) rfl ((if0 _ _).trans (teq (by decide : (0 : Int32) = (0 : Int32))).2) ?_
      show Steps p.tables e below (T99.setTop (mkF m 253 #[.val (.int p1), .val (.int p2), .val (.int p3), .val (.ref b3), .val (.int (1 : Int32)), .val (.ref (A 1)), .val (.int (0 : Int32)), .val (.int (0 : Int32)), .unset] [])) _
      refine XS.iconst X99.here hx rfl (hb hby at_253) ?_
      exact retN X99 hx (t := .boolean) Bd.returns (by simp) (hb hby at_254) hr
    · show LQ n0 _ T99.heap _
      exact ⟨rfl, N99, trivial⟩
  | 2, _, hk89 =>
    obtain ⟨cl100, Ar100, q100, Sz100, Nn100, Hh100, Gg100⟩ := (id V87)
    have hin100 : ¬ ((2 : Int32) < 0 ∨ cl100.slots.size ≤ ((2 : Int32)).toNatClampNeg) := inb_of Sz100 ⟨by decide, by decide⟩
    have hat100 : cl100.slots[((2 : Int32)).toNatClampNeg]? = some (.ref (A 2)) := Has.at Hh100 hin100 rfl
    obtain ⟨cq104, kq104, q104a, q104b, q104c⟩ := isOf hZ e87 (EN.1.2.2.2.2.2.1.ext OL87.2)
    obtain ⟨_, _, ⟨T104, L104, k104, n104⟩, -, X104, ⟨Lc104, hQ104, l104, y104, z104⟩, st104⟩ := X87.virtualBack hx (y := own_m0) (z := own_m0) hown (mvT hZ (hw _ (List.mem_of_getElem? (i := 61) rfl))) (mvT hZ (hw _ (List.mem_of_getElem? (i := 62) rfl))) (notFace_of_selects (args := #[]) (mvT hZ (hw _ (List.mem_of_getElem? (i := 64) rfl)))) (mvT hZ (hw _ (List.mem_of_getElem? (i := 64) rfl))) (mvT hZ (hw _ (List.mem_of_getElem? (i := 63) rfl))) (by decide) (backOf (W := 0) (rm3 l Z a0 hw [] h87 n0 p1 p2 p3 A K cs EN OL87) hZ (hw _ (List.mem_of_getElem? (i := 65) rfl)) (hw _ (List.mem_of_getElem? (i := 3) rfl)) (by decide) (by decide)) q104a q104c (g := (mkF m 234 #[.val (.int p1), .val (.int p2), .val (.int p3), .val (.ref b3), .val (.int (2 : Int32)), .val (.ref (A 2)), .val (.int (0 : Int32)), .unset, .unset] [(.ref (A 2))])) rfl (by rw [hml]; rfl) (Steps.refl _) (argsL := []) (rest := []) (lenOf own_pd0 rfl) rfl (by show 2 * 0 + _ ≤ _; exact Nat.le_of_eq rfl) (hb hby at_234) (fun _ _ => ⟨rfl, e87, (by decide : 1 + 0 ≤ _), (by decide : 28 + 0 ≤ _)⟩)
    dsimp only [Pt.U, Pt.locs, Pt.cells, Pt.slots] at X104 l104 y104 z104 st104 hQ104
    replace X104 := own_sub X104 l104 y104 z104
    obtain ⟨rfl, N104q, e104⟩ := hQ104
    have N104 := Fr.app NF87 N104q
    obtain ⟨fs, hr, hrun, hended, hW, hsame⟩ := X104.leave (v := some (.int (1 : Int32))) (fun h => by rw [Bd.returns] at h; cases h)
    refine ⟨_, _, pre88 _ ?_, hrun, hended, _, _, rfl, ?_, ⟨_, rfl⟩, hW, hsame.mono (by decide) (by decide)⟩
    · show Steps p.tables e below (T87.setTop (mkF m 203 #[.val (.int p1), .val (.int p2), .val (.int p3), .val (.ref b3), .unset, .unset, .unset, .unset, .unset] [(.int ((p1 &&& (2147483647 : Int32)) % (28 : Int32)))])) _
      rw [hk89]
      show Steps p.tables e below (T87.setTop (mkF m 203 #[.val (.int p1), .val (.int p2), .val (.int p3), .val (.ref b3), .unset, .unset, .unset, .unset, .unset] [(.int (2 : Int32))])) _
      refine XS.istore X87.here hx rfl (hb hby at_203) rfl (l' := #[.val (.int p1), .val (.int p2), .val (.int p3), .val (.ref b3), .val (.int (2 : Int32)), .unset, .unset, .unset, .unset]) rfl ?_
      refine XS.aloadN X87.here hx rfl (hb hby at_205) rfl rfl ?_
      refine XS.iload X87.here hx rfl (hb hby at_206) rfl ?_
      show Steps p.tables e below (T87.setTop (mkF m 208 #[.val (.int p1), .val (.int p2), .val (.int p3), .val (.ref b3), .val (.int (2 : Int32)), .unset, .unset, .unset, .unset] [(.int (2 : Int32)), (.ref b3)])) _
      refine X87.aaload hx (j := (2 : Int32)) (v := (.ref (A 2))) (by rw [e87]; exact Ar100.1) (State.isArrayOf_alike hZ.alike Ar100.2.1) rfl Ar100.2.2 hin100 hat100 (g := (mkF m 208 #[.val (.int p1), .val (.int p2), .val (.int p3), .val (.ref b3), .val (.int (2 : Int32)), .unset, .unset, .unset, .unset] [(.int (2 : Int32)), (.ref b3)])) rfl rfl (hb hby at_208) _ ?_
      show Steps p.tables e below (T87.setTop (mkF m 209 #[.val (.int p1), .val (.int p2), .val (.int p3), .val (.ref b3), .val (.int (2 : Int32)), .unset, .unset, .unset, .unset] [(.ref (A 2))])) _
      refine XS.astore X87.here hx rfl (hb hby at_209) rfl rfl (l' := #[.val (.int p1), .val (.int p2), .val (.int p3), .val (.ref b3), .val (.int (2 : Int32)), .val (.ref (A 2)), .unset, .unset, .unset]) rfl ?_
      refine XS.iload X87.here hx rfl (hb hby at_211) rfl ?_
      refine XS.bipush X87.here hx rfl (hb hby at_213) ?_
      show Steps p.tables e below (T87.setTop (mkF m 215 #[.val (.int p1), .val (.int p2), .val (.int p3), .val (.ref b3), .val (.int (2 : Int32)), .val (.ref (A 2)), .unset, .unset, .unset] [(.int (13 : Int32)), (.int (2 : Int32))])) _
      refine XS.icmpYes X87.here hx rfl (pc0 := 215) (pc' := 229) rfl (hb hby at_215) rfl (tlt (by decide : (2 : Int32) < (13 : Int32))).1 (by decide) (by decide) ?_
      show Steps p.tables e below (T87.setTop (mkF m 229 #[.val (.int p1), .val (.int p2), .val (.int p3), .val (.ref b3), .val (.int (2 : Int32)), .val (.ref (A 2)), .unset, .unset, .unset] [])) _
      refine XS.iconst X87.here hx rfl (hb hby at_229) ?_
      refine XS.istore X87.here hx rfl (hb hby at_230) rfl (l' := #[.val (.int p1), .val (.int p2), .val (.int p3), .val (.ref b3), .val (.int (2 : Int32)), .val (.ref (A 2)), .val (.int (0 : Int32)), .unset, .unset]) rfl ?_
      refine XS.aload X87.here hx rfl (hb hby at_232) rfl rfl ?_
      show Steps p.tables e below (T87.setTop (mkF m 234 #[.val (.int p1), .val (.int p2), .val (.int p3), .val (.ref b3), .val (.int (2 : Int32)), .val (.ref (A 2)), .val (.int (0 : Int32)), .unset, .unset] [(.ref (A 2))])) _
      refine st104.trans ?_
      show Steps p.tables e below (T104.setTop (mkF m 237 #[.val (.int p1), .val (.int p2), .val (.int p3), .val (.ref b3), .val (.int (2 : Int32)), .val (.ref (A 2)), .val (.int (0 : Int32)), .unset, .unset] [(.int (0 : Int32))])) _
      refine XS.istore X104.here hx rfl (hb hby at_237) rfl (l' := #[.val (.int p1), .val (.int p2), .val (.int p3), .val (.ref b3), .val (.int (2 : Int32)), .val (.ref (A 2)), .val (.int (0 : Int32)), .val (.int (0 : Int32)), .unset]) rfl ?_
      refine XS.iload X104.here hx rfl (hb hby at_239) rfl ?_
      refine XS.iload X104.here hx rfl (hb hby at_241) rfl ?_
      show Steps p.tables e below (T104.setTop (mkF m 243 #[.val (.int p1), .val (.int p2), .val (.int p3), .val (.ref b3), .val (.int (2 : Int32)), .val (.ref (A 2)), .val (.int (0 : Int32)), .val (.int (0 : Int32)), .unset] [(.int (0 : Int32)), (.int (0 : Int32))])) _
      refine XS.icmpYes X104.here hx rfl (pc0 := 243) (pc' := 248) rfl (hb hby at_243) rfl (teq (by decide : (0 : Int32) = (0 : Int32))).1 (by decide) (by decide) ?_
      show Steps p.tables e below (T104.setTop (mkF m 248 #[.val (.int p1), .val (.int p2), .val (.int p3), .val (.ref b3), .val (.int (2 : Int32)), .val (.ref (A 2)), .val (.int (0 : Int32)), .val (.int (0 : Int32)), .unset] [])) _
      refine XS.iload X104.here hx rfl (hb hby at_248) rfl ?_
      refine XS.ifNo X104.here hx rfl (hb hby at_250) rfl ((if0 _ _).trans (teq (by decide : (0 : Int32) = (0 : Int32))).2) ?_
      show Steps p.tables e below (T104.setTop (mkF m 253 #[.val (.int p1), .val (.int p2), .val (.int p3), .val (.ref b3), .val (.int (2 : Int32)), .val (.ref (A 2)), .val (.int (0 : Int32)), .val (.int (0 : Int32)), .unset] [])) _
      refine XS.iconst X104.here hx rfl (hb hby at_253) ?_
      exact retN X104 hx (t := .boolean) Bd.returns (by simp) (hb hby at_254) hr
    · show LQ n0 _ T104.heap _
      exact ⟨rfl, N104, trivial⟩
  | 3, _, hk89 =>
    obtain ⟨cl105, Ar105, q105, Sz105, Nn105, Hh105, Gg105⟩ := (id V87)
    have hin105 : ¬ ((3 : Int32) < 0 ∨ cl105.slots.size ≤ ((3 : Int32)).toNatClampNeg) := inb_of Sz105 ⟨by decide, by decide⟩
    have hat105 : cl105.slots[((3 : Int32)).toNatClampNeg]? = some (.ref (A 3)) := Has.at Hh105 hin105 rfl
    obtain ⟨cq109, kq109, q109a, q109b, q109c⟩ := isOf hZ e87 (EN.1.2.2.2.2.2.2.2.1.ext OL87.2)
    obtain ⟨_, _, ⟨T109, L109, k109, n109⟩, -, X109, ⟨Lc109, hQ109, l109, y109, z109⟩, st109⟩ := X87.virtualBack hx (y := own_m0) (z := own_m0) hown (mvT hZ (hw _ (List.mem_of_getElem? (i := 61) rfl))) (mvT hZ (hw _ (List.mem_of_getElem? (i := 62) rfl))) (notFace_of_selects (args := #[]) (mvT hZ (hw _ (List.mem_of_getElem? (i := 64) rfl)))) (mvT hZ (hw _ (List.mem_of_getElem? (i := 64) rfl))) (mvT hZ (hw _ (List.mem_of_getElem? (i := 63) rfl))) (by decide) (backOf (W := 0) (rm4 l Z a0 hw [] h87 n0 p1 p2 p3 A K cs EN OL87) hZ (hw _ (List.mem_of_getElem? (i := 65) rfl)) (hw _ (List.mem_of_getElem? (i := 3) rfl)) (by decide) (by decide)) q109a q109c (g := (mkF m 234 #[.val (.int p1), .val (.int p2), .val (.int p3), .val (.ref b3), .val (.int (3 : Int32)), .val (.ref (A 3)), .val (.int (0 : Int32)), .unset, .unset] [(.ref (A 3))])) rfl (by rw [hml]; rfl) (Steps.refl _) (argsL := []) (rest := []) (lenOf own_pd0 rfl) rfl (by show 2 * 0 + _ ≤ _; exact Nat.le_of_eq rfl) (hb hby at_234) (fun _ _ => ⟨rfl, e87, (by decide : 1 + 0 ≤ _), (by decide : 28 + 0 ≤ _)⟩)
    dsimp only [Pt.U, Pt.locs, Pt.cells, Pt.slots] at X109 l109 y109 z109 st109 hQ109
    replace X109 := own_sub X109 l109 y109 z109
    obtain ⟨rfl, N109q, e109⟩ := hQ109
    have N109 := Fr.app NF87 N109q
    obtain ⟨fs, hr, hrun, hended, hW, hsame⟩ := X109.leave (v := some (.int (1 : Int32))) (fun h => by rw [Bd.returns] at h; cases h)
    refine ⟨_, _, pre88 _ ?_, hrun, hended, _, _, rfl, ?_, ⟨_, rfl⟩, hW, hsame.mono (by decide) (by decide)⟩
    · show Steps p.tables e below (T87.setTop (mkF m 203 #[.val (.int p1), .val (.int p2), .val (.int p3), .val (.ref b3), .unset, .unset, .unset, .unset, .unset] [(.int ((p1 &&& (2147483647 : Int32)) % (28 : Int32)))])) _
      rw [hk89]
      show Steps p.tables e below (T87.setTop (mkF m 203 #[.val (.int p1), .val (.int p2), .val (.int p3), .val (.ref b3), .unset, .unset, .unset, .unset, .unset] [(.int (3 : Int32))])) _
      refine XS.istore X87.here hx rfl (hb hby at_203) rfl (l' := #[.val (.int p1), .val (.int p2), .val (.int p3), .val (.ref b3), .val (.int (3 : Int32)), .unset, .unset, .unset, .unset]) rfl ?_
      refine XS.aloadN X87.here hx rfl (hb hby at_205) rfl rfl ?_
      refine XS.iload X87.here hx rfl (hb hby at_206) rfl ?_
      show Steps p.tables e below (T87.setTop (mkF m 208 #[.val (.int p1), .val (.int p2), .val (.int p3), .val (.ref b3), .val (.int (3 : Int32)), .unset, .unset, .unset, .unset] [(.int (3 : Int32)), (.ref b3)])) _
      refine X87.aaload hx (j := (3 : Int32)) (v := (.ref (A 3))) (by rw [e87]; exact Ar105.1) (State.isArrayOf_alike hZ.alike Ar105.2.1) rfl Ar105.2.2 hin105 hat105 (g := (mkF m 208 #[.val (.int p1), .val (.int p2), .val (.int p3), .val (.ref b3), .val (.int (3 : Int32)), .unset, .unset, .unset, .unset] [(.int (3 : Int32)), (.ref b3)])) rfl rfl (hb hby at_208) _ ?_
      show Steps p.tables e below (T87.setTop (mkF m 209 #[.val (.int p1), .val (.int p2), .val (.int p3), .val (.ref b3), .val (.int (3 : Int32)), .unset, .unset, .unset, .unset] [(.ref (A 3))])) _
      refine XS.astore X87.here hx rfl (hb hby at_209) rfl rfl (l' := #[.val (.int p1), .val (.int p2), .val (.int p3), .val (.ref b3), .val (.int (3 : Int32)), .val (.ref (A 3)), .unset, .unset, .unset]) rfl ?_
      refine XS.iload X87.here hx rfl (hb hby at_211) rfl ?_
      refine XS.bipush X87.here hx rfl (hb hby at_213) ?_
      show Steps p.tables e below (T87.setTop (mkF m 215 #[.val (.int p1), .val (.int p2), .val (.int p3), .val (.ref b3), .val (.int (3 : Int32)), .val (.ref (A 3)), .unset, .unset, .unset] [(.int (13 : Int32)), (.int (3 : Int32))])) _
      refine XS.icmpYes X87.here hx rfl (pc0 := 215) (pc' := 229) rfl (hb hby at_215) rfl (tlt (by decide : (3 : Int32) < (13 : Int32))).1 (by decide) (by decide) ?_
      show Steps p.tables e below (T87.setTop (mkF m 229 #[.val (.int p1), .val (.int p2), .val (.int p3), .val (.ref b3), .val (.int (3 : Int32)), .val (.ref (A 3)), .unset, .unset, .unset] [])) _
      refine XS.iconst X87.here hx rfl (hb hby at_229) ?_
      refine XS.istore X87.here hx rfl (hb hby at_230) rfl (l' := #[.val (.int p1), .val (.int p2), .val (.int p3), .val (.ref b3), .val (.int (3 : Int32)), .val (.ref (A 3)), .val (.int (0 : Int32)), .unset, .unset]) rfl ?_
      refine XS.aload X87.here hx rfl (hb hby at_232) rfl rfl ?_
      show Steps p.tables e below (T87.setTop (mkF m 234 #[.val (.int p1), .val (.int p2), .val (.int p3), .val (.ref b3), .val (.int (3 : Int32)), .val (.ref (A 3)), .val (.int (0 : Int32)), .unset, .unset] [(.ref (A 3))])) _
      refine st109.trans ?_
      show Steps p.tables e below (T109.setTop (mkF m 237 #[.val (.int p1), .val (.int p2), .val (.int p3), .val (.ref b3), .val (.int (3 : Int32)), .val (.ref (A 3)), .val (.int (0 : Int32)), .unset, .unset] [(.int (0 : Int32))])) _
      refine XS.istore X109.here hx rfl (hb hby at_237) rfl (l' := #[.val (.int p1), .val (.int p2), .val (.int p3), .val (.ref b3), .val (.int (3 : Int32)), .val (.ref (A 3)), .val (.int (0 : Int32)), .val (.int (0 : Int32)), .unset]) rfl ?_
      refine XS.iload X109.here hx rfl (hb hby at_239) rfl ?_
      refine XS.iload X109.here hx rfl (hb hby at_241) rfl ?_
      show Steps p.tables e below (T109.setTop (mkF m 243 #[.val (.int p1), .val (.int p2), .val (.int p3), .val (.ref b3), .val (.int (3 : Int32)), .val (.ref (A 3)), .val (.int (0 : Int32)), .val (.int (0 : Int32)), .unset] [(.int (0 : Int32)), (.int (0 : Int32))])) _
      refine XS.icmpYes X109.here hx rfl (pc0 := 243) (pc' := 248) rfl (hb hby at_243) rfl (teq (by decide : (0 : Int32) = (0 : Int32))).1 (by decide) (by decide) ?_
      show Steps p.tables e below (T109.setTop (mkF m 248 #[.val (.int p1), .val (.int p2), .val (.int p3), .val (.ref b3), .val (.int (3 : Int32)), .val (.ref (A 3)), .val (.int (0 : Int32)), .val (.int (0 : Int32)), .unset] [])) _
      refine XS.iload X109.here hx rfl (hb hby at_248) rfl ?_
      refine XS.ifNo X109.here hx rfl (hb hby at_250) rfl ((if0 _ _).trans (teq (by decide : (0 : Int32) = (0 : Int32))).2) ?_
      show Steps p.tables e below (T109.setTop (mkF m 253 #[.val (.int p1), .val (.int p2), .val (.int p3), .val (.ref b3), .val (.int (3 : Int32)), .val (.ref (A 3)), .val (.int (0 : Int32)), .val (.int (0 : Int32)), .unset] [])) _
      refine XS.iconst X109.here hx rfl (hb hby at_253) ?_
      exact retN X109 hx (t := .boolean) Bd.returns (by simp) (hb hby at_254) hr
    · show LQ n0 _ T109.heap _
      exact ⟨rfl, N109, trivial⟩
  | 4, _, hk89 =>
    obtain ⟨cl110, Ar110, q110, Sz110, Nn110, Hh110, Gg110⟩ := (id V87)
    have hin110 : ¬ ((4 : Int32) < 0 ∨ cl110.slots.size ≤ ((4 : Int32)).toNatClampNeg) := inb_of Sz110 ⟨by decide, by decide⟩
    have hat110 : cl110.slots[((4 : Int32)).toNatClampNeg]? = some (.ref (A 4)) := Has.at Hh110 hin110 rfl
    obtain ⟨cq114, kq114, q114a, q114b, q114c⟩ := isOf hZ e87 (EN.2.1.2.1.ext OL87.2)
    obtain ⟨_, _, ⟨T114, L114, k114, n114⟩, -, X114, ⟨Lc114, hQ114, l114, y114, z114⟩, st114⟩ := X87.virtualBack hx (y := own_m0) (z := own_m0) hown (mvT hZ (hw _ (List.mem_of_getElem? (i := 61) rfl))) (mvT hZ (hw _ (List.mem_of_getElem? (i := 62) rfl))) (notFace_of_selects (args := #[]) (mvT hZ (hw _ (List.mem_of_getElem? (i := 64) rfl)))) (mvT hZ (hw _ (List.mem_of_getElem? (i := 64) rfl))) (mvT hZ (hw _ (List.mem_of_getElem? (i := 63) rfl))) (by decide) (backOf (W := 0) (rm5 l Z a0 hw [] h87 n0 p1 p2 p3 A K cs EN OL87) hZ (hw _ (List.mem_of_getElem? (i := 65) rfl)) (hw _ (List.mem_of_getElem? (i := 3) rfl)) (by decide) (by decide)) q114a q114c (g := (mkF m 234 #[.val (.int p1), .val (.int p2), .val (.int p3), .val (.ref b3), .val (.int (4 : Int32)), .val (.ref (A 4)), .val (.int (0 : Int32)), .unset, .unset] [(.ref (A 4))])) rfl (by rw [hml]; rfl) (Steps.refl _) (argsL := []) (rest := []) (lenOf own_pd0 rfl) rfl (by show 2 * 0 + _ ≤ _; exact Nat.le_of_eq rfl) (hb hby at_234) (fun _ _ => ⟨rfl, e87, (by decide : 1 + 0 ≤ _), (by decide : 28 + 0 ≤ _)⟩)
    dsimp only [Pt.U, Pt.locs, Pt.cells, Pt.slots] at X114 l114 y114 z114 st114 hQ114
    replace X114 := own_sub X114 l114 y114 z114
    obtain ⟨rfl, N114q, e114⟩ := hQ114
    have N114 := Fr.app NF87 N114q
    obtain ⟨fs, hr, hrun, hended, hW, hsame⟩ := X114.leave (v := some (.int (1 : Int32))) (fun h => by rw [Bd.returns] at h; cases h)
    refine ⟨_, _, pre88 _ ?_, hrun, hended, _, _, rfl, ?_, ⟨_, rfl⟩, hW, hsame.mono (by decide) (by decide)⟩
    · show Steps p.tables e below (T87.setTop (mkF m 203 #[.val (.int p1), .val (.int p2), .val (.int p3), .val (.ref b3), .unset, .unset, .unset, .unset, .unset] [(.int ((p1 &&& (2147483647 : Int32)) % (28 : Int32)))])) _
      rw [hk89]
      show Steps p.tables e below (T87.setTop (mkF m 203 #[.val (.int p1), .val (.int p2), .val (.int p3), .val (.ref b3), .unset, .unset, .unset, .unset, .unset] [(.int (4 : Int32))])) _
      refine XS.istore X87.here hx rfl (hb hby at_203) rfl (l' := #[.val (.int p1), .val (.int p2), .val (.int p3), .val (.ref b3), .val (.int (4 : Int32)), .unset, .unset, .unset, .unset]) rfl ?_
      refine XS.aloadN X87.here hx rfl (hb hby at_205) rfl rfl ?_
      refine XS.iload X87.here hx rfl (hb hby at_206) rfl ?_
      show Steps p.tables e below (T87.setTop (mkF m 208 #[.val (.int p1), .val (.int p2), .val (.int p3), .val (.ref b3), .val (.int (4 : Int32)), .unset, .unset, .unset, .unset] [(.int (4 : Int32)), (.ref b3)])) _
      refine X87.aaload hx (j := (4 : Int32)) (v := (.ref (A 4))) (by rw [e87]; exact Ar110.1) (State.isArrayOf_alike hZ.alike Ar110.2.1) rfl Ar110.2.2 hin110 hat110 (g := (mkF m 208 #[.val (.int p1), .val (.int p2), .val (.int p3), .val (.ref b3), .val (.int (4 : Int32)), .unset, .unset, .unset, .unset] [(.int (4 : Int32)), (.ref b3)])) rfl rfl (hb hby at_208) _ ?_
      show Steps p.tables e below (T87.setTop (mkF m 209 #[.val (.int p1), .val (.int p2), .val (.int p3), .val (.ref b3), .val (.int (4 : Int32)), .unset, .unset, .unset, .unset] [(.ref (A 4))])) _
      refine XS.astore X87.here hx rfl (hb hby at_209) rfl rfl (l' := #[.val (.int p1), .val (.int p2), .val (.int p3), .val (.ref b3), .val (.int (4 : Int32)), .val (.ref (A 4)), .unset, .unset, .unset]) rfl ?_
      refine XS.iload X87.here hx rfl (hb hby at_211) rfl ?_
      refine XS.bipush X87.here hx rfl (hb hby at_213) ?_
      show Steps p.tables e below (T87.setTop (mkF m 215 #[.val (.int p1), .val (.int p2), .val (.int p3), .val (.ref b3), .val (.int (4 : Int32)), .val (.ref (A 4)), .unset, .unset, .unset] [(.int (13 : Int32)), (.int (4 : Int32))])) _
      refine XS.icmpYes X87.here hx rfl (pc0 := 215) (pc' := 229) rfl (hb hby at_215) rfl (tlt (by decide : (4 : Int32) < (13 : Int32))).1 (by decide) (by decide) ?_
      show Steps p.tables e below (T87.setTop (mkF m 229 #[.val (.int p1), .val (.int p2), .val (.int p3), .val (.ref b3), .val (.int (4 : Int32)), .val (.ref (A 4)), .unset, .unset, .unset] [])) _
      refine XS.iconst X87.here hx rfl (hb hby at_229) ?_
      refine XS.istore X87.here hx rfl (hb hby at_230) rfl (l' := #[.val (.int p1), .val (.int p2), .val (.int p3), .val (.ref b3), .val (.int (4 : Int32)), .val (.ref (A 4)), .val (.int (0 : Int32)), .unset, .unset]) rfl ?_
      refine XS.aload X87.here hx rfl (hb hby at_232) rfl rfl ?_
      show Steps p.tables e below (T87.setTop (mkF m 234 #[.val (.int p1), .val (.int p2), .val (.int p3), .val (.ref b3), .val (.int (4 : Int32)), .val (.ref (A 4)), .val (.int (0 : Int32)), .unset, .unset] [(.ref (A 4))])) _
      refine st114.trans ?_
      show Steps p.tables e below (T114.setTop (mkF m 237 #[.val (.int p1), .val (.int p2), .val (.int p3), .val (.ref b3), .val (.int (4 : Int32)), .val (.ref (A 4)), .val (.int (0 : Int32)), .unset, .unset] [(.int (0 : Int32))])) _
      refine XS.istore X114.here hx rfl (hb hby at_237) rfl (l' := #[.val (.int p1), .val (.int p2), .val (.int p3), .val (.ref b3), .val (.int (4 : Int32)), .val (.ref (A 4)), .val (.int (0 : Int32)), .val (.int (0 : Int32)), .unset]) rfl ?_
      refine XS.iload X114.here hx rfl (hb hby at_239) rfl ?_
      refine XS.iload X114.here hx rfl (hb hby at_241) rfl ?_
      show Steps p.tables e below (T114.setTop (mkF m 243 #[.val (.int p1), .val (.int p2), .val (.int p3), .val (.ref b3), .val (.int (4 : Int32)), .val (.ref (A 4)), .val (.int (0 : Int32)), .val (.int (0 : Int32)), .unset] [(.int (0 : Int32)), (.int (0 : Int32))])) _
      refine XS.icmpYes X114.here hx rfl (pc0 := 243) (pc' := 248) rfl (hb hby at_243) rfl (teq (by decide : (0 : Int32) = (0 : Int32))).1 (by decide) (by decide) ?_
      show Steps p.tables e below (T114.setTop (mkF m 248 #[.val (.int p1), .val (.int p2), .val (.int p3), .val (.ref b3), .val (.int (4 : Int32)), .val (.ref (A 4)), .val (.int (0 : Int32)), .val (.int (0 : Int32)), .unset] [])) _
      refine XS.iload X114.here hx rfl (hb hby at_248) rfl ?_
      refine XS.ifNo X114.here hx rfl (hb hby at_250) rfl ((if0 _ _).trans (teq (by decide : (0 : Int32) = (0 : Int32))).2) ?_
      show Steps p.tables e below (T114.setTop (mkF m 253 #[.val (.int p1), .val (.int p2), .val (.int p3), .val (.ref b3), .val (.int (4 : Int32)), .val (.ref (A 4)), .val (.int (0 : Int32)), .val (.int (0 : Int32)), .unset] [])) _
      refine XS.iconst X114.here hx rfl (hb hby at_253) ?_
      exact retN X114 hx (t := .boolean) Bd.returns (by simp) (hb hby at_254) hr
    · show LQ n0 _ T114.heap _
      exact ⟨rfl, N114, trivial⟩
  | 5, _, hk89 =>
    obtain ⟨cl115, Ar115, q115, Sz115, Nn115, Hh115, Gg115⟩ := (id V87)
    have hin115 : ¬ ((5 : Int32) < 0 ∨ cl115.slots.size ≤ ((5 : Int32)).toNatClampNeg) := inb_of Sz115 ⟨by decide, by decide⟩
    have hat115 : cl115.slots[((5 : Int32)).toNatClampNeg]? = some (.ref (A 5)) := Has.at Hh115 hin115 rfl
    obtain ⟨cq119, kq119, q119a, q119b, q119c⟩ := isOf hZ e87 (EN.2.1.2.2.2.1.ext OL87.2)
    obtain ⟨_, _, ⟨T119, L119, k119, n119⟩, -, X119, ⟨Lc119, hQ119, l119, y119, z119⟩, st119⟩ := X87.virtualBack hx (y := own_m0) (z := own_m0) hown (mvT hZ (hw _ (List.mem_of_getElem? (i := 61) rfl))) (mvT hZ (hw _ (List.mem_of_getElem? (i := 62) rfl))) (notFace_of_selects (args := #[]) (mvT hZ (hw _ (List.mem_of_getElem? (i := 64) rfl)))) (mvT hZ (hw _ (List.mem_of_getElem? (i := 64) rfl))) (mvT hZ (hw _ (List.mem_of_getElem? (i := 63) rfl))) (by decide) (backOf (W := 0) (rm6 l Z a0 hw [] h87 n0 p1 p2 p3 A K cs EN OL87) hZ (hw _ (List.mem_of_getElem? (i := 65) rfl)) (hw _ (List.mem_of_getElem? (i := 3) rfl)) (by decide) (by decide)) q119a q119c (g := (mkF m 234 #[.val (.int p1), .val (.int p2), .val (.int p3), .val (.ref b3), .val (.int (5 : Int32)), .val (.ref (A 5)), .val (.int (0 : Int32)), .unset, .unset] [(.ref (A 5))])) rfl (by rw [hml]; rfl) (Steps.refl _) (argsL := []) (rest := []) (lenOf own_pd0 rfl) rfl (by show 2 * 0 + _ ≤ _; exact Nat.le_of_eq rfl) (hb hby at_234) (fun _ _ => ⟨rfl, e87, (by decide : 1 + 0 ≤ _), (by decide : 28 + 0 ≤ _)⟩)
    dsimp only [Pt.U, Pt.locs, Pt.cells, Pt.slots] at X119 l119 y119 z119 st119 hQ119
    replace X119 := own_sub X119 l119 y119 z119
    obtain ⟨rfl, N119q, e119⟩ := hQ119
    have N119 := Fr.app NF87 N119q
    obtain ⟨fs, hr, hrun, hended, hW, hsame⟩ := X119.leave (v := some (.int (1 : Int32))) (fun h => by rw [Bd.returns] at h; cases h)
    refine ⟨_, _, pre88 _ ?_, hrun, hended, _, _, rfl, ?_, ⟨_, rfl⟩, hW, hsame.mono (by decide) (by decide)⟩
    · show Steps p.tables e below (T87.setTop (mkF m 203 #[.val (.int p1), .val (.int p2), .val (.int p3), .val (.ref b3), .unset, .unset, .unset, .unset, .unset] [(.int ((p1 &&& (2147483647 : Int32)) % (28 : Int32)))])) _
      rw [hk89]
      show Steps p.tables e below (T87.setTop (mkF m 203 #[.val (.int p1), .val (.int p2), .val (.int p3), .val (.ref b3), .unset, .unset, .unset, .unset, .unset] [(.int (5 : Int32))])) _
      refine XS.istore X87.here hx rfl (hb hby at_203) rfl (l' := #[.val (.int p1), .val (.int p2), .val (.int p3), .val (.ref b3), .val (.int (5 : Int32)), .unset, .unset, .unset, .unset]) rfl ?_
      refine XS.aloadN X87.here hx rfl (hb hby at_205) rfl rfl ?_
      refine XS.iload X87.here hx rfl (hb hby at_206) rfl ?_
      show Steps p.tables e below (T87.setTop (mkF m 208 #[.val (.int p1), .val (.int p2), .val (.int p3), .val (.ref b3), .val (.int (5 : Int32)), .unset, .unset, .unset, .unset] [(.int (5 : Int32)), (.ref b3)])) _
      refine X87.aaload hx (j := (5 : Int32)) (v := (.ref (A 5))) (by rw [e87]; exact Ar115.1) (State.isArrayOf_alike hZ.alike Ar115.2.1) rfl Ar115.2.2 hin115 hat115 (g := (mkF m 208 #[.val (.int p1), .val (.int p2), .val (.int p3), .val (.ref b3), .val (.int (5 : Int32)), .unset, .unset, .unset, .unset] [(.int (5 : Int32)), (.ref b3)])) rfl rfl (hb hby at_208) _ ?_
      show Steps p.tables e below (T87.setTop (mkF m 209 #[.val (.int p1), .val (.int p2), .val (.int p3), .val (.ref b3), .val (.int (5 : Int32)), .unset, .unset, .unset, .unset] [(.ref (A 5))])) _
      refine XS.astore X87.here hx rfl (hb hby at_209) rfl rfl (l' := #[.val (.int p1), .val (.int p2), .val (.int p3), .val (.ref b3), .val (.int (5 : Int32)), .val (.ref (A 5)), .unset, .unset, .unset]) rfl ?_
      refine XS.iload X87.here hx rfl (hb hby at_211) rfl ?_
      refine XS.bipush X87.here hx rfl (hb hby at_213) ?_
      show Steps p.tables e below (T87.setTop (mkF m 215 #[.val (.int p1), .val (.int p2), .val (.int p3), .val (.ref b3), .val (.int (5 : Int32)), .val (.ref (A 5)), .unset, .unset, .unset] [(.int (13 : Int32)), (.int (5 : Int32))])) _
      refine XS.icmpYes X87.here hx rfl (pc0 := 215) (pc' := 229) rfl (hb hby at_215) rfl (tlt (by decide : (5 : Int32) < (13 : Int32))).1 (by decide) (by decide) ?_
      show Steps p.tables e below (T87.setTop (mkF m 229 #[.val (.int p1), .val (.int p2), .val (.int p3), .val (.ref b3), .val (.int (5 : Int32)), .val (.ref (A 5)), .unset, .unset, .unset] [])) _
      refine XS.iconst X87.here hx rfl (hb hby at_229) ?_
      refine XS.istore X87.here hx rfl (hb hby at_230) rfl (l' := #[.val (.int p1), .val (.int p2), .val (.int p3), .val (.ref b3), .val (.int (5 : Int32)), .val (.ref (A 5)), .val (.int (0 : Int32)), .unset, .unset]) rfl ?_
      refine XS.aload X87.here hx rfl (hb hby at_232) rfl rfl ?_
      show Steps p.tables e below (T87.setTop (mkF m 234 #[.val (.int p1), .val (.int p2), .val (.int p3), .val (.ref b3), .val (.int (5 : Int32)), .val (.ref (A 5)), .val (.int (0 : Int32)), .unset, .unset] [(.ref (A 5))])) _
      refine st119.trans ?_
      show Steps p.tables e below (T119.setTop (mkF m 237 #[.val (.int p1), .val (.int p2), .val (.int p3), .val (.ref b3), .val (.int (5 : Int32)), .val (.ref (A 5)), .val (.int (0 : Int32)), .unset, .unset] [(.int (0 : Int32))])) _
      refine XS.istore X119.here hx rfl (hb hby at_237) rfl (l' := #[.val (.int p1), .val (.int p2), .val (.int p3), .val (.ref b3), .val (.int (5 : Int32)), .val (.ref (A 5)), .val (.int (0 : Int32)), .val (.int (0 : Int32)), .unset]) rfl ?_
      refine XS.iload X119.here hx rfl (hb hby at_239) rfl ?_
      refine XS.iload X119.here hx rfl (hb hby at_241) rfl ?_
      show Steps p.tables e below (T119.setTop (mkF m 243 #[.val (.int p1), .val (.int p2), .val (.int p3), .val (.ref b3), .val (.int (5 : Int32)), .val (.ref (A 5)), .val (.int (0 : Int32)), .val (.int (0 : Int32)), .unset] [(.int (0 : Int32)), (.int (0 : Int32))])) _
      refine XS.icmpYes X119.here hx rfl (pc0 := 243) (pc' := 248) rfl (hb hby at_243) rfl (teq (by decide : (0 : Int32) = (0 : Int32))).1 (by decide) (by decide) ?_
      show Steps p.tables e below (T119.setTop (mkF m 248 #[.val (.int p1), .val (.int p2), .val (.int p3), .val (.ref b3), .val (.int (5 : Int32)), .val (.ref (A 5)), .val (.int (0 : Int32)), .val (.int (0 : Int32)), .unset] [])) _
      refine XS.iload X119.here hx rfl (hb hby at_248) rfl ?_
      refine XS.ifNo X119.here hx rfl (hb hby at_250) rfl ((if0 _ _).trans (teq (by decide : (0 : Int32) = (0 : Int32))).2) ?_
      show Steps p.tables e below (T119.setTop (mkF m 253 #[.val (.int p1), .val (.int p2), .val (.int p3), .val (.ref b3), .val (.int (5 : Int32)), .val (.ref (A 5)), .val (.int (0 : Int32)), .val (.int (0 : Int32)), .unset] [])) _
      refine XS.iconst X119.here hx rfl (hb hby at_253) ?_
      exact retN X119 hx (t := .boolean) Bd.returns (by simp) (hb hby at_254) hr
    · show LQ n0 _ T119.heap _
      exact ⟨rfl, N119, trivial⟩
  | 6, _, hk89 =>
    obtain ⟨cl120, Ar120, q120, Sz120, Nn120, Hh120, Gg120⟩ := (id V87)
    have hin120 : ¬ ((6 : Int32) < 0 ∨ cl120.slots.size ≤ ((6 : Int32)).toNatClampNeg) := inb_of Sz120 ⟨by decide, by decide⟩
    have hat120 : cl120.slots[((6 : Int32)).toNatClampNeg]? = some (.ref (A 6)) := Has.at Hh120 hin120 rfl
    obtain ⟨cq124, kq124, q124a, q124b, q124c⟩ := isOf hZ e87 (EN.2.1.2.2.2.2.2.1.ext OL87.2)
    obtain ⟨_, _, ⟨T124, L124, k124, n124⟩, -, X124, ⟨Lc124, hQ124, l124, y124, z124⟩, st124⟩ := X87.virtualBack hx (y := own_m0) (z := own_m0) hown (mvT hZ (hw _ (List.mem_of_getElem? (i := 61) rfl))) (mvT hZ (hw _ (List.mem_of_getElem? (i := 62) rfl))) (notFace_of_selects (args := #[]) (mvT hZ (hw _ (List.mem_of_getElem? (i := 64) rfl)))) (mvT hZ (hw _ (List.mem_of_getElem? (i := 64) rfl))) (mvT hZ (hw _ (List.mem_of_getElem? (i := 63) rfl))) (by decide) (backOf (W := 0) (rm7 l Z a0 hw [] h87 n0 p1 p2 p3 A K cs EN OL87) hZ (hw _ (List.mem_of_getElem? (i := 65) rfl)) (hw _ (List.mem_of_getElem? (i := 3) rfl)) (by decide) (by decide)) q124a q124c (g := (mkF m 234 #[.val (.int p1), .val (.int p2), .val (.int p3), .val (.ref b3), .val (.int (6 : Int32)), .val (.ref (A 6)), .val (.int (0 : Int32)), .unset, .unset] [(.ref (A 6))])) rfl (by rw [hml]; rfl) (Steps.refl _) (argsL := []) (rest := []) (lenOf own_pd0 rfl) rfl (by show 2 * 0 + _ ≤ _; exact Nat.le_of_eq rfl) (hb hby at_234) (fun _ _ => ⟨rfl, e87, (by decide : 1 + 0 ≤ _), (by decide : 28 + 0 ≤ _)⟩)
    dsimp only [Pt.U, Pt.locs, Pt.cells, Pt.slots] at X124 l124 y124 z124 st124 hQ124
    replace X124 := own_sub X124 l124 y124 z124
    obtain ⟨rfl, N124q, e124⟩ := hQ124
    have N124 := Fr.app NF87 N124q
    obtain ⟨fs, hr, hrun, hended, hW, hsame⟩ := X124.leave (v := some (.int (1 : Int32))) (fun h => by rw [Bd.returns] at h; cases h)
    refine ⟨_, _, pre88 _ ?_, hrun, hended, _, _, rfl, ?_, ⟨_, rfl⟩, hW, hsame.mono (by decide) (by decide)⟩
    · show Steps p.tables e below (T87.setTop (mkF m 203 #[.val (.int p1), .val (.int p2), .val (.int p3), .val (.ref b3), .unset, .unset, .unset, .unset, .unset] [(.int ((p1 &&& (2147483647 : Int32)) % (28 : Int32)))])) _
      rw [hk89]
      show Steps p.tables e below (T87.setTop (mkF m 203 #[.val (.int p1), .val (.int p2), .val (.int p3), .val (.ref b3), .unset, .unset, .unset, .unset, .unset] [(.int (6 : Int32))])) _
      refine XS.istore X87.here hx rfl (hb hby at_203) rfl (l' := #[.val (.int p1), .val (.int p2), .val (.int p3), .val (.ref b3), .val (.int (6 : Int32)), .unset, .unset, .unset, .unset]) rfl ?_
      refine XS.aloadN X87.here hx rfl (hb hby at_205) rfl rfl ?_
      refine XS.iload X87.here hx rfl (hb hby at_206) rfl ?_
      show Steps p.tables e below (T87.setTop (mkF m 208 #[.val (.int p1), .val (.int p2), .val (.int p3), .val (.ref b3), .val (.int (6 : Int32)), .unset, .unset, .unset, .unset] [(.int (6 : Int32)), (.ref b3)])) _
      refine X87.aaload hx (j := (6 : Int32)) (v := (.ref (A 6))) (by rw [e87]; exact Ar120.1) (State.isArrayOf_alike hZ.alike Ar120.2.1) rfl Ar120.2.2 hin120 hat120 (g := (mkF m 208 #[.val (.int p1), .val (.int p2), .val (.int p3), .val (.ref b3), .val (.int (6 : Int32)), .unset, .unset, .unset, .unset] [(.int (6 : Int32)), (.ref b3)])) rfl rfl (hb hby at_208) _ ?_
      show Steps p.tables e below (T87.setTop (mkF m 209 #[.val (.int p1), .val (.int p2), .val (.int p3), .val (.ref b3), .val (.int (6 : Int32)), .unset, .unset, .unset, .unset] [(.ref (A 6))])) _
      refine XS.astore X87.here hx rfl (hb hby at_209) rfl rfl (l' := #[.val (.int p1), .val (.int p2), .val (.int p3), .val (.ref b3), .val (.int (6 : Int32)), .val (.ref (A 6)), .unset, .unset, .unset]) rfl ?_
      refine XS.iload X87.here hx rfl (hb hby at_211) rfl ?_
      refine XS.bipush X87.here hx rfl (hb hby at_213) ?_
      show Steps p.tables e below (T87.setTop (mkF m 215 #[.val (.int p1), .val (.int p2), .val (.int p3), .val (.ref b3), .val (.int (6 : Int32)), .val (.ref (A 6)), .unset, .unset, .unset] [(.int (13 : Int32)), (.int (6 : Int32))])) _
      refine XS.icmpYes X87.here hx rfl (pc0 := 215) (pc' := 229) rfl (hb hby at_215) rfl (tlt (by decide : (6 : Int32) < (13 : Int32))).1 (by decide) (by decide) ?_
      show Steps p.tables e below (T87.setTop (mkF m 229 #[.val (.int p1), .val (.int p2), .val (.int p3), .val (.ref b3), .val (.int (6 : Int32)), .val (.ref (A 6)), .unset, .unset, .unset] [])) _
      refine XS.iconst X87.here hx rfl (hb hby at_229) ?_
      refine XS.istore X87.here hx rfl (hb hby at_230) rfl (l' := #[.val (.int p1), .val (.int p2), .val (.int p3), .val (.ref b3), .val (.int (6 : Int32)), .val (.ref (A 6)), .val (.int (0 : Int32)), .unset, .unset]) rfl ?_
      refine XS.aload X87.here hx rfl (hb hby at_232) rfl rfl ?_
      show Steps p.tables e below (T87.setTop (mkF m 234 #[.val (.int p1), .val (.int p2), .val (.int p3), .val (.ref b3), .val (.int (6 : Int32)), .val (.ref (A 6)), .val (.int (0 : Int32)), .unset, .unset] [(.ref (A 6))])) _
      refine st124.trans ?_
      show Steps p.tables e below (T124.setTop (mkF m 237 #[.val (.int p1), .val (.int p2), .val (.int p3), .val (.ref b3), .val (.int (6 : Int32)), .val (.ref (A 6)), .val (.int (0 : Int32)), .unset, .unset] [(.int (0 : Int32))])) _
      refine XS.istore X124.here hx rfl (hb hby at_237) rfl (l' := #[.val (.int p1), .val (.int p2), .val (.int p3), .val (.ref b3), .val (.int (6 : Int32)), .val (.ref (A 6)), .val (.int (0 : Int32)), .val (.int (0 : Int32)), .unset]) rfl ?_
      refine XS.iload X124.here hx rfl (hb hby at_239) rfl ?_
      refine XS.iload X124.here hx rfl (hb hby at_241) rfl ?_
      show Steps p.tables e below (T124.setTop (mkF m 243 #[.val (.int p1), .val (.int p2), .val (.int p3), .val (.ref b3), .val (.int (6 : Int32)), .val (.ref (A 6)), .val (.int (0 : Int32)), .val (.int (0 : Int32)), .unset] [(.int (0 : Int32)), (.int (0 : Int32))])) _
      refine XS.icmpYes X124.here hx rfl (pc0 := 243) (pc' := 248) rfl (hb hby at_243) rfl (teq (by decide : (0 : Int32) = (0 : Int32))).1 (by decide) (by decide) ?_
      show Steps p.tables e below (T124.setTop (mkF m 248 #[.val (.int p1), .val (.int p2), .val (.int p3), .val (.ref b3), .val (.int (6 : Int32)), .val (.ref (A 6)), .val (.int (0 : Int32)), .val (.int (0 : Int32)), .unset] [])) _
      refine XS.iload X124.here hx rfl (hb hby at_248) rfl ?_
      refine XS.ifNo X124.here hx rfl (hb hby at_250) rfl ((if0 _ _).trans (teq (by decide : (0 : Int32) = (0 : Int32))).2) ?_
      show Steps p.tables e below (T124.setTop (mkF m 253 #[.val (.int p1), .val (.int p2), .val (.int p3), .val (.ref b3), .val (.int (6 : Int32)), .val (.ref (A 6)), .val (.int (0 : Int32)), .val (.int (0 : Int32)), .unset] [])) _
      refine XS.iconst X124.here hx rfl (hb hby at_253) ?_
      exact retN X124 hx (t := .boolean) Bd.returns (by simp) (hb hby at_254) hr
    · show LQ n0 _ T124.heap _
      exact ⟨rfl, N124, trivial⟩
  | 7, _, hk89 =>
    obtain ⟨cl125, Ar125, q125, Sz125, Nn125, Hh125, Gg125⟩ := (id V87)
    have hin125 : ¬ ((7 : Int32) < 0 ∨ cl125.slots.size ≤ ((7 : Int32)).toNatClampNeg) := inb_of Sz125 ⟨by decide, by decide⟩
    have hat125 : cl125.slots[((7 : Int32)).toNatClampNeg]? = some (.ref (A 7)) := Has.at Hh125 hin125 rfl
    obtain ⟨cq129, kq129, q129a, q129b, q129c⟩ := isOf hZ e87 (EN.2.1.2.2.2.2.2.2.2.1.ext OL87.2)
    obtain ⟨_, _, ⟨T129, L129, k129, n129⟩, -, X129, ⟨Lc129, hQ129, l129, y129, z129⟩, st129⟩ := X87.virtualBack hx (y := own_m0) (z := own_m0) hown (mvT hZ (hw _ (List.mem_of_getElem? (i := 61) rfl))) (mvT hZ (hw _ (List.mem_of_getElem? (i := 62) rfl))) (notFace_of_selects (args := #[]) (mvT hZ (hw _ (List.mem_of_getElem? (i := 64) rfl)))) (mvT hZ (hw _ (List.mem_of_getElem? (i := 64) rfl))) (mvT hZ (hw _ (List.mem_of_getElem? (i := 63) rfl))) (by decide) (backOf (W := 0) (rm8 l Z a0 hw [] h87 n0 p1 p2 p3 A K cs EN OL87) hZ (hw _ (List.mem_of_getElem? (i := 65) rfl)) (hw _ (List.mem_of_getElem? (i := 3) rfl)) (by decide) (by decide)) q129a q129c (g := (mkF m 234 #[.val (.int p1), .val (.int p2), .val (.int p3), .val (.ref b3), .val (.int (7 : Int32)), .val (.ref (A 7)), .val (.int (0 : Int32)), .unset, .unset] [(.ref (A 7))])) rfl (by rw [hml]; rfl) (Steps.refl _) (argsL := []) (rest := []) (lenOf own_pd0 rfl) rfl (by show 2 * 0 + _ ≤ _; exact Nat.le_of_eq rfl) (hb hby at_234) (fun _ _ => ⟨rfl, e87, (by decide : 1 + 0 ≤ _), (by decide : 28 + 0 ≤ _)⟩)
    dsimp only [Pt.U, Pt.locs, Pt.cells, Pt.slots] at X129 l129 y129 z129 st129 hQ129
    replace X129 := own_sub X129 l129 y129 z129
    obtain ⟨rfl, N129q, e129⟩ := hQ129
    have N129 := Fr.app NF87 N129q
    obtain ⟨fs, hr, hrun, hended, hW, hsame⟩ := X129.leave (v := some (.int (1 : Int32))) (fun h => by rw [Bd.returns] at h; cases h)
    refine ⟨_, _, pre88 _ ?_, hrun, hended, _, _, rfl, ?_, ⟨_, rfl⟩, hW, hsame.mono (by decide) (by decide)⟩
    · show Steps p.tables e below (T87.setTop (mkF m 203 #[.val (.int p1), .val (.int p2), .val (.int p3), .val (.ref b3), .unset, .unset, .unset, .unset, .unset] [(.int ((p1 &&& (2147483647 : Int32)) % (28 : Int32)))])) _
      rw [hk89]
      show Steps p.tables e below (T87.setTop (mkF m 203 #[.val (.int p1), .val (.int p2), .val (.int p3), .val (.ref b3), .unset, .unset, .unset, .unset, .unset] [(.int (7 : Int32))])) _
      refine XS.istore X87.here hx rfl (hb hby at_203) rfl (l' := #[.val (.int p1), .val (.int p2), .val (.int p3), .val (.ref b3), .val (.int (7 : Int32)), .unset, .unset, .unset, .unset]) rfl ?_
      refine XS.aloadN X87.here hx rfl (hb hby at_205) rfl rfl ?_
      refine XS.iload X87.here hx rfl (hb hby at_206) rfl ?_
      show Steps p.tables e below (T87.setTop (mkF m 208 #[.val (.int p1), .val (.int p2), .val (.int p3), .val (.ref b3), .val (.int (7 : Int32)), .unset, .unset, .unset, .unset] [(.int (7 : Int32)), (.ref b3)])) _
      refine X87.aaload hx (j := (7 : Int32)) (v := (.ref (A 7))) (by rw [e87]; exact Ar125.1) (State.isArrayOf_alike hZ.alike Ar125.2.1) rfl Ar125.2.2 hin125 hat125 (g := (mkF m 208 #[.val (.int p1), .val (.int p2), .val (.int p3), .val (.ref b3), .val (.int (7 : Int32)), .unset, .unset, .unset, .unset] [(.int (7 : Int32)), (.ref b3)])) rfl rfl (hb hby at_208) _ ?_
      show Steps p.tables e below (T87.setTop (mkF m 209 #[.val (.int p1), .val (.int p2), .val (.int p3), .val (.ref b3), .val (.int (7 : Int32)), .unset, .unset, .unset, .unset] [(.ref (A 7))])) _
      refine XS.astore X87.here hx rfl (hb hby at_209) rfl rfl (l' := #[.val (.int p1), .val (.int p2), .val (.int p3), .val (.ref b3), .val (.int (7 : Int32)), .val (.ref (A 7)), .unset, .unset, .unset]) rfl ?_
      refine XS.iload X87.here hx rfl (hb hby at_211) rfl ?_
      refine XS.bipush X87.here hx rfl (hb hby at_213) ?_
      show Steps p.tables e below (T87.setTop (mkF m 215 #[.val (.int p1), .val (.int p2), .val (.int p3), .val (.ref b3), .val (.int (7 : Int32)), .val (.ref (A 7)), .unset, .unset, .unset] [(.int (13 : Int32)), (.int (7 : Int32))])) _
      refine XS.icmpYes X87.here hx rfl (pc0 := 215) (pc' := 229) rfl (hb hby at_215) rfl (tlt (by decide : (7 : Int32) < (13 : Int32))).1 (by decide) (by decide) ?_
      show Steps p.tables e below (T87.setTop (mkF m 229 #[.val (.int p1), .val (.int p2), .val (.int p3), .val (.ref b3), .val (.int (7 : Int32)), .val (.ref (A 7)), .unset, .unset, .unset] [])) _
      refine XS.iconst X87.here hx rfl (hb hby at_229) ?_
      refine XS.istore X87.here hx rfl (hb hby at_230) rfl (l' := #[.val (.int p1), .val (.int p2), .val (.int p3), .val (.ref b3), .val (.int (7 : Int32)), .val (.ref (A 7)), .val (.int (0 : Int32)), .unset, .unset]) rfl ?_
      refine XS.aload X87.here hx rfl (hb hby at_232) rfl rfl ?_
      show Steps p.tables e below (T87.setTop (mkF m 234 #[.val (.int p1), .val (.int p2), .val (.int p3), .val (.ref b3), .val (.int (7 : Int32)), .val (.ref (A 7)), .val (.int (0 : Int32)), .unset, .unset] [(.ref (A 7))])) _
      refine st129.trans ?_
      show Steps p.tables e below (T129.setTop (mkF m 237 #[.val (.int p1), .val (.int p2), .val (.int p3), .val (.ref b3), .val (.int (7 : Int32)), .val (.ref (A 7)), .val (.int (0 : Int32)), .unset, .unset] [(.int (0 : Int32))])) _
      refine XS.istore X129.here hx rfl (hb hby at_237) rfl (l' := #[.val (.int p1), .val (.int p2), .val (.int p3), .val (.ref b3), .val (.int (7 : Int32)), .val (.ref (A 7)), .val (.int (0 : Int32)), .val (.int (0 : Int32)), .unset]) rfl ?_
      refine XS.iload X129.here hx rfl (hb hby at_239) rfl ?_
      refine XS.iload X129.here hx rfl (hb hby at_241) rfl ?_
      show Steps p.tables e below (T129.setTop (mkF m 243 #[.val (.int p1), .val (.int p2), .val (.int p3), .val (.ref b3), .val (.int (7 : Int32)), .val (.ref (A 7)), .val (.int (0 : Int32)), .val (.int (0 : Int32)), .unset] [(.int (0 : Int32)), (.int (0 : Int32))])) _
      refine XS.icmpYes X129.here hx rfl (pc0 := 243) (pc' := 248) rfl (hb hby at_243) rfl (teq (by decide : (0 : Int32) = (0 : Int32))).1 (by decide) (by decide) ?_
      show Steps p.tables e below (T129.setTop (mkF m 248 #[.val (.int p1), .val (.int p2), .val (.int p3), .val (.ref b3), .val (.int (7 : Int32)), .val (.ref (A 7)), .val (.int (0 : Int32)), .val (.int (0 : Int32)), .unset] [])) _
      refine XS.iload X129.here hx rfl (hb hby at_248) rfl ?_
      refine XS.ifNo X129.here hx rfl (hb hby at_250) rfl ((if0 _ _).trans (teq (by decide : (0 : Int32) = (0 : Int32))).2) ?_
      show Steps p.tables e below (T129.setTop (mkF m 253 #[.val (.int p1), .val (.int p2), .val (.int p3), .val (.ref b3), .val (.int (7 : Int32)), .val (.ref (A 7)), .val (.int (0 : Int32)), .val (.int (0 : Int32)), .unset] [])) _
      refine XS.iconst X129.here hx rfl (hb hby at_253) ?_
      exact retN X129 hx (t := .boolean) Bd.returns (by simp) (hb hby at_254) hr
    · show LQ n0 _ T129.heap _
      exact ⟨rfl, N129, trivial⟩
  | 8, _, hk89 =>
    obtain ⟨cl130, Ar130, q130, Sz130, Nn130, Hh130, Gg130⟩ := (id V87)
    have hin130 : ¬ ((8 : Int32) < 0 ∨ cl130.slots.size ≤ ((8 : Int32)).toNatClampNeg) := inb_of Sz130 ⟨by decide, by decide⟩
    have hat130 : cl130.slots[((8 : Int32)).toNatClampNeg]? = some (.ref (A 8)) := Has.at Hh130 hin130 rfl
    obtain ⟨cq134, kq134, q134a, q134b, q134c⟩ := isOf hZ e87 (EN.2.2.1.2.1.ext OL87.2)
    obtain ⟨_, _, ⟨T134, L134, k134, n134⟩, -, X134, ⟨Lc134, hQ134, l134, y134, z134⟩, st134⟩ := X87.virtualBack hx (y := own_m0) (z := own_m0) hown (mvT hZ (hw _ (List.mem_of_getElem? (i := 61) rfl))) (mvT hZ (hw _ (List.mem_of_getElem? (i := 62) rfl))) (notFace_of_selects (args := #[]) (mvT hZ (hw _ (List.mem_of_getElem? (i := 64) rfl)))) (mvT hZ (hw _ (List.mem_of_getElem? (i := 64) rfl))) (mvT hZ (hw _ (List.mem_of_getElem? (i := 63) rfl))) (by decide) (backOf (W := 0) (rm9 l Z a0 hw [] h87 n0 p1 p2 p3 A K cs EN OL87) hZ (hw _ (List.mem_of_getElem? (i := 65) rfl)) (hw _ (List.mem_of_getElem? (i := 3) rfl)) (by decide) (by decide)) q134a q134c (g := (mkF m 234 #[.val (.int p1), .val (.int p2), .val (.int p3), .val (.ref b3), .val (.int (8 : Int32)), .val (.ref (A 8)), .val (.int (0 : Int32)), .unset, .unset] [(.ref (A 8))])) rfl (by rw [hml]; rfl) (Steps.refl _) (argsL := []) (rest := []) (lenOf own_pd0 rfl) rfl (by show 2 * 0 + _ ≤ _; exact Nat.le_of_eq rfl) (hb hby at_234) (fun _ _ => ⟨rfl, e87, (by decide : 1 + 0 ≤ _), (by decide : 28 + 0 ≤ _)⟩)
    dsimp only [Pt.U, Pt.locs, Pt.cells, Pt.slots] at X134 l134 y134 z134 st134 hQ134
    replace X134 := own_sub X134 l134 y134 z134
    obtain ⟨rfl, N134q, e134⟩ := hQ134
    have N134 := Fr.app NF87 N134q
    obtain ⟨fs, hr, hrun, hended, hW, hsame⟩ := X134.leave (v := some (.int (1 : Int32))) (fun h => by rw [Bd.returns] at h; cases h)
    refine ⟨_, _, pre88 _ ?_, hrun, hended, _, _, rfl, ?_, ⟨_, rfl⟩, hW, hsame.mono (by decide) (by decide)⟩
    · show Steps p.tables e below (T87.setTop (mkF m 203 #[.val (.int p1), .val (.int p2), .val (.int p3), .val (.ref b3), .unset, .unset, .unset, .unset, .unset] [(.int ((p1 &&& (2147483647 : Int32)) % (28 : Int32)))])) _
      rw [hk89]
      show Steps p.tables e below (T87.setTop (mkF m 203 #[.val (.int p1), .val (.int p2), .val (.int p3), .val (.ref b3), .unset, .unset, .unset, .unset, .unset] [(.int (8 : Int32))])) _
      refine XS.istore X87.here hx rfl (hb hby at_203) rfl (l' := #[.val (.int p1), .val (.int p2), .val (.int p3), .val (.ref b3), .val (.int (8 : Int32)), .unset, .unset, .unset, .unset]) rfl ?_
      refine XS.aloadN X87.here hx rfl (hb hby at_205) rfl rfl ?_
      refine XS.iload X87.here hx rfl (hb hby at_206) rfl ?_
      show Steps p.tables e below (T87.setTop (mkF m 208 #[.val (.int p1), .val (.int p2), .val (.int p3), .val (.ref b3), .val (.int (8 : Int32)), .unset, .unset, .unset, .unset] [(.int (8 : Int32)), (.ref b3)])) _
      refine X87.aaload hx (j := (8 : Int32)) (v := (.ref (A 8))) (by rw [e87]; exact Ar130.1) (State.isArrayOf_alike hZ.alike Ar130.2.1) rfl Ar130.2.2 hin130 hat130 (g := (mkF m 208 #[.val (.int p1), .val (.int p2), .val (.int p3), .val (.ref b3), .val (.int (8 : Int32)), .unset, .unset, .unset, .unset] [(.int (8 : Int32)), (.ref b3)])) rfl rfl (hb hby at_208) _ ?_
      show Steps p.tables e below (T87.setTop (mkF m 209 #[.val (.int p1), .val (.int p2), .val (.int p3), .val (.ref b3), .val (.int (8 : Int32)), .unset, .unset, .unset, .unset] [(.ref (A 8))])) _
      refine XS.astore X87.here hx rfl (hb hby at_209) rfl rfl (l' := #[.val (.int p1), .val (.int p2), .val (.int p3), .val (.ref b3), .val (.int (8 : Int32)), .val (.ref (A 8)), .unset, .unset, .unset]) rfl ?_
      refine XS.iload X87.here hx rfl (hb hby at_211) rfl ?_
      refine XS.bipush X87.here hx rfl (hb hby at_213) ?_
      show Steps p.tables e below (T87.setTop (mkF m 215 #[.val (.int p1), .val (.int p2), .val (.int p3), .val (.ref b3), .val (.int (8 : Int32)), .val (.ref (A 8)), .unset, .unset, .unset] [(.int (13 : Int32)), (.int (8 : Int32))])) _
      refine XS.icmpYes X87.here hx rfl (pc0 := 215) (pc' := 229) rfl (hb hby at_215) rfl (tlt (by decide : (8 : Int32) < (13 : Int32))).1 (by decide) (by decide) ?_
      show Steps p.tables e below (T87.setTop (mkF m 229 #[.val (.int p1), .val (.int p2), .val (.int p3), .val (.ref b3), .val (.int (8 : Int32)), .val (.ref (A 8)), .unset, .unset, .unset] [])) _
      refine XS.iconst X87.here hx rfl (hb hby at_229) ?_
      refine XS.istore X87.here hx rfl (hb hby at_230) rfl (l' := #[.val (.int p1), .val (.int p2), .val (.int p3), .val (.ref b3), .val (.int (8 : Int32)), .val (.ref (A 8)), .val (.int (0 : Int32)), .unset, .unset]) rfl ?_
      refine XS.aload X87.here hx rfl (hb hby at_232) rfl rfl ?_
      show Steps p.tables e below (T87.setTop (mkF m 234 #[.val (.int p1), .val (.int p2), .val (.int p3), .val (.ref b3), .val (.int (8 : Int32)), .val (.ref (A 8)), .val (.int (0 : Int32)), .unset, .unset] [(.ref (A 8))])) _
      refine st134.trans ?_
      show Steps p.tables e below (T134.setTop (mkF m 237 #[.val (.int p1), .val (.int p2), .val (.int p3), .val (.ref b3), .val (.int (8 : Int32)), .val (.ref (A 8)), .val (.int (0 : Int32)), .unset, .unset] [(.int (0 : Int32))])) _
      refine XS.istore X134.here hx rfl (hb hby at_237) rfl (l' := #[.val (.int p1), .val (.int p2), .val (.int p3), .val (.ref b3), .val (.int (8 : Int32)), .val (.ref (A 8)), .val (.int (0 : Int32)), .val (.int (0 : Int32)), .unset]) rfl ?_
      refine XS.iload X134.here hx rfl (hb hby at_239) rfl ?_
      refine XS.iload X134.here hx rfl (hb hby at_241) rfl ?_
      show Steps p.tables e below (T134.setTop (mkF m 243 #[.val (.int p1), .val (.int p2), .val (.int p3), .val (.ref b3), .val (.int (8 : Int32)), .val (.ref (A 8)), .val (.int (0 : Int32)), .val (.int (0 : Int32)), .unset] [(.int (0 : Int32)), (.int (0 : Int32))])) _
      refine XS.icmpYes X134.here hx rfl (pc0 := 243) (pc' := 248) rfl (hb hby at_243) rfl (teq (by decide : (0 : Int32) = (0 : Int32))).1 (by decide) (by decide) ?_
      show Steps p.tables e below (T134.setTop (mkF m 248 #[.val (.int p1), .val (.int p2), .val (.int p3), .val (.ref b3), .val (.int (8 : Int32)), .val (.ref (A 8)), .val (.int (0 : Int32)), .val (.int (0 : Int32)), .unset] [])) _
      refine XS.iload X134.here hx rfl (hb hby at_248) rfl ?_
      refine XS.ifNo X134.here hx rfl (hb hby at_250) rfl ((if0 _ _).trans (teq (by decide : (0 : Int32) = (0 : Int32))).2) ?_
      show Steps p.tables e below (T134.setTop (mkF m 253 #[.val (.int p1), .val (.int p2), .val (.int p3), .val (.ref b3), .val (.int (8 : Int32)), .val (.ref (A 8)), .val (.int (0 : Int32)), .val (.int (0 : Int32)), .unset] [])) _
      refine XS.iconst X134.here hx rfl (hb hby at_253) ?_
      exact retN X134 hx (t := .boolean) Bd.returns (by simp) (hb hby at_254) hr
    · show LQ n0 _ T134.heap _
      exact ⟨rfl, N134, trivial⟩
  | 9, _, hk89 =>
    obtain ⟨cl135, Ar135, q135, Sz135, Nn135, Hh135, Gg135⟩ := (id V87)
    have hin135 : ¬ ((9 : Int32) < 0 ∨ cl135.slots.size ≤ ((9 : Int32)).toNatClampNeg) := inb_of Sz135 ⟨by decide, by decide⟩
    have hat135 : cl135.slots[((9 : Int32)).toNatClampNeg]? = some (.ref (A 9)) := Has.at Hh135 hin135 rfl
    obtain ⟨cq139, kq139, q139a, q139b, q139c⟩ := isOf hZ e87 (EN.2.2.1.2.2.2.1.ext OL87.2)
    obtain ⟨_, _, ⟨T139, L139, k139, n139⟩, -, X139, ⟨Lc139, hQ139, l139, y139, z139⟩, st139⟩ := X87.virtualBack hx (y := own_m0) (z := own_m0) hown (mvT hZ (hw _ (List.mem_of_getElem? (i := 61) rfl))) (mvT hZ (hw _ (List.mem_of_getElem? (i := 62) rfl))) (notFace_of_selects (args := #[]) (mvT hZ (hw _ (List.mem_of_getElem? (i := 64) rfl)))) (mvT hZ (hw _ (List.mem_of_getElem? (i := 64) rfl))) (mvT hZ (hw _ (List.mem_of_getElem? (i := 63) rfl))) (by decide) (backOf (W := 0) (rm10 l Z a0 hw [] h87 n0 p1 p2 p3 A K cs EN OL87) hZ (hw _ (List.mem_of_getElem? (i := 65) rfl)) (hw _ (List.mem_of_getElem? (i := 3) rfl)) (by decide) (by decide)) q139a q139c (g := (mkF m 234 #[.val (.int p1), .val (.int p2), .val (.int p3), .val (.ref b3), .val (.int (9 : Int32)), .val (.ref (A 9)), .val (.int (0 : Int32)), .unset, .unset] [(.ref (A 9))])) rfl (by rw [hml]; rfl) (Steps.refl _) (argsL := []) (rest := []) (lenOf own_pd0 rfl) rfl (by show 2 * 0 + _ ≤ _; exact Nat.le_of_eq rfl) (hb hby at_234) (fun _ _ => ⟨rfl, e87, (by decide : 1 + 0 ≤ _), (by decide : 28 + 0 ≤ _)⟩)
    dsimp only [Pt.U, Pt.locs, Pt.cells, Pt.slots] at X139 l139 y139 z139 st139 hQ139
    replace X139 := own_sub X139 l139 y139 z139
    obtain ⟨rfl, N139q, e139⟩ := hQ139
    have N139 := Fr.app NF87 N139q
    obtain ⟨fs, hr, hrun, hended, hW, hsame⟩ := X139.leave (v := some (.int (1 : Int32))) (fun h => by rw [Bd.returns] at h; cases h)
    refine ⟨_, _, pre88 _ ?_, hrun, hended, _, _, rfl, ?_, ⟨_, rfl⟩, hW, hsame.mono (by decide) (by decide)⟩
    · show Steps p.tables e below (T87.setTop (mkF m 203 #[.val (.int p1), .val (.int p2), .val (.int p3), .val (.ref b3), .unset, .unset, .unset, .unset, .unset] [(.int ((p1 &&& (2147483647 : Int32)) % (28 : Int32)))])) _
      rw [hk89]
      show Steps p.tables e below (T87.setTop (mkF m 203 #[.val (.int p1), .val (.int p2), .val (.int p3), .val (.ref b3), .unset, .unset, .unset, .unset, .unset] [(.int (9 : Int32))])) _
      refine XS.istore X87.here hx rfl (hb hby at_203) rfl (l' := #[.val (.int p1), .val (.int p2), .val (.int p3), .val (.ref b3), .val (.int (9 : Int32)), .unset, .unset, .unset, .unset]) rfl ?_
      refine XS.aloadN X87.here hx rfl (hb hby at_205) rfl rfl ?_
      refine XS.iload X87.here hx rfl (hb hby at_206) rfl ?_
      show Steps p.tables e below (T87.setTop (mkF m 208 #[.val (.int p1), .val (.int p2), .val (.int p3), .val (.ref b3), .val (.int (9 : Int32)), .unset, .unset, .unset, .unset] [(.int (9 : Int32)), (.ref b3)])) _
      refine X87.aaload hx (j := (9 : Int32)) (v := (.ref (A 9))) (by rw [e87]; exact Ar135.1) (State.isArrayOf_alike hZ.alike Ar135.2.1) rfl Ar135.2.2 hin135 hat135 (g := (mkF m 208 #[.val (.int p1), .val (.int p2), .val (.int p3), .val (.ref b3), .val (.int (9 : Int32)), .unset, .unset, .unset, .unset] [(.int (9 : Int32)), (.ref b3)])) rfl rfl (hb hby at_208) _ ?_
      show Steps p.tables e below (T87.setTop (mkF m 209 #[.val (.int p1), .val (.int p2), .val (.int p3), .val (.ref b3), .val (.int (9 : Int32)), .unset, .unset, .unset, .unset] [(.ref (A 9))])) _
      refine XS.astore X87.here hx rfl (hb hby at_209) rfl rfl (l' := #[.val (.int p1), .val (.int p2), .val (.int p3), .val (.ref b3), .val (.int (9 : Int32)), .val (.ref (A 9)), .unset, .unset, .unset]) rfl ?_
      refine XS.iload X87.here hx rfl (hb hby at_211) rfl ?_
      refine XS.bipush X87.here hx rfl (hb hby at_213) ?_
      show Steps p.tables e below (T87.setTop (mkF m 215 #[.val (.int p1), .val (.int p2), .val (.int p3), .val (.ref b3), .val (.int (9 : Int32)), .val (.ref (A 9)), .unset, .unset, .unset] [(.int (13 : Int32)), (.int (9 : Int32))])) _
      refine XS.icmpYes X87.here hx rfl (pc0 := 215) (pc' := 229) rfl (hb hby at_215) rfl (tlt (by decide : (9 : Int32) < (13 : Int32))).1 (by decide) (by decide) ?_
      show Steps p.tables e below (T87.setTop (mkF m 229 #[.val (.int p1), .val (.int p2), .val (.int p3), .val (.ref b3), .val (.int (9 : Int32)), .val (.ref (A 9)), .unset, .unset, .unset] [])) _
      refine XS.iconst X87.here hx rfl (hb hby at_229) ?_
      refine XS.istore X87.here hx rfl (hb hby at_230) rfl (l' := #[.val (.int p1), .val (.int p2), .val (.int p3), .val (.ref b3), .val (.int (9 : Int32)), .val (.ref (A 9)), .val (.int (0 : Int32)), .unset, .unset]) rfl ?_
      refine XS.aload X87.here hx rfl (hb hby at_232) rfl rfl ?_
      show Steps p.tables e below (T87.setTop (mkF m 234 #[.val (.int p1), .val (.int p2), .val (.int p3), .val (.ref b3), .val (.int (9 : Int32)), .val (.ref (A 9)), .val (.int (0 : Int32)), .unset, .unset] [(.ref (A 9))])) _
      refine st139.trans ?_
      show Steps p.tables e below (T139.setTop (mkF m 237 #[.val (.int p1), .val (.int p2), .val (.int p3), .val (.ref b3), .val (.int (9 : Int32)), .val (.ref (A 9)), .val (.int (0 : Int32)), .unset, .unset] [(.int (0 : Int32))])) _
      refine XS.istore X139.here hx rfl (hb hby at_237) rfl (l' := #[.val (.int p1), .val (.int p2), .val (.int p3), .val (.ref b3), .val (.int (9 : Int32)), .val (.ref (A 9)), .val (.int (0 : Int32)), .val (.int (0 : Int32)), .unset]) rfl ?_
      refine XS.iload X139.here hx rfl (hb hby at_239) rfl ?_
      refine XS.iload X139.here hx rfl (hb hby at_241) rfl ?_
      show Steps p.tables e below (T139.setTop (mkF m 243 #[.val (.int p1), .val (.int p2), .val (.int p3), .val (.ref b3), .val (.int (9 : Int32)), .val (.ref (A 9)), .val (.int (0 : Int32)), .val (.int (0 : Int32)), .unset] [(.int (0 : Int32)), (.int (0 : Int32))])) _
      refine XS.icmpYes X139.here hx rfl (pc0 := 243) (pc' := 248) rfl (hb hby at_243) rfl (teq (by decide : (0 : Int32) = (0 : Int32))).1 (by decide) (by decide) ?_
      show Steps p.tables e below (T139.setTop (mkF m 248 #[.val (.int p1), .val (.int p2), .val (.int p3), .val (.ref b3), .val (.int (9 : Int32)), .val (.ref (A 9)), .val (.int (0 : Int32)), .val (.int (0 : Int32)), .unset] [])) _
      refine XS.iload X139.here hx rfl (hb hby at_248) rfl ?_
      refine XS.ifNo X139.here hx rfl (hb hby at_250) rfl ((if0 _ _).trans (teq (by decide : (0 : Int32) = (0 : Int32))).2) ?_
      show Steps p.tables e below (T139.setTop (mkF m 253 #[.val (.int p1), .val (.int p2), .val (.int p3), .val (.ref b3), .val (.int (9 : Int32)), .val (.ref (A 9)), .val (.int (0 : Int32)), .val (.int (0 : Int32)), .unset] [])) _
      refine XS.iconst X139.here hx rfl (hb hby at_253) ?_
      exact retN X139 hx (t := .boolean) Bd.returns (by simp) (hb hby at_254) hr
    · show LQ n0 _ T139.heap _
      exact ⟨rfl, N139, trivial⟩
  | 10, _, hk89 =>
    obtain ⟨cl140, Ar140, q140, Sz140, Nn140, Hh140, Gg140⟩ := (id V87)
    have hin140 : ¬ ((10 : Int32) < 0 ∨ cl140.slots.size ≤ ((10 : Int32)).toNatClampNeg) := inb_of Sz140 ⟨by decide, by decide⟩
    have hat140 : cl140.slots[((10 : Int32)).toNatClampNeg]? = some (.ref (A 10)) := Has.at Hh140 hin140 rfl
    obtain ⟨cq144, kq144, q144a, q144b, q144c⟩ := isOf hZ e87 (EN.2.2.1.2.2.2.2.2.1.ext OL87.2)
    obtain ⟨_, _, ⟨T144, L144, k144, n144⟩, -, X144, ⟨Lc144, hQ144, l144, y144, z144⟩, st144⟩ := X87.virtualBack hx (y := own_m0) (z := own_m0) hown (mvT hZ (hw _ (List.mem_of_getElem? (i := 61) rfl))) (mvT hZ (hw _ (List.mem_of_getElem? (i := 62) rfl))) (notFace_of_selects (args := #[]) (mvT hZ (hw _ (List.mem_of_getElem? (i := 64) rfl)))) (mvT hZ (hw _ (List.mem_of_getElem? (i := 64) rfl))) (mvT hZ (hw _ (List.mem_of_getElem? (i := 63) rfl))) (by decide) (backOf (W := 0) (rm11 l Z a0 hw [] h87 n0 p1 p2 p3 A K cs EN OL87) hZ (hw _ (List.mem_of_getElem? (i := 65) rfl)) (hw _ (List.mem_of_getElem? (i := 3) rfl)) (by decide) (by decide)) q144a q144c (g := (mkF m 234 #[.val (.int p1), .val (.int p2), .val (.int p3), .val (.ref b3), .val (.int (10 : Int32)), .val (.ref (A 10)), .val (.int (0 : Int32)), .unset, .unset] [(.ref (A 10))])) rfl (by rw [hml]; rfl) (Steps.refl _) (argsL := []) (rest := []) (lenOf own_pd0 rfl) rfl (by show 2 * 0 + _ ≤ _; exact Nat.le_of_eq rfl) (hb hby at_234) (fun _ _ => ⟨rfl, e87, (by decide : 1 + 0 ≤ _), (by decide : 28 + 0 ≤ _)⟩)
    dsimp only [Pt.U, Pt.locs, Pt.cells, Pt.slots] at X144 l144 y144 z144 st144 hQ144
    replace X144 := own_sub X144 l144 y144 z144
    obtain ⟨rfl, N144q, e144⟩ := hQ144
    have N144 := Fr.app NF87 N144q
    obtain ⟨fs, hr, hrun, hended, hW, hsame⟩ := X144.leave (v := some (.int (1 : Int32))) (fun h => by rw [Bd.returns] at h; cases h)
    refine ⟨_, _, pre88 _ ?_, hrun, hended, _, _, rfl, ?_, ⟨_, rfl⟩, hW, hsame.mono (by decide) (by decide)⟩
    · show Steps p.tables e below (T87.setTop (mkF m 203 #[.val (.int p1), .val (.int p2), .val (.int p3), .val (.ref b3), .unset, .unset, .unset, .unset, .unset] [(.int ((p1 &&& (2147483647 : Int32)) % (28 : Int32)))])) _
      rw [hk89]
      show Steps p.tables e below (T87.setTop (mkF m 203 #[.val (.int p1), .val (.int p2), .val (.int p3), .val (.ref b3), .unset, .unset, .unset, .unset, .unset] [(.int (10 : Int32))])) _
      refine XS.istore X87.here hx rfl (hb hby at_203) rfl (l' := #[.val (.int p1), .val (.int p2), .val (.int p3), .val (.ref b3), .val (.int (10 : Int32)), .unset, .unset, .unset, .unset]) rfl ?_
      refine XS.aloadN X87.here hx rfl (hb hby at_205) rfl rfl ?_
      refine XS.iload X87.here hx rfl (hb hby at_206) rfl ?_
      show Steps p.tables e below (T87.setTop (mkF m 208 #[.val (.int p1), .val (.int p2), .val (.int p3), .val (.ref b3), .val (.int (10 : Int32)), .unset, .unset, .unset, .unset] [(.int (10 : Int32)), (.ref b3)])) _
      refine X87.aaload hx (j := (10 : Int32)) (v := (.ref (A 10))) (by rw [e87]; exact Ar140.1) (State.isArrayOf_alike hZ.alike Ar140.2.1) rfl Ar140.2.2 hin140 hat140 (g := (mkF m 208 #[.val (.int p1), .val (.int p2), .val (.int p3), .val (.ref b3), .val (.int (10 : Int32)), .unset, .unset, .unset, .unset] [(.int (10 : Int32)), (.ref b3)])) rfl rfl (hb hby at_208) _ ?_
      show Steps p.tables e below (T87.setTop (mkF m 209 #[.val (.int p1), .val (.int p2), .val (.int p3), .val (.ref b3), .val (.int (10 : Int32)), .unset, .unset, .unset, .unset] [(.ref (A 10))])) _
      refine XS.astore X87.here hx rfl (hb hby at_209) rfl rfl (l' := #[.val (.int p1), .val (.int p2), .val (.int p3), .val (.ref b3), .val (.int (10 : Int32)), .val (.ref (A 10)), .unset, .unset, .unset]) rfl ?_
      refine XS.iload X87.here hx rfl (hb hby at_211) rfl ?_
      refine XS.bipush X87.here hx rfl (hb hby at_213) ?_
      show Steps p.tables e below (T87.setTop (mkF m 215 #[.val (.int p1), .val (.int p2), .val (.int p3), .val (.ref b3), .val (.int (10 : Int32)), .val (.ref (A 10)), .unset, .unset, .unset] [(.int (13 : Int32)), (.int (10 : Int32))])) _
      refine XS.icmpYes X87.here hx rfl (pc0 := 215) (pc' := 229) rfl (hb hby at_215) rfl (tlt (by decide : (10 : Int32) < (13 : Int32))).1 (by decide) (by decide) ?_
      show Steps p.tables e below (T87.setTop (mkF m 229 #[.val (.int p1), .val (.int p2), .val (.int p3), .val (.ref b3), .val (.int (10 : Int32)), .val (.ref (A 10)), .unset, .unset, .unset] [])) _
      refine XS.iconst X87.here hx rfl (hb hby at_229) ?_
      refine XS.istore X87.here hx rfl (hb hby at_230) rfl (l' := #[.val (.int p1), .val (.int p2), .val (.int p3), .val (.ref b3), .val (.int (10 : Int32)), .val (.ref (A 10)), .val (.int (0 : Int32)), .unset, .unset]) rfl ?_
      refine XS.aload X87.here hx rfl (hb hby at_232) rfl rfl ?_
      show Steps p.tables e below (T87.setTop (mkF m 234 #[.val (.int p1), .val (.int p2), .val (.int p3), .val (.ref b3), .val (.int (10 : Int32)), .val (.ref (A 10)), .val (.int (0 : Int32)), .unset, .unset] [(.ref (A 10))])) _
      refine st144.trans ?_
      show Steps p.tables e below (T144.setTop (mkF m 237 #[.val (.int p1), .val (.int p2), .val (.int p3), .val (.ref b3), .val (.int (10 : Int32)), .val (.ref (A 10)), .val (.int (0 : Int32)), .unset, .unset] [(.int (0 : Int32))])) _
      refine XS.istore X144.here hx rfl (hb hby at_237) rfl (l' := #[.val (.int p1), .val (.int p2), .val (.int p3), .val (.ref b3), .val (.int (10 : Int32)), .val (.ref (A 10)), .val (.int (0 : Int32)), .val (.int (0 : Int32)), .unset]) rfl ?_
      refine XS.iload X144.here hx rfl (hb hby at_239) rfl ?_
      refine XS.iload X144.here hx rfl (hb hby at_241) rfl ?_
      show Steps p.tables e below (T144.setTop (mkF m 243 #[.val (.int p1), .val (.int p2), .val (.int p3), .val (.ref b3), .val (.int (10 : Int32)), .val (.ref (A 10)), .val (.int (0 : Int32)), .val (.int (0 : Int32)), .unset] [(.int (0 : Int32)), (.int (0 : Int32))])) _
      refine XS.icmpYes X144.here hx rfl (pc0 := 243) (pc' := 248) rfl (hb hby at_243) rfl (teq (by decide : (0 : Int32) = (0 : Int32))).1 (by decide) (by decide) ?_
      show Steps p.tables e below (T144.setTop (mkF m 248 #[.val (.int p1), .val (.int p2), .val (.int p3), .val (.ref b3), .val (.int (10 : Int32)), .val (.ref (A 10)), .val (.int (0 : Int32)), .val (.int (0 : Int32)), .unset] [])) _
      refine XS.iload X144.here hx rfl (hb hby at_248) rfl ?_
      refine XS.ifNo X144.here hx rfl (hb hby at_250) rfl ((if0 _ _).trans (teq (by decide : (0 : Int32) = (0 : Int32))).2) ?_
      show Steps p.tables e below (T144.setTop (mkF m 253 #[.val (.int p1), .val (.int p2), .val (.int p3), .val (.ref b3), .val (.int (10 : Int32)), .val (.ref (A 10)), .val (.int (0 : Int32)), .val (.int (0 : Int32)), .unset] [])) _
      refine XS.iconst X144.here hx rfl (hb hby at_253) ?_
      exact retN X144 hx (t := .boolean) Bd.returns (by simp) (hb hby at_254) hr
    · show LQ n0 _ T144.heap _
      exact ⟨rfl, N144, trivial⟩
  | 11, _, hk89 =>
    obtain ⟨cl145, Ar145, q145, Sz145, Nn145, Hh145, Gg145⟩ := (id V87)
    have hin145 : ¬ ((11 : Int32) < 0 ∨ cl145.slots.size ≤ ((11 : Int32)).toNatClampNeg) := inb_of Sz145 ⟨by decide, by decide⟩
    have hat145 : cl145.slots[((11 : Int32)).toNatClampNeg]? = some (.ref (A 11)) := Has.at Hh145 hin145 rfl
    obtain ⟨cq149, kq149, q149a, q149b, q149c⟩ := isOf hZ e87 (EN.2.2.1.2.2.2.2.2.2.2.1.ext OL87.2)
    obtain ⟨_, _, ⟨T149, L149, k149, n149⟩, -, X149, ⟨Lc149, hQ149, l149, y149, z149⟩, st149⟩ := X87.virtualBack hx (y := own_m0) (z := own_m0) hown (mvT hZ (hw _ (List.mem_of_getElem? (i := 61) rfl))) (mvT hZ (hw _ (List.mem_of_getElem? (i := 62) rfl))) (notFace_of_selects (args := #[]) (mvT hZ (hw _ (List.mem_of_getElem? (i := 64) rfl)))) (mvT hZ (hw _ (List.mem_of_getElem? (i := 64) rfl))) (mvT hZ (hw _ (List.mem_of_getElem? (i := 63) rfl))) (by decide) (backOf (W := 0) (rm12 l Z a0 hw [] h87 n0 p1 p2 p3 A K cs EN OL87) hZ (hw _ (List.mem_of_getElem? (i := 65) rfl)) (hw _ (List.mem_of_getElem? (i := 3) rfl)) (by decide) (by decide)) q149a q149c (g := (mkF m 234 #[.val (.int p1), .val (.int p2), .val (.int p3), .val (.ref b3), .val (.int (11 : Int32)), .val (.ref (A 11)), .val (.int (0 : Int32)), .unset, .unset] [(.ref (A 11))])) rfl (by rw [hml]; rfl) (Steps.refl _) (argsL := []) (rest := []) (lenOf own_pd0 rfl) rfl (by show 2 * 0 + _ ≤ _; exact Nat.le_of_eq rfl) (hb hby at_234) (fun _ _ => ⟨rfl, e87, (by decide : 1 + 0 ≤ _), (by decide : 28 + 0 ≤ _)⟩)
    dsimp only [Pt.U, Pt.locs, Pt.cells, Pt.slots] at X149 l149 y149 z149 st149 hQ149
    replace X149 := own_sub X149 l149 y149 z149
    obtain ⟨rfl, N149q, e149⟩ := hQ149
    have N149 := Fr.app NF87 N149q
    obtain ⟨fs, hr, hrun, hended, hW, hsame⟩ := X149.leave (v := some (.int (1 : Int32))) (fun h => by rw [Bd.returns] at h; cases h)
    refine ⟨_, _, pre88 _ ?_, hrun, hended, _, _, rfl, ?_, ⟨_, rfl⟩, hW, hsame.mono (by decide) (by decide)⟩
    · show Steps p.tables e below (T87.setTop (mkF m 203 #[.val (.int p1), .val (.int p2), .val (.int p3), .val (.ref b3), .unset, .unset, .unset, .unset, .unset] [(.int ((p1 &&& (2147483647 : Int32)) % (28 : Int32)))])) _
      rw [hk89]
      show Steps p.tables e below (T87.setTop (mkF m 203 #[.val (.int p1), .val (.int p2), .val (.int p3), .val (.ref b3), .unset, .unset, .unset, .unset, .unset] [(.int (11 : Int32))])) _
      refine XS.istore X87.here hx rfl (hb hby at_203) rfl (l' := #[.val (.int p1), .val (.int p2), .val (.int p3), .val (.ref b3), .val (.int (11 : Int32)), .unset, .unset, .unset, .unset]) rfl ?_
      refine XS.aloadN X87.here hx rfl (hb hby at_205) rfl rfl ?_
      refine XS.iload X87.here hx rfl (hb hby at_206) rfl ?_
      show Steps p.tables e below (T87.setTop (mkF m 208 #[.val (.int p1), .val (.int p2), .val (.int p3), .val (.ref b3), .val (.int (11 : Int32)), .unset, .unset, .unset, .unset] [(.int (11 : Int32)), (.ref b3)])) _
      refine X87.aaload hx (j := (11 : Int32)) (v := (.ref (A 11))) (by rw [e87]; exact Ar145.1) (State.isArrayOf_alike hZ.alike Ar145.2.1) rfl Ar145.2.2 hin145 hat145 (g := (mkF m 208 #[.val (.int p1), .val (.int p2), .val (.int p3), .val (.ref b3), .val (.int (11 : Int32)), .unset, .unset, .unset, .unset] [(.int (11 : Int32)), (.ref b3)])) rfl rfl (hb hby at_208) _ ?_
      show Steps p.tables e below (T87.setTop (mkF m 209 #[.val (.int p1), .val (.int p2), .val (.int p3), .val (.ref b3), .val (.int (11 : Int32)), .unset, .unset, .unset, .unset] [(.ref (A 11))])) _
      refine XS.astore X87.here hx rfl (hb hby at_209) rfl rfl (l' := #[.val (.int p1), .val (.int p2), .val (.int p3), .val (.ref b3), .val (.int (11 : Int32)), .val (.ref (A 11)), .unset, .unset, .unset]) rfl ?_
      refine XS.iload X87.here hx rfl (hb hby at_211) rfl ?_
      refine XS.bipush X87.here hx rfl (hb hby at_213) ?_
      show Steps p.tables e below (T87.setTop (mkF m 215 #[.val (.int p1), .val (.int p2), .val (.int p3), .val (.ref b3), .val (.int (11 : Int32)), .val (.ref (A 11)), .unset, .unset, .unset] [(.int (13 : Int32)), (.int (11 : Int32))])) _
      refine XS.icmpYes X87.here hx rfl (pc0 := 215) (pc' := 229) rfl (hb hby at_215) rfl (tlt (by decide : (11 : Int32) < (13 : Int32))).1 (by decide) (by decide) ?_
      show Steps p.tables e below (T87.setTop (mkF m 229 #[.val (.int p1), .val (.int p2), .val (.int p3), .val (.ref b3), .val (.int (11 : Int32)), .val (.ref (A 11)), .unset, .unset, .unset] [])) _
      refine XS.iconst X87.here hx rfl (hb hby at_229) ?_
      refine XS.istore X87.here hx rfl (hb hby at_230) rfl (l' := #[.val (.int p1), .val (.int p2), .val (.int p3), .val (.ref b3), .val (.int (11 : Int32)), .val (.ref (A 11)), .val (.int (0 : Int32)), .unset, .unset]) rfl ?_
      refine XS.aload X87.here hx rfl (hb hby at_232) rfl rfl ?_
      show Steps p.tables e below (T87.setTop (mkF m 234 #[.val (.int p1), .val (.int p2), .val (.int p3), .val (.ref b3), .val (.int (11 : Int32)), .val (.ref (A 11)), .val (.int (0 : Int32)), .unset, .unset] [(.ref (A 11))])) _
      refine st149.trans ?_
      show Steps p.tables e below (T149.setTop (mkF m 237 #[.val (.int p1), .val (.int p2), .val (.int p3), .val (.ref b3), .val (.int (11 : Int32)), .val (.ref (A 11)), .val (.int (0 : Int32)), .unset, .unset] [(.int (0 : Int32))])) _
      refine XS.istore X149.here hx rfl (hb hby at_237) rfl (l' := #[.val (.int p1), .val (.int p2), .val (.int p3), .val (.ref b3), .val (.int (11 : Int32)), .val (.ref (A 11)), .val (.int (0 : Int32)), .val (.int (0 : Int32)), .unset]) rfl ?_
      refine XS.iload X149.here hx rfl (hb hby at_239) rfl ?_
      refine XS.iload X149.here hx rfl (hb hby at_241) rfl ?_
      show Steps p.tables e below (T149.setTop (mkF m 243 #[.val (.int p1), .val (.int p2), .val (.int p3), .val (.ref b3), .val (.int (11 : Int32)), .val (.ref (A 11)), .val (.int (0 : Int32)), .val (.int (0 : Int32)), .unset] [(.int (0 : Int32)), (.int (0 : Int32))])) _
      refine XS.icmpYes X149.here hx rfl (pc0 := 243) (pc' := 248) rfl (hb hby at_243) rfl (teq (by decide : (0 : Int32) = (0 : Int32))).1 (by decide) (by decide) ?_
      show Steps p.tables e below (T149.setTop (mkF m 248 #[.val (.int p1), .val (.int p2), .val (.int p3), .val (.ref b3), .val (.int (11 : Int32)), .val (.ref (A 11)), .val (.int (0 : Int32)), .val (.int (0 : Int32)), .unset] [])) _
      refine XS.iload X149.here hx rfl (hb hby at_248) rfl ?_
      refine XS.ifNo X149.here hx rfl (hb hby at_250) rfl ((if0 _ _).trans (teq (by decide : (0 : Int32) = (0 : Int32))).2) ?_
      show Steps p.tables e below (T149.setTop (mkF m 253 #[.val (.int p1), .val (.int p2), .val (.int p3), .val (.ref b3), .val (.int (11 : Int32)), .val (.ref (A 11)), .val (.int (0 : Int32)), .val (.int (0 : Int32)), .unset] [])) _
      refine XS.iconst X149.here hx rfl (hb hby at_253) ?_
      exact retN X149 hx (t := .boolean) Bd.returns (by simp) (hb hby at_254) hr
    · show LQ n0 _ T149.heap _
      exact ⟨rfl, N149, trivial⟩
  | 12, _, hk89 =>
    obtain ⟨cl150, Ar150, q150, Sz150, Nn150, Hh150, Gg150⟩ := (id V87)
    have hin150 : ¬ ((12 : Int32) < 0 ∨ cl150.slots.size ≤ ((12 : Int32)).toNatClampNeg) := inb_of Sz150 ⟨by decide, by decide⟩
    have hat150 : cl150.slots[((12 : Int32)).toNatClampNeg]? = some (.ref (A 12)) := Has.at Hh150 hin150 rfl
    obtain ⟨cq154, kq154, q154a, q154b, q154c⟩ := isOf hZ e87 (EN.2.2.2.1.2.1.ext OL87.2)
    obtain ⟨_, _, ⟨T154, L154, k154, n154⟩, -, X154, ⟨Lc154, hQ154, l154, y154, z154⟩, st154⟩ := X87.virtualBack hx (y := own_m0) (z := own_m0) hown (mvT hZ (hw _ (List.mem_of_getElem? (i := 61) rfl))) (mvT hZ (hw _ (List.mem_of_getElem? (i := 62) rfl))) (notFace_of_selects (args := #[]) (mvT hZ (hw _ (List.mem_of_getElem? (i := 64) rfl)))) (mvT hZ (hw _ (List.mem_of_getElem? (i := 64) rfl))) (mvT hZ (hw _ (List.mem_of_getElem? (i := 63) rfl))) (by decide) (backOf (W := 0) (rm13 l Z a0 hw [] h87 n0 p1 p2 p3 A K cs EN OL87) hZ (hw _ (List.mem_of_getElem? (i := 65) rfl)) (hw _ (List.mem_of_getElem? (i := 3) rfl)) (by decide) (by decide)) q154a q154c (g := (mkF m 234 #[.val (.int p1), .val (.int p2), .val (.int p3), .val (.ref b3), .val (.int (12 : Int32)), .val (.ref (A 12)), .val (.int (0 : Int32)), .unset, .unset] [(.ref (A 12))])) rfl (by rw [hml]; rfl) (Steps.refl _) (argsL := []) (rest := []) (lenOf own_pd0 rfl) rfl (by show 2 * 0 + _ ≤ _; exact Nat.le_of_eq rfl) (hb hby at_234) (fun _ _ => ⟨rfl, e87, (by decide : 1 + 0 ≤ _), (by decide : 28 + 0 ≤ _)⟩)
    dsimp only [Pt.U, Pt.locs, Pt.cells, Pt.slots] at X154 l154 y154 z154 st154 hQ154
    replace X154 := own_sub X154 l154 y154 z154
    obtain ⟨rfl, N154q, e154⟩ := hQ154
    have N154 := Fr.app NF87 N154q
    obtain ⟨fs, hr, hrun, hended, hW, hsame⟩ := X154.leave (v := some (.int (1 : Int32))) (fun h => by rw [Bd.returns] at h; cases h)
    refine ⟨_, _, pre88 _ ?_, hrun, hended, _, _, rfl, ?_, ⟨_, rfl⟩, hW, hsame.mono (by decide) (by decide)⟩
    · show Steps p.tables e below (T87.setTop (mkF m 203 #[.val (.int p1), .val (.int p2), .val (.int p3), .val (.ref b3), .unset, .unset, .unset, .unset, .unset] [(.int ((p1 &&& (2147483647 : Int32)) % (28 : Int32)))])) _
      rw [hk89]
      show Steps p.tables e below (T87.setTop (mkF m 203 #[.val (.int p1), .val (.int p2), .val (.int p3), .val (.ref b3), .unset, .unset, .unset, .unset, .unset] [(.int (12 : Int32))])) _
      refine XS.istore X87.here hx rfl (hb hby at_203) rfl (l' := #[.val (.int p1), .val (.int p2), .val (.int p3), .val (.ref b3), .val (.int (12 : Int32)), .unset, .unset, .unset, .unset]) rfl ?_
      refine XS.aloadN X87.here hx rfl (hb hby at_205) rfl rfl ?_
      refine XS.iload X87.here hx rfl (hb hby at_206) rfl ?_
      show Steps p.tables e below (T87.setTop (mkF m 208 #[.val (.int p1), .val (.int p2), .val (.int p3), .val (.ref b3), .val (.int (12 : Int32)), .unset, .unset, .unset, .unset] [(.int (12 : Int32)), (.ref b3)])) _
      refine X87.aaload hx (j := (12 : Int32)) (v := (.ref (A 12))) (by rw [e87]; exact Ar150.1) (State.isArrayOf_alike hZ.alike Ar150.2.1) rfl Ar150.2.2 hin150 hat150 (g := (mkF m 208 #[.val (.int p1), .val (.int p2), .val (.int p3), .val (.ref b3), .val (.int (12 : Int32)), .unset, .unset, .unset, .unset] [(.int (12 : Int32)), (.ref b3)])) rfl rfl (hb hby at_208) _ ?_
      show Steps p.tables e below (T87.setTop (mkF m 209 #[.val (.int p1), .val (.int p2), .val (.int p3), .val (.ref b3), .val (.int (12 : Int32)), .unset, .unset, .unset, .unset] [(.ref (A 12))])) _
      refine XS.astore X87.here hx rfl (hb hby at_209) rfl rfl (l' := #[.val (.int p1), .val (.int p2), .val (.int p3), .val (.ref b3), .val (.int (12 : Int32)), .val (.ref (A 12)), .unset, .unset, .unset]) rfl ?_
      refine XS.iload X87.here hx rfl (hb hby at_211) rfl ?_
      refine XS.bipush X87.here hx rfl (hb hby at_213) ?_
      show Steps p.tables e below (T87.setTop (mkF m 215 #[.val (.int p1), .val (.int p2), .val (.int p3), .val (.ref b3), .val (.int (12 : Int32)), .val (.ref (A 12)), .unset, .unset, .unset] [(.int (13 : Int32)), (.int (12 : Int32))])) _
      refine XS.icmpYes X87.here hx rfl (pc0 := 215) (pc' := 229) rfl (hb hby at_215) rfl (tlt (by decide : (12 : Int32) < (13 : Int32))).1 (by decide) (by decide) ?_
      show Steps p.tables e below (T87.setTop (mkF m 229 #[.val (.int p1), .val (.int p2), .val (.int p3), .val (.ref b3), .val (.int (12 : Int32)), .val (.ref (A 12)), .unset, .unset, .unset] [])) _
      refine XS.iconst X87.here hx rfl (hb hby at_229) ?_
      refine XS.istore X87.here hx rfl (hb hby at_230) rfl (l' := #[.val (.int p1), .val (.int p2), .val (.int p3), .val (.ref b3), .val (.int (12 : Int32)), .val (.ref (A 12)), .val (.int (0 : Int32)), .unset, .unset]) rfl ?_
      refine XS.aload X87.here hx rfl (hb hby at_232) rfl rfl ?_
      show Steps p.tables e below (T87.setTop (mkF m 234 #[.val (.int p1), .val (.int p2), .val (.int p3), .val (.ref b3), .val (.int (12 : Int32)), .val (.ref (A 12)), .val (.int (0 : Int32)), .unset, .unset] [(.ref (A 12))])) _
      refine st154.trans ?_
      show Steps p.tables e below (T154.setTop (mkF m 237 #[.val (.int p1), .val (.int p2), .val (.int p3), .val (.ref b3), .val (.int (12 : Int32)), .val (.ref (A 12)), .val (.int (0 : Int32)), .unset, .unset] [(.int (0 : Int32))])) _
      refine XS.istore X154.here hx rfl (hb hby at_237) rfl (l' := #[.val (.int p1), .val (.int p2), .val (.int p3), .val (.ref b3), .val (.int (12 : Int32)), .val (.ref (A 12)), .val (.int (0 : Int32)), .val (.int (0 : Int32)), .unset]) rfl ?_
      refine XS.iload X154.here hx rfl (hb hby at_239) rfl ?_
      refine XS.iload X154.here hx rfl (hb hby at_241) rfl ?_
      show Steps p.tables e below (T154.setTop (mkF m 243 #[.val (.int p1), .val (.int p2), .val (.int p3), .val (.ref b3), .val (.int (12 : Int32)), .val (.ref (A 12)), .val (.int (0 : Int32)), .val (.int (0 : Int32)), .unset] [(.int (0 : Int32)), (.int (0 : Int32))])) _
      refine XS.icmpYes X154.here hx rfl (pc0 := 243) (pc' := 248) rfl (hb hby at_243) rfl (teq (by decide : (0 : Int32) = (0 : Int32))).1 (by decide) (by decide) ?_
      show Steps p.tables e below (T154.setTop (mkF m 248 #[.val (.int p1), .val (.int p2), .val (.int p3), .val (.ref b3), .val (.int (12 : Int32)), .val (.ref (A 12)), .val (.int (0 : Int32)), .val (.int (0 : Int32)), .unset] [])) _
      refine XS.iload X154.here hx rfl (hb hby at_248) rfl ?_
      refine XS.ifNo X154.here hx rfl (hb hby at_250) rfl ((if0 _ _).trans (teq (by decide : (0 : Int32) = (0 : Int32))).2) ?_
      show Steps p.tables e below (T154.setTop (mkF m 253 #[.val (.int p1), .val (.int p2), .val (.int p3), .val (.ref b3), .val (.int (12 : Int32)), .val (.ref (A 12)), .val (.int (0 : Int32)), .val (.int (0 : Int32)), .unset] [])) _
      refine XS.iconst X154.here hx rfl (hb hby at_253) ?_
      exact retN X154 hx (t := .boolean) Bd.returns (by simp) (hb hby at_254) hr
    · show LQ n0 _ T154.heap _
      exact ⟨rfl, N154, trivial⟩
  | 13, _, hk89 =>
    obtain ⟨cl155, Ar155, q155, Sz155, Nn155, Hh155, Gg155⟩ := (id V87)
    have hin155 : ¬ ((13 : Int32) < 0 ∨ cl155.slots.size ≤ ((13 : Int32)).toNatClampNeg) := inb_of Sz155 ⟨by decide, by decide⟩
    have hat155 : cl155.slots[((13 : Int32)).toNatClampNeg]? = some (.ref (A 13)) := Has.at Hh155 hin155 rfl
    obtain ⟨cq157, kq157, q157a, q157b, q157c⟩ := isOf hZ e87 (EN.2.2.2.1.2.2.2.1.ext OL87.2)
    obtain ⟨_, _, ⟨T157, L157, k157, n157⟩, -, X157, ⟨Lc157, hQ157, l157, y157, z157⟩, st157⟩ := X87.virtualBack hx (y := own_m0) (z := own_m0) hown (mvT hZ (hw _ (List.mem_of_getElem? (i := 61) rfl))) (mvT hZ (hw _ (List.mem_of_getElem? (i := 62) rfl))) (notFace_of_selects (args := #[]) (mvT hZ (hw _ (List.mem_of_getElem? (i := 64) rfl)))) (mvT hZ (hw _ (List.mem_of_getElem? (i := 64) rfl))) (mvT hZ (hw _ (List.mem_of_getElem? (i := 63) rfl))) (by decide) (backOf (W := 0) (rm14 l Z a0 hw [] h87 n0 p1 p2 p3 A K cs EN OL87) hZ (hw _ (List.mem_of_getElem? (i := 65) rfl)) (hw _ (List.mem_of_getElem? (i := 3) rfl)) (by decide) (by decide)) q157a q157c (g := (mkF m 234 #[.val (.int p1), .val (.int p2), .val (.int p3), .val (.ref b3), .val (.int (13 : Int32)), .val (.ref (A 13)), .val (.int (1 : Int32)), .unset, .unset] [(.ref (A 13))])) rfl (by rw [hml]; rfl) (Steps.refl _) (argsL := []) (rest := []) (lenOf own_pd0 rfl) rfl (by show 2 * 0 + _ ≤ _; exact Nat.le_of_eq rfl) (hb hby at_234) (fun _ _ => ⟨rfl, e87, (by decide : 1 + 0 ≤ _), (by decide : 28 + 0 ≤ _)⟩)
    dsimp only [Pt.U, Pt.locs, Pt.cells, Pt.slots] at X157 l157 y157 z157 st157 hQ157
    replace X157 := own_sub X157 l157 y157 z157
    obtain ⟨rfl, N157q, e157⟩ := hQ157
    have N157 := Fr.app NF87 N157q
    obtain ⟨T158, h158, k158, X158, e158, E158, A158, st158⟩ := newP X157 hx hZ (hw _ (List.mem_of_getElem? (i := 69) rfl)) e157 (g := (mkF m 256 #[.val (.int p1), .val (.int p2), .val (.int p3), .val (.ref b3), .val (.int (13 : Int32)), .val (.ref (A 13)), .val (.int (1 : Int32)), .val (.int (1 : Int32)), .unset] [(.int (3 : Int32))])) rfl (hb hby at_256) rfl (by decide) (cap := 3) (by decide) (by decide) (by decide) (by decide)
    obtain ⟨b158, g158⟩ : ∃ z, z = h87.size := ⟨_, rfl⟩
    rw [← g158] at A158 st158
    have gn_b158 : n0 ≤ b158 := Nat.le_trans (OL87.1 ▸ OL87.2.1) (Nat.le_of_eq g158.symm)
    have sz_b158 : h0.size ≤ b158 := Nat.le_trans KK87.1 (Nat.le_of_eq g158.symm)
    have lt_b3_b158 : b3 < b158 := Nat.lt_of_lt_of_le V87.lt (Nat.le_of_eq g158.symm)
    have OL158 : Old Z n0 h158 := OL87.ext E158
    have KK158 : Keep h0 h158 [] := KK87.ext E158
    have V158 : Arv Z h158 b158 k158 .char (3 : Int32) [] (.int (0 : Int32)) := Arv.new A158 (by decide)
    obtain ⟨_, _, ⟨T159, L159, k159, n159⟩, -, X159, ⟨Lc159, hQ159, l159, y159, z159⟩, st159⟩ := Jvm.LawKit.callS X158 hx (y := own_m11) hown (mvT hZ (hw _ (List.mem_of_getElem? (i := 70) rfl))) (mvT hZ (hw _ (List.mem_of_getElem? (i := 71) rfl))) (mvT hZ (hw _ (List.mem_of_getElem? (i := 72) rfl))) (mvT hZ (hw _ (List.mem_of_getElem? (i := 73) rfl))) (by decide) (backOf (W := 2) (rmN l Z a0 hw [] h158 n0 p2 OL158) hZ (hw _ (List.mem_of_getElem? (i := 73) rfl)) (hw _ (List.mem_of_getElem? (i := 72) rfl)) (by decide) (by decide)) (g := (mkF m 264 #[.val (.int p1), .val (.int p2), .val (.int p3), .val (.ref b3), .val (.int (13 : Int32)), .val (.ref (A 13)), .val (.int (1 : Int32)), .val (.int (1 : Int32)), .val (.ref b158)] [(.int p2), (.int (0 : Int32)), (.ref b158)])) rfl (by rw [hml]; rfl) (argsL := [(.int p2)]) (rest := [(.int (0 : Int32)), (.ref b158)]) (lenOf own_pd1 rfl) rfl (by show 2 * 0 + _ ≤ _; exact Nat.le_of_eq rfl) (hb hby at_264) (fun _ _ => ⟨rfl, e158, (by decide : 2 + 0 ≤ _), (by decide : 31 + 0 ≤ _)⟩)
    dsimp only [Pt.U, Pt.locs, Pt.cells, Pt.slots] at X159 l159 y159 z159 st159 hQ159
    replace X159 := own_sub X159 l159 y159 z159
    obtain ⟨rfl, N159q, e159⟩ := hQ159
    have N159 := Fr.app N157 N159q
    obtain ⟨cl160, Ar160, q160, Sz160, Nn160, Hh160, Gg160⟩ := (id (Arv.pad V158 (pad_rep [] (.int (0 : Int32)) 1)))
    have hin160 : ¬ ((0 : Int32) < 0 ∨ cl160.slots.size ≤ ((0 : Int32)).toNatClampNeg) := inb_of Sz160 ⟨by decide, by decide⟩
    obtain ⟨T161, h161, X161, e161, W161, st161⟩ := stC X159 hx hZ e159 Ar160 (j := (0 : Int32)) hin160 (g := (mkF m 267 #[.val (.int p1), .val (.int p2), .val (.int p3), .val (.ref b3), .val (.int (13 : Int32)), .val (.ref (A 13)), .val (.int (1 : Int32)), .val (.int (1 : Int32)), .val (.ref b158)] [(.int (own_C p2)), (.int (0 : Int32)), (.ref b158)])) rfl rfl (hb hby at_267)
    have NF161 := Fr.snoc X161 N159 gn_b158
    have OL161 : Old Z n0 h161 := OL158.wr W161 gn_b158
    have KK161 : Keep h0 h161 [] := KK158.wr W161 (Or.inr sz_b158)
    have V161 : Arv Z h161 b158 k158 .char (3 : Int32) [(.int (nar .char (own_C p2)))] (.int (0 : Int32)) := Arv.set Ar160 q160 Sz160 Nn160 Hh160 Gg160 (fits_nar_char _) W161 0 (by decide) (by decide : 0 < 1)
    obtain ⟨cl162, Ar162, q162, Sz162, Nn162, Hh162, Gg162⟩ := (id (Arv.pad V161 (pad_rep [(.int (nar .char (own_C p2)))] (.int (0 : Int32)) 1)))
    have hin162 : ¬ ((1 : Int32) < 0 ∨ cl162.slots.size ≤ ((1 : Int32)).toNatClampNeg) := inb_of Sz162 ⟨by decide, by decide⟩
    obtain ⟨T163, h163, X163, e163, W163, st163⟩ := stC X161 hx hZ e161 Ar162 (j := (1 : Int32)) hin162 (g := (mkF m 273 #[.val (.int p1), .val (.int p2), .val (.int p3), .val (.ref b3), .val (.int (13 : Int32)), .val (.ref (A 13)), .val (.int (1 : Int32)), .val (.int (1 : Int32)), .val (.ref b158)] [(.int (32 : Int32)), (.int (1 : Int32)), (.ref b158)])) rfl rfl (hb hby at_273)
    have NF163 := Fr.snoc X163 NF161 gn_b158
    have OL163 : Old Z n0 h163 := OL161.wr W163 gn_b158
    have KK163 : Keep h0 h163 [] := KK161.wr W163 (Or.inr sz_b158)
    have V163 : Arv Z h163 b158 k158 .char (3 : Int32) [(.int (nar .char (own_C p2))), (.int (32 : Int32))] (.int (0 : Int32)) := Arv.set Ar162 q162 Sz162 Nn162 Hh162 Gg162 (fits_nar_char _) W163 1 (by decide) (by decide : 1 < 2)
    obtain ⟨_, _, ⟨T164, L164, k164, n164⟩, -, X164, ⟨Lc164, hQ164, l164, y164, z164⟩, st164⟩ := Jvm.LawKit.callS X163 hx (y := own_m11) hown (mvT hZ (hw _ (List.mem_of_getElem? (i := 70) rfl))) (mvT hZ (hw _ (List.mem_of_getElem? (i := 71) rfl))) (mvT hZ (hw _ (List.mem_of_getElem? (i := 72) rfl))) (mvT hZ (hw _ (List.mem_of_getElem? (i := 73) rfl))) (by decide) (backOf (W := 2) (rmN l Z a0 hw [] h163 n0 p3 OL163) hZ (hw _ (List.mem_of_getElem? (i := 73) rfl)) (hw _ (List.mem_of_getElem? (i := 72) rfl)) (by decide) (by decide)) (g := (mkF m 278 #[.val (.int p1), .val (.int p2), .val (.int p3), .val (.ref b3), .val (.int (13 : Int32)), .val (.ref (A 13)), .val (.int (1 : Int32)), .val (.int (1 : Int32)), .val (.ref b158)] [(.int p3), (.int (2 : Int32)), (.ref b158)])) rfl (by rw [hml]; rfl) (argsL := [(.int p3)]) (rest := [(.int (2 : Int32)), (.ref b158)]) (lenOf own_pd1 rfl) rfl (by show 2 * 0 + _ ≤ _; exact Nat.le_of_eq rfl) (hb hby at_278) (fun _ _ => ⟨rfl, e163, (by decide : 2 + 0 ≤ _), (by decide : 31 + 0 ≤ _)⟩)
    dsimp only [Pt.U, Pt.locs, Pt.cells, Pt.slots] at X164 l164 y164 z164 st164 hQ164
    replace X164 := own_sub X164 l164 y164 z164
    obtain ⟨rfl, N164q, e164⟩ := hQ164
    have N164 := Fr.app NF163 N164q
    obtain ⟨cl165, Ar165, q165, Sz165, Nn165, Hh165, Gg165⟩ := (id (Arv.pad V163 (pad_rep [(.int (nar .char (own_C p2))), (.int (32 : Int32))] (.int (0 : Int32)) 1)))
    have hin165 : ¬ ((2 : Int32) < 0 ∨ cl165.slots.size ≤ ((2 : Int32)).toNatClampNeg) := inb_of Sz165 ⟨by decide, by decide⟩
    obtain ⟨T166, h166, X166, e166, W166, st166⟩ := stC X164 hx hZ e164 Ar165 (j := (2 : Int32)) hin165 (g := (mkF m 281 #[.val (.int p1), .val (.int p2), .val (.int p3), .val (.ref b3), .val (.int (13 : Int32)), .val (.ref (A 13)), .val (.int (1 : Int32)), .val (.int (1 : Int32)), .val (.ref b158)] [(.int (own_C p3)), (.int (2 : Int32)), (.ref b158)])) rfl rfl (hb hby at_281)
    have NF166 := Fr.snoc X166 N164 gn_b158
    have OL166 : Old Z n0 h166 := OL163.wr W166 gn_b158
    have KK166 : Keep h0 h166 [] := KK163.wr W166 (Or.inr sz_b158)
    have V166 : Arv Z h166 b158 k158 .char (3 : Int32) [(.int (nar .char (own_C p2))), (.int (32 : Int32)), (.int (nar .char (own_C p3)))] (.int (0 : Int32)) := Arv.set Ar165 q165 Sz165 Nn165 Hh165 Gg165 (fits_nar_char _) W166 2 (by decide) (by decide : 2 < 3)
    obtain ⟨T167, h167, X167, e167, E167, A167, D167, -, st167⟩ := newO X166 hx hZ hown (hw _ (List.mem_of_getElem? (i := 74) rfl)) (hw _ (List.mem_of_getElem? (i := 75) rfl)) (hw _ (List.mem_of_getElem? (i := 76) rfl)) e166 (g := (mkF m 284 #[.val (.int p1), .val (.int p2), .val (.int p3), .val (.ref b3), .val (.int (13 : Int32)), .val (.ref (A 13)), .val (.int (1 : Int32)), .val (.int (1 : Int32)), .val (.ref b158)] [(.ref (A 13))])) rfl (hb hby at_284) (by decide) (by decide)
    obtain ⟨b167, g167⟩ : ∃ z, z = h166.size := ⟨_, rfl⟩
    rw [← g167] at A167 D167 st167
    have gn_b167 : n0 ≤ b167 := Nat.le_trans (OL166.1 ▸ OL166.2.1) (Nat.le_of_eq g167.symm)
    have sz_b167 : h0.size ≤ b167 := Nat.le_trans KK166.1 (Nat.le_of_eq g167.symm)
    have fx168 : Arv Z h166 b3 k3 (.object "com/example/tallywire/tallywire/wire/FieldType") (28 : Int32) [(.ref (A 0)), (.ref (A 1)), (.ref (A 2)), (.ref (A 3)), (.ref (A 4)), (.ref (A 5)), (.ref (A 6)), (.ref (A 7)), (.ref (A 8)), (.ref (A 9)), (.ref (A 10)), (.ref (A 11)), (.ref (A 12)), (.ref (A 13)), (.ref (A 14)), (.ref (A 15)), (.ref (A 16)), (.ref (A 17)), (.ref (A 18)), (.ref (A 19)), (.ref (A 20)), (.ref (A 21)), (.ref (A 22)), (.ref (A 23)), (.ref (A 24)), (.ref (A 25)), (.ref (A 26)), (.ref (A 27))] .null := ((((V87.ext E158).other W161 (Nat.ne_of_lt lt_b3_b158)).other W163 (Nat.ne_of_lt lt_b3_b158)).other W166 (Nat.ne_of_lt lt_b3_b158))
    have lt_b3_b167 : b3 < b167 := Nat.lt_of_lt_of_le fx168.lt (Nat.le_of_eq g167.symm)
    have lt_b158_b167 : b158 < b167 := Nat.lt_of_lt_of_le V166.lt (Nat.le_of_eq g167.symm)
    have OL167 : Old Z n0 h167 := OL166.ext E167
    have KK167 : Keep h0 h167 [] := KK166.ext E167
    have F167_coder : Fld Z h167 b167 "java/lang/String" "coder" "B" (.int (0 : Int32)) := D167 (Or.inr (hw _ (List.mem_of_getElem? (i := 100) rfl))) (ty := .byte) (by decide)
    have F167_value : Fld Z h167 b167 "java/lang/String" "value" "[B" .null := D167 (Or.inr (hw _ (List.mem_of_getElem? (i := 102) rfl))) (ty := (.array .byte)) (by decide)
    have fx199 : Arv Z h167 b158 k158 .char (3 : Int32) [(.int (nar .char (own_C p2))), (.int (32 : Int32)), (.int (nar .char (own_C p3)))] (.int (0 : Int32)) := (V166.ext E167)
    have fx200 : Arv Z h167 b3 k3 (.object "com/example/tallywire/tallywire/wire/FieldType") (28 : Int32) [(.ref (A 0)), (.ref (A 1)), (.ref (A 2)), (.ref (A 3)), (.ref (A 4)), (.ref (A 5)), (.ref (A 6)), (.ref (A 7)), (.ref (A 8)), (.ref (A 9)), (.ref (A 10)), (.ref (A 11)), (.ref (A 12)), (.ref (A 13)), (.ref (A 14)), (.ref (A 15)), (.ref (A 16)), (.ref (A 17)), (.ref (A 18)), (.ref (A 19)), (.ref (A 20)), (.ref (A 21)), (.ref (A 22)), (.ref (A 23)), (.ref (A 24)), (.ref (A 25)), (.ref (A 26)), (.ref (A 27))] .null := (fx168.ext E167)
    obtain ⟨_, _, ⟨T201, L201, k201, n201⟩, -, X201, ⟨Lc201, hQ201, l201, y201, z201⟩, st201⟩ := X167.specialBack hx (y := own_m7) rfl hown (mvT hZ (hw _ (List.mem_of_getElem? (i := 77) rfl))) (mvT hZ (hw _ (List.mem_of_getElem? (i := 78) rfl))) (mvT hZ (hw _ (List.mem_of_getElem? (i := 79) rfl))) (by decide) (backOf (W := 2) (rm15 l Z a0 hw [] h167 n0 p1 p2 p3 A K cs b3 b158 b167 k158 k3 EN OL167 fx199 fx200 A167 F167_coder F167_value gn_b167) hZ (hw _ (List.mem_of_getElem? (i := 79) rfl)) (hw _ (List.mem_of_getElem? (i := 76) rfl)) (by decide) (by decide)) (g := (mkF m 290 #[.val (.int p1), .val (.int p2), .val (.int p3), .val (.ref b3), .val (.int (13 : Int32)), .val (.ref (A 13)), .val (.int (1 : Int32)), .val (.int (1 : Int32)), .val (.ref b158)] [(.ref b158), (.ref b167), (.ref b167), (.ref (A 13))])) rfl (by rw [hml]; rfl) (Steps.refl _) (a := b167) (argsL := [(.ref b158)]) (rest := [(.ref b167), (.ref (A 13))]) (lenOf own_pd6 rfl) rfl (by show 2 * 0 + _ ≤ _; exact Nat.le_of_eq rfl) (hb hby at_290) (fun _ _ => ⟨rfl, e167, (by decide : 3 + 1 ≤ _), (by decide : 35 + 3 ≤ _)⟩)
    dsimp only [Pt.U, Pt.locs, Pt.cells, Pt.slots] at X201 l201 y201 z201 st201 hQ201
    replace X201 := own_sub X201 l201 y201 z201
    obtain ⟨b201_b198_b186_b172, k201_k198_k186_k172, rfl, N201q, K201c, ⟨gn_b201_b198_b186_b172, szc_b201_b198_b186_b172⟩, f201_0, f201_1, f201_2, f201_3⟩ := hQ201
    have N201 := Fr.app NF166 N201q
    have lt_b3_b201_b198_b186_b172 : b3 < b201_b198_b186_b172 := Nat.lt_of_lt_of_le fx200.lt szc_b201_b198_b186_b172
    have lt_b158_b201_b198_b186_b172 : b158 < b201_b198_b186_b172 := Nat.lt_of_lt_of_le fx199.lt szc_b201_b198_b186_b172
    have lt_b167_b201_b198_b186_b172 : b167 < b201_b198_b186_b172 := Nat.lt_of_lt_of_le A167.lt szc_b201_b198_b186_b172
    have sz_b201_b198_b186_b172 : h0.size ≤ b201_b198_b186_b172 := Nat.le_trans KK167.1 szc_b201_b198_b186_b172
    have OL201 : Old Z n0 T201.heap := OL167.keep K201c (allS gn_b167 all0)
    have KK201 : Keep h0 T201.heap [] := KK167.trans K201c (allS (Or.inr sz_b167) all0)
    obtain ⟨cq210, kq210, q210a, q210b, q210c⟩ := isOf hZ rfl (EN.2.2.2.1.2.2.2.1.ext OL201.2)
    obtain ⟨_, _, ⟨T210, L210, k210, n210⟩, -, X210, ⟨Lc210, hQ210, l210, y210, z210⟩, st210⟩ := X201.virtualBack hx (y := own_m3) (z := own_m3) hown (mvT hZ (hw _ (List.mem_of_getElem? (i := 103) rfl))) (mvT hZ (hw _ (List.mem_of_getElem? (i := 104) rfl))) (notFace_of_selects (args := #[]) (mvT hZ (hw _ (List.mem_of_getElem? (i := 106) rfl)))) (mvT hZ (hw _ (List.mem_of_getElem? (i := 106) rfl))) (mvT hZ (hw _ (List.mem_of_getElem? (i := 105) rfl))) (by decide) (backOf (W := 0) (rm20 l Z a0 hw [] T201.heap n0 p1 p2 p3 A K cs b167 b201_b198_b186_b172 k201_k198_k186_k172 EN OL201 f201_0 f201_2 f201_3 f201_1) hZ (hw _ (List.mem_of_getElem? (i := 107) rfl)) (hw _ (List.mem_of_getElem? (i := 3) rfl)) (by decide) (by decide)) q210a q210c (g := (mkF m 293 #[.val (.int p1), .val (.int p2), .val (.int p3), .val (.ref b3), .val (.int (13 : Int32)), .val (.ref (A 13)), .val (.int (1 : Int32)), .val (.int (1 : Int32)), .val (.ref b158)] [(.ref b167), (.ref (A 13))])) rfl (by rw [hml]; rfl) (Steps.refl _) (argsL := [(.ref b167)]) (rest := []) (lenOf own_pd9 rfl) rfl (by show 2 * 0 + _ ≤ _; exact Nat.le_of_eq rfl) (hb hby at_293) (fun _ _ => ⟨rfl, rfl, (by decide : 4 + 0 ≤ _), (by decide : 38 + 0 ≤ _)⟩)
    dsimp only [Pt.U, Pt.locs, Pt.cells, Pt.slots] at X210 l210 y210 z210 st210 hQ210
    replace X210 := own_sub X210 l210 y210 z210
    obtain ⟨rfl, N210q, e210⟩ := hQ210
    have N210 := Fr.app N201 N210q
    obtain ⟨fs, hr, hrun, hended, hW, hsame⟩ := X210.leave (v := some (.int (1 : Int32))) (fun h => by rw [Bd.returns] at h; cases h)
    refine ⟨_, _, pre88 _ ?_, hrun, hended, _, _, rfl, ?_, ⟨_, rfl⟩, hW, hsame.mono (by decide) (by decide)⟩
    · show Steps p.tables e below (T87.setTop (mkF m 203 #[.val (.int p1), .val (.int p2), .val (.int p3), .val (.ref b3), .unset, .unset, .unset, .unset, .unset] [(.int ((p1 &&& (2147483647 : Int32)) % (28 : Int32)))])) _
      rw [hk89]
      show Steps p.tables e below (T87.setTop (mkF m 203 #[.val (.int p1), .val (.int p2), .val (.int p3), .val (.ref b3), .unset, .unset, .unset, .unset, .unset] [(.int (13 : Int32))])) _
      refine XS.istore X87.here hx rfl (hb hby at_203) rfl (l' := #[.val (.int p1), .val (.int p2), .val (.int p3), .val (.ref b3), .val (.int (13 : Int32)), .unset, .unset, .unset, .unset]) rfl ?_
      refine XS.aloadN X87.here hx rfl (hb hby at_205) rfl rfl ?_
      refine XS.iload X87.here hx rfl (hb hby at_206) rfl ?_
      show Steps p.tables e below (T87.setTop (mkF m 208 #[.val (.int p1), .val (.int p2), .val (.int p3), .val (.ref b3), .val (.int (13 : Int32)), .unset, .unset, .unset, .unset] [(.int (13 : Int32)), (.ref b3)])) _
      refine X87.aaload hx (j := (13 : Int32)) (v := (.ref (A 13))) (by rw [e87]; exact Ar155.1) (State.isArrayOf_alike hZ.alike Ar155.2.1) rfl Ar155.2.2 hin155 hat155 (g := (mkF m 208 #[.val (.int p1), .val (.int p2), .val (.int p3), .val (.ref b3), .val (.int (13 : Int32)), .unset, .unset, .unset, .unset] [(.int (13 : Int32)), (.ref b3)])) rfl rfl (hb hby at_208) _ ?_
      show Steps p.tables e below (T87.setTop (mkF m 209 #[.val (.int p1), .val (.int p2), .val (.int p3), .val (.ref b3), .val (.int (13 : Int32)), .unset, .unset, .unset, .unset] [(.ref (A 13))])) _
      refine XS.astore X87.here hx rfl (hb hby at_209) rfl rfl (l' := #[.val (.int p1), .val (.int p2), .val (.int p3), .val (.ref b3), .val (.int (13 : Int32)), .val (.ref (A 13)), .unset, .unset, .unset]) rfl ?_
      refine XS.iload X87.here hx rfl (hb hby at_211) rfl ?_
      refine XS.bipush X87.here hx rfl (hb hby at_213) ?_
      show Steps p.tables e below (T87.setTop (mkF m 215 #[.val (.int p1), .val (.int p2), .val (.int p3), .val (.ref b3), .val (.int (13 : Int32)), .val (.ref (A 13)), .unset, .unset, .unset] [(.int (13 : Int32)), (.int (13 : Int32))])) _
      refine XS.icmpNo X87.here hx rfl (hb hby at_215) rfl (flt (by decide : ¬ ((13 : Int32) < (13 : Int32)))).1 ?_
      show Steps p.tables e below (T87.setTop (mkF m 218 #[.val (.int p1), .val (.int p2), .val (.int p3), .val (.ref b3), .val (.int (13 : Int32)), .val (.ref (A 13)), .unset, .unset, .unset] [])) _
      refine XS.iload X87.here hx rfl (hb hby at_218) rfl ?_
      refine XS.bipush X87.here hx rfl (hb hby at_220) ?_
      refine XS.icmpNo X87.here hx rfl (hb hby at_222) rfl (flt (by decide : ¬ ((15 : Int32) < (13 : Int32)))).2.2.1 ?_
      show Steps p.tables e below (T87.setTop (mkF m 225 #[.val (.int p1), .val (.int p2), .val (.int p3), .val (.ref b3), .val (.int (13 : Int32)), .val (.ref (A 13)), .unset, .unset, .unset] [])) _
      refine XS.iconst X87.here hx rfl (hb hby at_225) ?_
      refine XS.goto X87.here hx rfl (pc0 := 226) (pc' := 230) rfl (hb hby at_226) (by decide) (by decide) ?_
      refine XS.istore X87.here hx rfl (hb hby at_230) rfl (l' := #[.val (.int p1), .val (.int p2), .val (.int p3), .val (.ref b3), .val (.int (13 : Int32)), .val (.ref (A 13)), .val (.int (1 : Int32)), .unset, .unset]) rfl ?_
      show Steps p.tables e below (T87.setTop (mkF m 232 #[.val (.int p1), .val (.int p2), .val (.int p3), .val (.ref b3), .val (.int (13 : Int32)), .val (.ref (A 13)), .val (.int (1 : Int32)), .unset, .unset] [])) _
      refine XS.aload X87.here hx rfl (hb hby at_232) rfl rfl ?_
      refine st157.trans ?_
      show Steps p.tables e below (T157.setTop (mkF m 237 #[.val (.int p1), .val (.int p2), .val (.int p3), .val (.ref b3), .val (.int (13 : Int32)), .val (.ref (A 13)), .val (.int (1 : Int32)), .unset, .unset] [(.int (1 : Int32))])) _
      refine XS.istore X157.here hx rfl (hb hby at_237) rfl (l' := #[.val (.int p1), .val (.int p2), .val (.int p3), .val (.ref b3), .val (.int (13 : Int32)), .val (.ref (A 13)), .val (.int (1 : Int32)), .val (.int (1 : Int32)), .unset]) rfl ?_
      refine XS.iload X157.here hx rfl (hb hby at_239) rfl ?_
      refine XS.iload X157.here hx rfl (hb hby at_241) rfl ?_
      show Steps p.tables e below (T157.setTop (mkF m 243 #[.val (.int p1), .val (.int p2), .val (.int p3), .val (.ref b3), .val (.int (13 : Int32)), .val (.ref (A 13)), .val (.int (1 : Int32)), .val (.int (1 : Int32)), .unset] [(.int (1 : Int32)), (.int (1 : Int32))])) _
      refine XS.icmpYes X157.here hx rfl (pc0 := 243) (pc' := 248) rfl (hb hby at_243) rfl (teq (by decide : (1 : Int32) = (1 : Int32))).1 (by decide) (by decide) ?_
      show Steps p.tables e below (T157.setTop (mkF m 248 #[.val (.int p1), .val (.int p2), .val (.int p3), .val (.ref b3), .val (.int (13 : Int32)), .val (.ref (A 13)), .val (.int (1 : Int32)), .val (.int (1 : Int32)), .unset] [])) _
      refine XS.iload X157.here hx rfl (hb hby at_248) rfl ?_
      refine XS.ifYes X157.here hx rfl (pc0 := 250) (pc' := 255) rfl (hb hby at_250) rfl ((if0 _ _).trans (feq (by decide : ¬ ((1 : Int32) = (0 : Int32)))).2) (by decide) (by decide) ?_
      show Steps p.tables e below (T157.setTop (mkF m 255 #[.val (.int p1), .val (.int p2), .val (.int p3), .val (.ref b3), .val (.int (13 : Int32)), .val (.ref (A 13)), .val (.int (1 : Int32)), .val (.int (1 : Int32)), .unset] [])) _
      refine XS.iconst X157.here hx rfl (hb hby at_255) ?_
      refine st158 _ ?_
      show Steps p.tables e below (T158.setTop (mkF m 258 #[.val (.int p1), .val (.int p2), .val (.int p3), .val (.ref b3), .val (.int (13 : Int32)), .val (.ref (A 13)), .val (.int (1 : Int32)), .val (.int (1 : Int32)), .unset] [(.ref b158)])) _
      refine XS.astore X158.here hx rfl (hb hby at_258) rfl rfl (l' := #[.val (.int p1), .val (.int p2), .val (.int p3), .val (.ref b3), .val (.int (13 : Int32)), .val (.ref (A 13)), .val (.int (1 : Int32)), .val (.int (1 : Int32)), .val (.ref b158)]) rfl ?_
      refine XS.aload X158.here hx rfl (hb hby at_260) rfl rfl ?_
      refine XS.iconst X158.here hx rfl (hb hby at_262) ?_
      show Steps p.tables e below (T158.setTop (mkF m 263 #[.val (.int p1), .val (.int p2), .val (.int p3), .val (.ref b3), .val (.int (13 : Int32)), .val (.ref (A 13)), .val (.int (1 : Int32)), .val (.int (1 : Int32)), .val (.ref b158)] [(.int (0 : Int32)), (.ref b158)])) _
      refine XS.iloadN X158.here hx rfl (hb hby at_263) rfl ?_
      refine st159 _ ?_
      show Steps p.tables e below (T159.setTop (mkF m 267 #[.val (.int p1), .val (.int p2), .val (.int p3), .val (.ref b3), .val (.int (13 : Int32)), .val (.ref (A 13)), .val (.int (1 : Int32)), .val (.int (1 : Int32)), .val (.ref b158)] [(.int (own_C p2)), (.int (0 : Int32)), (.ref b158)])) _
      refine st161 _ ?_
      show Steps p.tables e below (T161.setTop (mkF m 268 #[.val (.int p1), .val (.int p2), .val (.int p3), .val (.ref b3), .val (.int (13 : Int32)), .val (.ref (A 13)), .val (.int (1 : Int32)), .val (.int (1 : Int32)), .val (.ref b158)] [])) _
      refine XS.aload X161.here hx rfl (hb hby at_268) rfl rfl ?_
      refine XS.iconst X161.here hx rfl (hb hby at_270) ?_
      refine XS.bipush X161.here hx rfl (hb hby at_271) ?_
      show Steps p.tables e below (T161.setTop (mkF m 273 #[.val (.int p1), .val (.int p2), .val (.int p3), .val (.ref b3), .val (.int (13 : Int32)), .val (.ref (A 13)), .val (.int (1 : Int32)), .val (.int (1 : Int32)), .val (.ref b158)] [(.int (32 : Int32)), (.int (1 : Int32)), (.ref b158)])) _
      refine st163 _ ?_
      show Steps p.tables e below (T163.setTop (mkF m 274 #[.val (.int p1), .val (.int p2), .val (.int p3), .val (.ref b3), .val (.int (13 : Int32)), .val (.ref (A 13)), .val (.int (1 : Int32)), .val (.int (1 : Int32)), .val (.ref b158)] [])) _
      refine XS.aload X163.here hx rfl (hb hby at_274) rfl rfl ?_
      refine XS.iconst X163.here hx rfl (hb hby at_276) ?_
      refine XS.iloadN X163.here hx rfl (hb hby at_277) rfl ?_
      show Steps p.tables e below (T163.setTop (mkF m 278 #[.val (.int p1), .val (.int p2), .val (.int p3), .val (.ref b3), .val (.int (13 : Int32)), .val (.ref (A 13)), .val (.int (1 : Int32)), .val (.int (1 : Int32)), .val (.ref b158)] [(.int p3), (.int (2 : Int32)), (.ref b158)])) _
      refine st164 _ ?_
      show Steps p.tables e below (T164.setTop (mkF m 281 #[.val (.int p1), .val (.int p2), .val (.int p3), .val (.ref b3), .val (.int (13 : Int32)), .val (.ref (A 13)), .val (.int (1 : Int32)), .val (.int (1 : Int32)), .val (.ref b158)] [(.int (own_C p3)), (.int (2 : Int32)), (.ref b158)])) _
      refine st166 _ ?_
      show Steps p.tables e below (T166.setTop (mkF m 282 #[.val (.int p1), .val (.int p2), .val (.int p3), .val (.ref b3), .val (.int (13 : Int32)), .val (.ref (A 13)), .val (.int (1 : Int32)), .val (.int (1 : Int32)), .val (.ref b158)] [])) _
      refine XS.aload X166.here hx rfl (hb hby at_282) rfl rfl ?_
      refine st167 _ ?_
      show Steps p.tables e below (T167.setTop (mkF m 287 #[.val (.int p1), .val (.int p2), .val (.int p3), .val (.ref b3), .val (.int (13 : Int32)), .val (.ref (A 13)), .val (.int (1 : Int32)), .val (.int (1 : Int32)), .val (.ref b158)] [(.ref b167), (.ref (A 13))])) _
      refine XS.dup X167.here hx rfl (hb hby at_287) rfl rfl ?_
      refine XS.aload X167.here hx rfl (hb hby at_288) rfl rfl ?_
      refine st201.trans ?_
      show Steps p.tables e below (T201.setTop (mkF m 293 #[.val (.int p1), .val (.int p2), .val (.int p3), .val (.ref b3), .val (.int (13 : Int32)), .val (.ref (A 13)), .val (.int (1 : Int32)), .val (.int (1 : Int32)), .val (.ref b158)] [(.ref b167), (.ref (A 13))])) _
      refine st210.trans ?_
      show Steps p.tables e below (T210.setTop (mkF m 296 #[.val (.int p1), .val (.int p2), .val (.int p3), .val (.ref b3), .val (.int (13 : Int32)), .val (.ref (A 13)), .val (.int (1 : Int32)), .val (.int (1 : Int32)), .val (.ref b158)] [(.int (1 : Int32))])) _
      exact retN X210 hx (t := .boolean) Bd.returns (by simp) (hb hby at_296) hr
    · show LQ n0 _ T210.heap _
      exact ⟨rfl, N210, trivial⟩
  | 14, _, hk89 =>
    obtain ⟨cl211, Ar211, q211, Sz211, Nn211, Hh211, Gg211⟩ := (id V87)
    have hin211 : ¬ ((14 : Int32) < 0 ∨ cl211.slots.size ≤ ((14 : Int32)).toNatClampNeg) := inb_of Sz211 ⟨by decide, by decide⟩
    have hat211 : cl211.slots[((14 : Int32)).toNatClampNeg]? = some (.ref (A 14)) := Has.at Hh211 hin211 rfl
    obtain ⟨cq214, kq214, q214a, q214b, q214c⟩ := isOf hZ e87 (EN.2.2.2.1.2.2.2.2.2.1.ext OL87.2)
    obtain ⟨_, _, ⟨T214, L214, k214, n214⟩, -, X214, ⟨Lc214, hQ214, l214, y214, z214⟩, st214⟩ := X87.virtualBack hx (y := own_m0) (z := own_m0) hown (mvT hZ (hw _ (List.mem_of_getElem? (i := 61) rfl))) (mvT hZ (hw _ (List.mem_of_getElem? (i := 62) rfl))) (notFace_of_selects (args := #[]) (mvT hZ (hw _ (List.mem_of_getElem? (i := 64) rfl)))) (mvT hZ (hw _ (List.mem_of_getElem? (i := 64) rfl))) (mvT hZ (hw _ (List.mem_of_getElem? (i := 63) rfl))) (by decide) (backOf (W := 0) (rm24 l Z a0 hw [] h87 n0 p1 p2 p3 A K cs EN OL87) hZ (hw _ (List.mem_of_getElem? (i := 65) rfl)) (hw _ (List.mem_of_getElem? (i := 3) rfl)) (by decide) (by decide)) q214a q214c (g := (mkF m 234 #[.val (.int p1), .val (.int p2), .val (.int p3), .val (.ref b3), .val (.int (14 : Int32)), .val (.ref (A 14)), .val (.int (1 : Int32)), .unset, .unset] [(.ref (A 14))])) rfl (by rw [hml]; rfl) (Steps.refl _) (argsL := []) (rest := []) (lenOf own_pd0 rfl) rfl (by show 2 * 0 + _ ≤ _; exact Nat.le_of_eq rfl) (hb hby at_234) (fun _ _ => ⟨rfl, e87, (by decide : 1 + 0 ≤ _), (by decide : 28 + 0 ≤ _)⟩)
    dsimp only [Pt.U, Pt.locs, Pt.cells, Pt.slots] at X214 l214 y214 z214 st214 hQ214
    replace X214 := own_sub X214 l214 y214 z214
    obtain ⟨rfl, N214q, e214⟩ := hQ214
    have N214 := Fr.app NF87 N214q
    obtain ⟨T215, h215, k215, X215, e215, E215, A215, st215⟩ := newP X214 hx hZ (hw _ (List.mem_of_getElem? (i := 69) rfl)) e214 (g := (mkF m 256 #[.val (.int p1), .val (.int p2), .val (.int p3), .val (.ref b3), .val (.int (14 : Int32)), .val (.ref (A 14)), .val (.int (1 : Int32)), .val (.int (1 : Int32)), .unset] [(.int (3 : Int32))])) rfl (hb hby at_256) rfl (by decide) (cap := 3) (by decide) (by decide) (by decide) (by decide)
    obtain ⟨b215, g215⟩ : ∃ z, z = h87.size := ⟨_, rfl⟩
    rw [← g215] at A215 st215
    have gn_b215 : n0 ≤ b215 := Nat.le_trans (OL87.1 ▸ OL87.2.1) (Nat.le_of_eq g215.symm)
    have sz_b215 : h0.size ≤ b215 := Nat.le_trans KK87.1 (Nat.le_of_eq g215.symm)
    have lt_b3_b215 : b3 < b215 := Nat.lt_of_lt_of_le V87.lt (Nat.le_of_eq g215.symm)
    have OL215 : Old Z n0 h215 := OL87.ext E215
    have KK215 : Keep h0 h215 [] := KK87.ext E215
    have V215 : Arv Z h215 b215 k215 .char (3 : Int32) [] (.int (0 : Int32)) := Arv.new A215 (by decide)
    obtain ⟨_, _, ⟨T216, L216, k216, n216⟩, -, X216, ⟨Lc216, hQ216, l216, y216, z216⟩, st216⟩ := Jvm.LawKit.callS X215 hx (y := own_m11) hown (mvT hZ (hw _ (List.mem_of_getElem? (i := 70) rfl))) (mvT hZ (hw _ (List.mem_of_getElem? (i := 71) rfl))) (mvT hZ (hw _ (List.mem_of_getElem? (i := 72) rfl))) (mvT hZ (hw _ (List.mem_of_getElem? (i := 73) rfl))) (by decide) (backOf (W := 2) (rmN l Z a0 hw [] h215 n0 p2 OL215) hZ (hw _ (List.mem_of_getElem? (i := 73) rfl)) (hw _ (List.mem_of_getElem? (i := 72) rfl)) (by decide) (by decide)) (g := (mkF m 264 #[.val (.int p1), .val (.int p2), .val (.int p3), .val (.ref b3), .val (.int (14 : Int32)), .val (.ref (A 14)), .val (.int (1 : Int32)), .val (.int (1 : Int32)), .val (.ref b215)] [(.int p2), (.int (0 : Int32)), (.ref b215)])) rfl (by rw [hml]; rfl) (argsL := [(.int p2)]) (rest := [(.int (0 : Int32)), (.ref b215)]) (lenOf own_pd1 rfl) rfl (by show 2 * 0 + _ ≤ _; exact Nat.le_of_eq rfl) (hb hby at_264) (fun _ _ => ⟨rfl, e215, (by decide : 2 + 0 ≤ _), (by decide : 31 + 0 ≤ _)⟩)
    dsimp only [Pt.U, Pt.locs, Pt.cells, Pt.slots] at X216 l216 y216 z216 st216 hQ216
    replace X216 := own_sub X216 l216 y216 z216
    obtain ⟨rfl, N216q, e216⟩ := hQ216
    have N216 := Fr.app N214 N216q
    obtain ⟨cl217, Ar217, q217, Sz217, Nn217, Hh217, Gg217⟩ := (id (Arv.pad V215 (pad_rep [] (.int (0 : Int32)) 1)))
    have hin217 : ¬ ((0 : Int32) < 0 ∨ cl217.slots.size ≤ ((0 : Int32)).toNatClampNeg) := inb_of Sz217 ⟨by decide, by decide⟩
    obtain ⟨T218, h218, X218, e218, W218, st218⟩ := stC X216 hx hZ e216 Ar217 (j := (0 : Int32)) hin217 (g := (mkF m 267 #[.val (.int p1), .val (.int p2), .val (.int p3), .val (.ref b3), .val (.int (14 : Int32)), .val (.ref (A 14)), .val (.int (1 : Int32)), .val (.int (1 : Int32)), .val (.ref b215)] [(.int (own_C p2)), (.int (0 : Int32)), (.ref b215)])) rfl rfl (hb hby at_267)
    have NF218 := Fr.snoc X218 N216 gn_b215
    have OL218 : Old Z n0 h218 := OL215.wr W218 gn_b215
    have KK218 : Keep h0 h218 [] := KK215.wr W218 (Or.inr sz_b215)
    have V218 : Arv Z h218 b215 k215 .char (3 : Int32) [(.int (nar .char (own_C p2)))] (.int (0 : Int32)) := Arv.set Ar217 q217 Sz217 Nn217 Hh217 Gg217 (fits_nar_char _) W218 0 (by decide) (by decide : 0 < 1)
    obtain ⟨cl219, Ar219, q219, Sz219, Nn219, Hh219, Gg219⟩ := (id (Arv.pad V218 (pad_rep [(.int (nar .char (own_C p2)))] (.int (0 : Int32)) 1)))
    have hin219 : ¬ ((1 : Int32) < 0 ∨ cl219.slots.size ≤ ((1 : Int32)).toNatClampNeg) := inb_of Sz219 ⟨by decide, by decide⟩
    obtain ⟨T220, h220, X220, e220, W220, st220⟩ := stC X218 hx hZ e218 Ar219 (j := (1 : Int32)) hin219 (g := (mkF m 273 #[.val (.int p1), .val (.int p2), .val (.int p3), .val (.ref b3), .val (.int (14 : Int32)), .val (.ref (A 14)), .val (.int (1 : Int32)), .val (.int (1 : Int32)), .val (.ref b215)] [(.int (32 : Int32)), (.int (1 : Int32)), (.ref b215)])) rfl rfl (hb hby at_273)
    have NF220 := Fr.snoc X220 NF218 gn_b215
    have OL220 : Old Z n0 h220 := OL218.wr W220 gn_b215
    have KK220 : Keep h0 h220 [] := KK218.wr W220 (Or.inr sz_b215)
    have V220 : Arv Z h220 b215 k215 .char (3 : Int32) [(.int (nar .char (own_C p2))), (.int (32 : Int32))] (.int (0 : Int32)) := Arv.set Ar219 q219 Sz219 Nn219 Hh219 Gg219 (fits_nar_char _) W220 1 (by decide) (by decide : 1 < 2)
    obtain ⟨_, _, ⟨T221, L221, k221, n221⟩, -, X221, ⟨Lc221, hQ221, l221, y221, z221⟩, st221⟩ := Jvm.LawKit.callS X220 hx (y := own_m11) hown (mvT hZ (hw _ (List.mem_of_getElem? (i := 70) rfl))) (mvT hZ (hw _ (List.mem_of_getElem? (i := 71) rfl))) (mvT hZ (hw _ (List.mem_of_getElem? (i := 72) rfl))) (mvT hZ (hw _ (List.mem_of_getElem? (i := 73) rfl))) (by decide) (backOf (W := 2) (rmN l Z a0 hw [] h220 n0 p3 OL220) hZ (hw _ (List.mem_of_getElem? (i := 73) rfl)) (hw _ (List.mem_of_getElem? (i := 72) rfl)) (by decide) (by decide)) (g := (mkF m 278 #[.val (.int p1), .val (.int p2), .val (.int p3), .val (.ref b3), .val (.int (14 : Int32)), .val (.ref (A 14)), .val (.int (1 : Int32)), .val (.int (1 : Int32)), .val (.ref b215)] [(.int p3), (.int (2 : Int32)), (.ref b215)])) rfl (by rw [hml]; rfl) (argsL := [(.int p3)]) (rest := [(.int (2 : Int32)), (.ref b215)]) (lenOf own_pd1 rfl) rfl (by show 2 * 0 + _ ≤ _; exact Nat.le_of_eq rfl) (hb hby at_278) (fun _ _ => ⟨rfl, e220, (by decide : 2 + 0 ≤ _), (by decide : 31 + 0 ≤ _)⟩)
    dsimp only [Pt.U, Pt.locs, Pt.cells, Pt.slots] at X221 l221 y221 z221 st221 hQ221
    replace X221 := own_sub X221 l221 y221 z221
    obtain ⟨rfl, N221q, e221⟩ := hQ221
    have N221 := Fr.app NF220 N221q
    obtain ⟨cl222, Ar222, q222, Sz222, Nn222, Hh222, Gg222⟩ := (id (Arv.pad V220 (pad_rep [(.int (nar .char (own_C p2))), (.int (32 : Int32))] (.int (0 : Int32)) 1)))
    have hin222 : ¬ ((2 : Int32) < 0 ∨ cl222.slots.size ≤ ((2 : Int32)).toNatClampNeg) := inb_of Sz222 ⟨by decide, by decide⟩
    obtain ⟨T223, h223, X223, e223, W223, st223⟩ := stC X221 hx hZ e221 Ar222 (j := (2 : Int32)) hin222 (g := (mkF m 281 #[.val (.int p1), .val (.int p2), .val (.int p3), .val (.ref b3), .val (.int (14 : Int32)), .val (.ref (A 14)), .val (.int (1 : Int32)), .val (.int (1 : Int32)), .val (.ref b215)] [(.int (own_C p3)), (.int (2 : Int32)), (.ref b215)])) rfl rfl (hb hby at_281)
    have NF223 := Fr.snoc X223 N221 gn_b215
    have OL223 : Old Z n0 h223 := OL220.wr W223 gn_b215
    have KK223 : Keep h0 h223 [] := KK220.wr W223 (Or.inr sz_b215)
    have V223 : Arv Z h223 b215 k215 .char (3 : Int32) [(.int (nar .char (own_C p2))), (.int (32 : Int32)), (.int (nar .char (own_C p3)))] (.int (0 : Int32)) := Arv.set Ar222 q222 Sz222 Nn222 Hh222 Gg222 (fits_nar_char _) W223 2 (by decide) (by decide : 2 < 3)
    obtain ⟨T224, h224, X224, e224, E224, A224, D224, -, st224⟩ := newO X223 hx hZ hown (hw _ (List.mem_of_getElem? (i := 74) rfl)) (hw _ (List.mem_of_getElem? (i := 75) rfl)) (hw _ (List.mem_of_getElem? (i := 76) rfl)) e223 (g := (mkF m 284 #[.val (.int p1), .val (.int p2), .val (.int p3), .val (.ref b3), .val (.int (14 : Int32)), .val (.ref (A 14)), .val (.int (1 : Int32)), .val (.int (1 : Int32)), .val (.ref b215)] [(.ref (A 14))])) rfl (hb hby at_284) (by decide) (by decide)
    obtain ⟨b224, g224⟩ : ∃ z, z = h223.size := ⟨_, rfl⟩
    rw [← g224] at A224 D224 st224
    have gn_b224 : n0 ≤ b224 := Nat.le_trans (OL223.1 ▸ OL223.2.1) (Nat.le_of_eq g224.symm)
    have sz_b224 : h0.size ≤ b224 := Nat.le_trans KK223.1 (Nat.le_of_eq g224.symm)
    have fx225 : Arv Z h223 b3 k3 (.object "com/example/tallywire/tallywire/wire/FieldType") (28 : Int32) [(.ref (A 0)), (.ref (A 1)), (.ref (A 2)), (.ref (A 3)), (.ref (A 4)), (.ref (A 5)), (.ref (A 6)), (.ref (A 7)), (.ref (A 8)), (.ref (A 9)), (.ref (A 10)), (.ref (A 11)), (.ref (A 12)), (.ref (A 13)), (.ref (A 14)), (.ref (A 15)), (.ref (A 16)), (.ref (A 17)), (.ref (A 18)), (.ref (A 19)), (.ref (A 20)), (.ref (A 21)), (.ref (A 22)), (.ref (A 23)), (.ref (A 24)), (.ref (A 25)), (.ref (A 26)), (.ref (A 27))] .null := ((((V87.ext E215).other W218 (Nat.ne_of_lt lt_b3_b215)).other W220 (Nat.ne_of_lt lt_b3_b215)).other W223 (Nat.ne_of_lt lt_b3_b215))
    have lt_b3_b224 : b3 < b224 := Nat.lt_of_lt_of_le fx225.lt (Nat.le_of_eq g224.symm)
    have lt_b215_b224 : b215 < b224 := Nat.lt_of_lt_of_le V223.lt (Nat.le_of_eq g224.symm)
    have OL224 : Old Z n0 h224 := OL223.ext E224
    have KK224 : Keep h0 h224 [] := KK223.ext E224
    have F224_coder : Fld Z h224 b224 "java/lang/String" "coder" "B" (.int (0 : Int32)) := D224 (Or.inr (hw _ (List.mem_of_getElem? (i := 100) rfl))) (ty := .byte) (by decide)
    have F224_value : Fld Z h224 b224 "java/lang/String" "value" "[B" .null := D224 (Or.inr (hw _ (List.mem_of_getElem? (i := 102) rfl))) (ty := (.array .byte)) (by decide)
    have fx244 : Arv Z h224 b215 k215 .char (3 : Int32) [(.int (nar .char (own_C p2))), (.int (32 : Int32)), (.int (nar .char (own_C p3)))] (.int (0 : Int32)) := (V223.ext E224)
    have fx245 : Arv Z h224 b3 k3 (.object "com/example/tallywire/tallywire/wire/FieldType") (28 : Int32) [(.ref (A 0)), (.ref (A 1)), (.ref (A 2)), (.ref (A 3)), (.ref (A 4)), (.ref (A 5)), (.ref (A 6)), (.ref (A 7)), (.ref (A 8)), (.ref (A 9)), (.ref (A 10)), (.ref (A 11)), (.ref (A 12)), (.ref (A 13)), (.ref (A 14)), (.ref (A 15)), (.ref (A 16)), (.ref (A 17)), (.ref (A 18)), (.ref (A 19)), (.ref (A 20)), (.ref (A 21)), (.ref (A 22)), (.ref (A 23)), (.ref (A 24)), (.ref (A 25)), (.ref (A 26)), (.ref (A 27))] .null := (fx225.ext E224)
    obtain ⟨_, _, ⟨T246, L246, k246, n246⟩, -, X246, ⟨Lc246, hQ246, l246, y246, z246⟩, st246⟩ := X224.specialBack hx (y := own_m7) rfl hown (mvT hZ (hw _ (List.mem_of_getElem? (i := 77) rfl))) (mvT hZ (hw _ (List.mem_of_getElem? (i := 78) rfl))) (mvT hZ (hw _ (List.mem_of_getElem? (i := 79) rfl))) (by decide) (backOf (W := 2) (rm25 l Z a0 hw [] h224 n0 p1 p2 p3 A K cs b3 b215 b224 k215 k3 EN OL224 fx244 fx245 A224 F224_coder F224_value gn_b224) hZ (hw _ (List.mem_of_getElem? (i := 79) rfl)) (hw _ (List.mem_of_getElem? (i := 76) rfl)) (by decide) (by decide)) (g := (mkF m 290 #[.val (.int p1), .val (.int p2), .val (.int p3), .val (.ref b3), .val (.int (14 : Int32)), .val (.ref (A 14)), .val (.int (1 : Int32)), .val (.int (1 : Int32)), .val (.ref b215)] [(.ref b215), (.ref b224), (.ref b224), (.ref (A 14))])) rfl (by rw [hml]; rfl) (Steps.refl _) (a := b224) (argsL := [(.ref b215)]) (rest := [(.ref b224), (.ref (A 14))]) (lenOf own_pd6 rfl) rfl (by show 2 * 0 + _ ≤ _; exact Nat.le_of_eq rfl) (hb hby at_290) (fun _ _ => ⟨rfl, e224, (by decide : 3 + 1 ≤ _), (by decide : 35 + 3 ≤ _)⟩)
    dsimp only [Pt.U, Pt.locs, Pt.cells, Pt.slots] at X246 l246 y246 z246 st246 hQ246
    replace X246 := own_sub X246 l246 y246 z246
    obtain ⟨b246_b243_b232_b229, k246_k243_k232_k229, rfl, N246q, K246c, ⟨gn_b246_b243_b232_b229, szc_b246_b243_b232_b229⟩, f246_0, f246_1, f246_2, f246_3⟩ := hQ246
    have N246 := Fr.app NF223 N246q
    have lt_b3_b246_b243_b232_b229 : b3 < b246_b243_b232_b229 := Nat.lt_of_lt_of_le fx245.lt szc_b246_b243_b232_b229
    have lt_b215_b246_b243_b232_b229 : b215 < b246_b243_b232_b229 := Nat.lt_of_lt_of_le fx244.lt szc_b246_b243_b232_b229
    have lt_b224_b246_b243_b232_b229 : b224 < b246_b243_b232_b229 := Nat.lt_of_lt_of_le A224.lt szc_b246_b243_b232_b229
    have sz_b246_b243_b232_b229 : h0.size ≤ b246_b243_b232_b229 := Nat.le_trans KK224.1 szc_b246_b243_b232_b229
    have OL246 : Old Z n0 T246.heap := OL224.keep K246c (allS gn_b224 all0)
    have KK246 : Keep h0 T246.heap [] := KK224.trans K246c (allS (Or.inr sz_b224) all0)
    obtain ⟨cq250, kq250, q250a, q250b, q250c⟩ := isOf hZ rfl (EN.2.2.2.1.2.2.2.2.2.1.ext OL246.2)
    obtain ⟨_, _, ⟨T250, L250, k250, n250⟩, -, X250, ⟨Lc250, hQ250, l250, y250, z250⟩, st250⟩ := X246.virtualBack hx (y := own_m3) (z := own_m3) hown (mvT hZ (hw _ (List.mem_of_getElem? (i := 103) rfl))) (mvT hZ (hw _ (List.mem_of_getElem? (i := 104) rfl))) (notFace_of_selects (args := #[]) (mvT hZ (hw _ (List.mem_of_getElem? (i := 106) rfl)))) (mvT hZ (hw _ (List.mem_of_getElem? (i := 106) rfl))) (mvT hZ (hw _ (List.mem_of_getElem? (i := 105) rfl))) (by decide) (backOf (W := 0) (rm28 l Z a0 hw [] T246.heap n0 p1 p2 p3 A K cs b224 b246_b243_b232_b229 k246_k243_k232_k229 EN OL246 f246_0 f246_2 f246_3 f246_1) hZ (hw _ (List.mem_of_getElem? (i := 107) rfl)) (hw _ (List.mem_of_getElem? (i := 3) rfl)) (by decide) (by decide)) q250a q250c (g := (mkF m 293 #[.val (.int p1), .val (.int p2), .val (.int p3), .val (.ref b3), .val (.int (14 : Int32)), .val (.ref (A 14)), .val (.int (1 : Int32)), .val (.int (1 : Int32)), .val (.ref b215)] [(.ref b224), (.ref (A 14))])) rfl (by rw [hml]; rfl) (Steps.refl _) (argsL := [(.ref b224)]) (rest := []) (lenOf own_pd9 rfl) rfl (by show 2 * 0 + _ ≤ _; exact Nat.le_of_eq rfl) (hb hby at_293) (fun _ _ => ⟨rfl, rfl, (by decide : 4 + 0 ≤ _), (by decide : 38 + 0 ≤ _)⟩)
    dsimp only [Pt.U, Pt.locs, Pt.cells, Pt.slots] at X250 l250 y250 z250 st250 hQ250
    replace X250 := own_sub X250 l250 y250 z250
    obtain ⟨rfl, N250q, e250⟩ := hQ250
    have N250 := Fr.app N246 N250q
    obtain ⟨fs, hr, hrun, hended, hW, hsame⟩ := X250.leave (v := some (.int (1 : Int32))) (fun h => by rw [Bd.returns] at h; cases h)
    refine ⟨_, _, pre88 _ ?_, hrun, hended, _, _, rfl, ?_, ⟨_, rfl⟩, hW, hsame.mono (by decide) (by decide)⟩
    · show Steps p.tables e below (T87.setTop (mkF m 203 #[.val (.int p1), .val (.int p2), .val (.int p3), .val (.ref b3), .unset, .unset, .unset, .unset, .unset] [(.int ((p1 &&& (2147483647 : Int32)) % (28 : Int32)))])) _
      rw [hk89]
      show Steps p.tables e below (T87.setTop (mkF m 203 #[.val (.int p1), .val (.int p2), .val (.int p3), .val (.ref b3), .unset, .unset, .unset, .unset, .unset] [(.int (14 : Int32))])) _
      refine XS.istore X87.here hx rfl (hb hby at_203) rfl (l' := #[.val (.int p1), .val (.int p2), .val (.int p3), .val (.ref b3), .val (.int (14 : Int32)), .unset, .unset, .unset, .unset]) rfl ?_
      refine XS.aloadN X87.here hx rfl (hb hby at_205) rfl rfl ?_
      refine XS.iload X87.here hx rfl (hb hby at_206) rfl ?_
      show Steps p.tables e below (T87.setTop (mkF m 208 #[.val (.int p1), .val (.int p2), .val (.int p3), .val (.ref b3), .val (.int (14 : Int32)), .unset, .unset, .unset, .unset] [(.int (14 : Int32)), (.ref b3)])) _
      refine X87.aaload hx (j := (14 : Int32)) (v := (.ref (A 14))) (by rw [e87]; exact Ar211.1) (State.isArrayOf_alike hZ.alike Ar211.2.1) rfl Ar211.2.2 hin211 hat211 (g := (mkF m 208 #[.val (.int p1), .val (.int p2), .val (.int p3), .val (.ref b3), .val (.int (14 : Int32)), .unset, .unset, .unset, .unset] [(.int (14 : Int32)), (.ref b3)])) rfl rfl (hb hby at_208) _ ?_
      show Steps p.tables e below (T87.setTop (mkF m 209 #[.val (.int p1), .val (.int p2), .val (.int p3), .val (.ref b3), .val (.int (14 : Int32)), .unset, .unset, .unset, .unset] [(.ref (A 14))])) _
      refine XS.astore X87.here hx rfl (hb hby at_209) rfl rfl (l' := #[.val (.int p1), .val (.int p2), .val (.int p3), .val (.ref b3), .val (.int (14 : Int32)), .val (.ref (A 14)), .unset, .unset, .unset]) rfl ?_
      refine XS.iload X87.here hx rfl (hb hby at_211) rfl ?_
      refine XS.bipush X87.here hx rfl (hb hby at_213) ?_
      show Steps p.tables e below (T87.setTop (mkF m 215 #[.val (.int p1), .val (.int p2), .val (.int p3), .val (.ref b3), .val (.int (14 : Int32)), .val (.ref (A 14)), .unset, .unset, .unset] [(.int (13 : Int32)), (.int (14 : Int32))])) _
      refine XS.icmpNo X87.here hx rfl (hb hby at_215) rfl (flt (by decide : ¬ ((14 : Int32) < (13 : Int32)))).1 ?_
      show Steps p.tables e below (T87.setTop (mkF m 218 #[.val (.int p1), .val (.int p2), .val (.int p3), .val (.ref b3), .val (.int (14 : Int32)), .val (.ref (A 14)), .unset, .unset, .unset] [])) _
      refine XS.iload X87.here hx rfl (hb hby at_218) rfl ?_
      refine XS.bipush X87.here hx rfl (hb hby at_220) ?_
      refine XS.icmpNo X87.here hx rfl (hb hby at_222) rfl (flt (by decide : ¬ ((15 : Int32) < (14 : Int32)))).2.2.1 ?_
      show Steps p.tables e below (T87.setTop (mkF m 225 #[.val (.int p1), .val (.int p2), .val (.int p3), .val (.ref b3), .val (.int (14 : Int32)), .val (.ref (A 14)), .unset, .unset, .unset] [])) _
      refine XS.iconst X87.here hx rfl (hb hby at_225) ?_
      refine XS.goto X87.here hx rfl (pc0 := 226) (pc' := 230) rfl (hb hby at_226) (by decide) (by decide) ?_
      refine XS.istore X87.here hx rfl (hb hby at_230) rfl (l' := #[.val (.int p1), .val (.int p2), .val (.int p3), .val (.ref b3), .val (.int (14 : Int32)), .val (.ref (A 14)), .val (.int (1 : Int32)), .unset, .unset]) rfl ?_
      show Steps p.tables e below (T87.setTop (mkF m 232 #[.val (.int p1), .val (.int p2), .val (.int p3), .val (.ref b3), .val (.int (14 : Int32)), .val (.ref (A 14)), .val (.int (1 : Int32)), .unset, .unset] [])) _
      refine XS.aload X87.here hx rfl (hb hby at_232) rfl rfl ?_
      refine st214.trans ?_
      show Steps p.tables e below (T214.setTop (mkF m 237 #[.val (.int p1), .val (.int p2), .val (.int p3), .val (.ref b3), .val (.int (14 : Int32)), .val (.ref (A 14)), .val (.int (1 : Int32)), .unset, .unset] [(.int (1 : Int32))])) _
      refine XS.istore X214.here hx rfl (hb hby at_237) rfl (l' := #[.val (.int p1), .val (.int p2), .val (.int p3), .val (.ref b3), .val (.int (14 : Int32)), .val (.ref (A 14)), .val (.int (1 : Int32)), .val (.int (1 : Int32)), .unset]) rfl ?_
      refine XS.iload X214.here hx rfl (hb hby at_239) rfl ?_
      refine XS.iload X214.here hx rfl (hb hby at_241) rfl ?_
      show Steps p.tables e below (T214.setTop (mkF m 243 #[.val (.int p1), .val (.int p2), .val (.int p3), .val (.ref b3), .val (.int (14 : Int32)), .val (.ref (A 14)), .val (.int (1 : Int32)), .val (.int (1 : Int32)), .unset] [(.int (1 : Int32)), (.int (1 : Int32))])) _
      refine XS.icmpYes X214.here hx rfl (pc0 := 243) (pc' := 248) rfl (hb hby at_243) rfl (teq (by decide : (1 : Int32) = (1 : Int32))).1 (by decide) (by decide) ?_
      show Steps p.tables e below (T214.setTop (mkF m 248 #[.val (.int p1), .val (.int p2), .val (.int p3), .val (.ref b3), .val (.int (14 : Int32)), .val (.ref (A 14)), .val (.int (1 : Int32)), .val (.int (1 : Int32)), .unset] [])) _
      refine XS.iload X214.here hx rfl (hb hby at_248) rfl ?_
      refine XS.ifYes X214.here hx rfl (pc0 := 250) (pc' := 255) rfl (hb hby at_250) rfl ((if0 _ _).trans (feq (by decide : ¬ ((1 : Int32) = (0 : Int32)))).2) (by decide) (by decide) ?_
      show Steps p.tables e below (T214.setTop (mkF m 255 #[.val (.int p1), .val (.int p2), .val (.int p3), .val (.ref b3), .val (.int (14 : Int32)), .val (.ref (A 14)), .val (.int (1 : Int32)), .val (.int (1 : Int32)), .unset] [])) _
      refine XS.iconst X214.here hx rfl (hb hby at_255) ?_
      refine st215 _ ?_
      show Steps p.tables e below (T215.setTop (mkF m 258 #[.val (.int p1), .val (.int p2), .val (.int p3), .val (.ref b3), .val (.int (14 : Int32)), .val (.ref (A 14)), .val (.int (1 : Int32)), .val (.int (1 : Int32)), .unset] [(.ref b215)])) _
      refine XS.astore X215.here hx rfl (hb hby at_258) rfl rfl (l' := #[.val (.int p1), .val (.int p2), .val (.int p3), .val (.ref b3), .val (.int (14 : Int32)), .val (.ref (A 14)), .val (.int (1 : Int32)), .val (.int (1 : Int32)), .val (.ref b215)]) rfl ?_
      refine XS.aload X215.here hx rfl (hb hby at_260) rfl rfl ?_
      refine XS.iconst X215.here hx rfl (hb hby at_262) ?_
      show Steps p.tables e below (T215.setTop (mkF m 263 #[.val (.int p1), .val (.int p2), .val (.int p3), .val (.ref b3), .val (.int (14 : Int32)), .val (.ref (A 14)), .val (.int (1 : Int32)), .val (.int (1 : Int32)), .val (.ref b215)] [(.int (0 : Int32)), (.ref b215)])) _
      refine XS.iloadN X215.here hx rfl (hb hby at_263) rfl ?_
      refine st216 _ ?_
      show Steps p.tables e below (T216.setTop (mkF m 267 #[.val (.int p1), .val (.int p2), .val (.int p3), .val (.ref b3), .val (.int (14 : Int32)), .val (.ref (A 14)), .val (.int (1 : Int32)), .val (.int (1 : Int32)), .val (.ref b215)] [(.int (own_C p2)), (.int (0 : Int32)), (.ref b215)])) _
      refine st218 _ ?_
      show Steps p.tables e below (T218.setTop (mkF m 268 #[.val (.int p1), .val (.int p2), .val (.int p3), .val (.ref b3), .val (.int (14 : Int32)), .val (.ref (A 14)), .val (.int (1 : Int32)), .val (.int (1 : Int32)), .val (.ref b215)] [])) _
      refine XS.aload X218.here hx rfl (hb hby at_268) rfl rfl ?_
      refine XS.iconst X218.here hx rfl (hb hby at_270) ?_
      refine XS.bipush X218.here hx rfl (hb hby at_271) ?_
      show Steps p.tables e below (T218.setTop (mkF m 273 #[.val (.int p1), .val (.int p2), .val (.int p3), .val (.ref b3), .val (.int (14 : Int32)), .val (.ref (A 14)), .val (.int (1 : Int32)), .val (.int (1 : Int32)), .val (.ref b215)] [(.int (32 : Int32)), (.int (1 : Int32)), (.ref b215)])) _
      refine st220 _ ?_
      show Steps p.tables e below (T220.setTop (mkF m 274 #[.val (.int p1), .val (.int p2), .val (.int p3), .val (.ref b3), .val (.int (14 : Int32)), .val (.ref (A 14)), .val (.int (1 : Int32)), .val (.int (1 : Int32)), .val (.ref b215)] [])) _
      refine XS.aload X220.here hx rfl (hb hby at_274) rfl rfl ?_
      refine XS.iconst X220.here hx rfl (hb hby at_276) ?_
      refine XS.iloadN X220.here hx rfl (hb hby at_277) rfl ?_
      show Steps p.tables e below (T220.setTop (mkF m 278 #[.val (.int p1), .val (.int p2), .val (.int p3), .val (.ref b3), .val (.int (14 : Int32)), .val (.ref (A 14)), .val (.int (1 : Int32)), .val (.int (1 : Int32)), .val (.ref b215)] [(.int p3), (.int (2 : Int32)), (.ref b215)])) _
      refine st221 _ ?_
      show Steps p.tables e below (T221.setTop (mkF m 281 #[.val (.int p1), .val (.int p2), .val (.int p3), .val (.ref b3), .val (.int (14 : Int32)), .val (.ref (A 14)), .val (.int (1 : Int32)), .val (.int (1 : Int32)), .val (.ref b215)] [(.int (own_C p3)), (.int (2 : Int32)), (.ref b215)])) _
      refine st223 _ ?_
      show Steps p.tables e below (T223.setTop (mkF m 282 #[.val (.int p1), .val (.int p2), .val (.int p3), .val (.ref b3), .val (.int (14 : Int32)), .val (.ref (A 14)), .val (.int (1 : Int32)), .val (.int (1 : Int32)), .val (.ref b215)] [])) _
      refine XS.aload X223.here hx rfl (hb hby at_282) rfl rfl ?_
      refine st224 _ ?_
      show Steps p.tables e below (T224.setTop (mkF m 287 #[.val (.int p1), .val (.int p2), .val (.int p3), .val (.ref b3), .val (.int (14 : Int32)), .val (.ref (A 14)), .val (.int (1 : Int32)), .val (.int (1 : Int32)), .val (.ref b215)] [(.ref b224), (.ref (A 14))])) _
      refine XS.dup X224.here hx rfl (hb hby at_287) rfl rfl ?_
      refine XS.aload X224.here hx rfl (hb hby at_288) rfl rfl ?_
      refine st246.trans ?_
      show Steps p.tables e below (T246.setTop (mkF m 293 #[.val (.int p1), .val (.int p2), .val (.int p3), .val (.ref b3), .val (.int (14 : Int32)), .val (.ref (A 14)), .val (.int (1 : Int32)), .val (.int (1 : Int32)), .val (.ref b215)] [(.ref b224), (.ref (A 14))])) _
      refine st250.trans ?_
      show Steps p.tables e below (T250.setTop (mkF m 296 #[.val (.int p1), .val (.int p2), .val (.int p3), .val (.ref b3), .val (.int (14 : Int32)), .val (.ref (A 14)), .val (.int (1 : Int32)), .val (.int (1 : Int32)), .val (.ref b215)] [(.int (1 : Int32))])) _
      exact retN X250 hx (t := .boolean) Bd.returns (by simp) (hb hby at_296) hr
    · show LQ n0 _ T250.heap _
      exact ⟨rfl, N250, trivial⟩
  | 15, _, hk89 =>
    obtain ⟨cl251, Ar251, q251, Sz251, Nn251, Hh251, Gg251⟩ := (id V87)
    have hin251 : ¬ ((15 : Int32) < 0 ∨ cl251.slots.size ≤ ((15 : Int32)).toNatClampNeg) := inb_of Sz251 ⟨by decide, by decide⟩
    have hat251 : cl251.slots[((15 : Int32)).toNatClampNeg]? = some (.ref (A 15)) := Has.at Hh251 hin251 rfl
    obtain ⟨cq255, kq255, q255a, q255b, q255c⟩ := isOf hZ e87 (EN.2.2.2.1.2.2.2.2.2.2.2.1.ext OL87.2)
    obtain ⟨_, _, ⟨T255, L255, k255, n255⟩, -, X255, ⟨Lc255, hQ255, l255, y255, z255⟩, st255⟩ := X87.virtualBack hx (y := own_m0) (z := own_m0) hown (mvT hZ (hw _ (List.mem_of_getElem? (i := 61) rfl))) (mvT hZ (hw _ (List.mem_of_getElem? (i := 62) rfl))) (notFace_of_selects (args := #[]) (mvT hZ (hw _ (List.mem_of_getElem? (i := 64) rfl)))) (mvT hZ (hw _ (List.mem_of_getElem? (i := 64) rfl))) (mvT hZ (hw _ (List.mem_of_getElem? (i := 63) rfl))) (by decide) (backOf (W := 0) (rm30 l Z a0 hw [] h87 n0 p1 p2 p3 A K cs EN OL87) hZ (hw _ (List.mem_of_getElem? (i := 65) rfl)) (hw _ (List.mem_of_getElem? (i := 3) rfl)) (by decide) (by decide)) q255a q255c (g := (mkF m 234 #[.val (.int p1), .val (.int p2), .val (.int p3), .val (.ref b3), .val (.int (15 : Int32)), .val (.ref (A 15)), .val (.int (1 : Int32)), .unset, .unset] [(.ref (A 15))])) rfl (by rw [hml]; rfl) (Steps.refl _) (argsL := []) (rest := []) (lenOf own_pd0 rfl) rfl (by show 2 * 0 + _ ≤ _; exact Nat.le_of_eq rfl) (hb hby at_234) (fun _ _ => ⟨rfl, e87, (by decide : 1 + 0 ≤ _), (by decide : 28 + 0 ≤ _)⟩)
    dsimp only [Pt.U, Pt.locs, Pt.cells, Pt.slots] at X255 l255 y255 z255 st255 hQ255
    replace X255 := own_sub X255 l255 y255 z255
    obtain ⟨rfl, N255q, e255⟩ := hQ255
    have N255 := Fr.app NF87 N255q
    obtain ⟨T256, h256, k256, X256, e256, E256, A256, st256⟩ := newP X255 hx hZ (hw _ (List.mem_of_getElem? (i := 69) rfl)) e255 (g := (mkF m 256 #[.val (.int p1), .val (.int p2), .val (.int p3), .val (.ref b3), .val (.int (15 : Int32)), .val (.ref (A 15)), .val (.int (1 : Int32)), .val (.int (1 : Int32)), .unset] [(.int (3 : Int32))])) rfl (hb hby at_256) rfl (by decide) (cap := 3) (by decide) (by decide) (by decide) (by decide)
    obtain ⟨b256, g256⟩ : ∃ z, z = h87.size := ⟨_, rfl⟩
    rw [← g256] at A256 st256
    have gn_b256 : n0 ≤ b256 := Nat.le_trans (OL87.1 ▸ OL87.2.1) (Nat.le_of_eq g256.symm)
    have sz_b256 : h0.size ≤ b256 := Nat.le_trans KK87.1 (Nat.le_of_eq g256.symm)
    have lt_b3_b256 : b3 < b256 := Nat.lt_of_lt_of_le V87.lt (Nat.le_of_eq g256.symm)
    have OL256 : Old Z n0 h256 := OL87.ext E256
    have KK256 : Keep h0 h256 [] := KK87.ext E256
    have V256 : Arv Z h256 b256 k256 .char (3 : Int32) [] (.int (0 : Int32)) := Arv.new A256 (by decide)
    obtain ⟨_, _, ⟨T257, L257, k257, n257⟩, -, X257, ⟨Lc257, hQ257, l257, y257, z257⟩, st257⟩ := Jvm.LawKit.callS X256 hx (y := own_m11) hown (mvT hZ (hw _ (List.mem_of_getElem? (i := 70) rfl))) (mvT hZ (hw _ (List.mem_of_getElem? (i := 71) rfl))) (mvT hZ (hw _ (List.mem_of_getElem? (i := 72) rfl))) (mvT hZ (hw _ (List.mem_of_getElem? (i := 73) rfl))) (by decide) (backOf (W := 2) (rmN l Z a0 hw [] h256 n0 p2 OL256) hZ (hw _ (List.mem_of_getElem? (i := 73) rfl)) (hw _ (List.mem_of_getElem? (i := 72) rfl)) (by decide) (by decide)) (g := (mkF m 264 #[.val (.int p1), .val (.int p2), .val (.int p3), .val (.ref b3), .val (.int (15 : Int32)), .val (.ref (A 15)), .val (.int (1 : Int32)), .val (.int (1 : Int32)), .val (.ref b256)] [(.int p2), (.int (0 : Int32)), (.ref b256)])) rfl (by rw [hml]; rfl) (argsL := [(.int p2)]) (rest := [(.int (0 : Int32)), (.ref b256)]) (lenOf own_pd1 rfl) rfl (by show 2 * 0 + _ ≤ _; exact Nat.le_of_eq rfl) (hb hby at_264) (fun _ _ => ⟨rfl, e256, (by decide : 2 + 0 ≤ _), (by decide : 31 + 0 ≤ _)⟩)
    dsimp only [Pt.U, Pt.locs, Pt.cells, Pt.slots] at X257 l257 y257 z257 st257 hQ257
    replace X257 := own_sub X257 l257 y257 z257
    obtain ⟨rfl, N257q, e257⟩ := hQ257
    have N257 := Fr.app N255 N257q
    obtain ⟨cl258, Ar258, q258, Sz258, Nn258, Hh258, Gg258⟩ := (id (Arv.pad V256 (pad_rep [] (.int (0 : Int32)) 1)))
    have hin258 : ¬ ((0 : Int32) < 0 ∨ cl258.slots.size ≤ ((0 : Int32)).toNatClampNeg) := inb_of Sz258 ⟨by decide, by decide⟩
    obtain ⟨T259, h259, X259, e259, W259, st259⟩ := stC X257 hx hZ e257 Ar258 (j := (0 : Int32)) hin258 (g := (mkF m 267 #[.val (.int p1), .val (.int p2), .val (.int p3), .val (.ref b3), .val (.int (15 : Int32)), .val (.ref (A 15)), .val (.int (1 : Int32)), .val (.int (1 : Int32)), .val (.ref b256)] [(.int (own_C p2)), (.int (0 : Int32)), (.ref b256)])) rfl rfl (hb hby at_267)
    have NF259 := Fr.snoc X259 N257 gn_b256
    have OL259 : Old Z n0 h259 := OL256.wr W259 gn_b256
    have KK259 : Keep h0 h259 [] := KK256.wr W259 (Or.inr sz_b256)
    have V259 : Arv Z h259 b256 k256 .char (3 : Int32) [(.int (nar .char (own_C p2)))] (.int (0 : Int32)) := Arv.set Ar258 q258 Sz258 Nn258 Hh258 Gg258 (fits_nar_char _) W259 0 (by decide) (by decide : 0 < 1)
    obtain ⟨cl260, Ar260, q260, Sz260, Nn260, Hh260, Gg260⟩ := (id (Arv.pad V259 (pad_rep [(.int (nar .char (own_C p2)))] (.int (0 : Int32)) 1)))
    have hin260 : ¬ ((1 : Int32) < 0 ∨ cl260.slots.size ≤ ((1 : Int32)).toNatClampNeg) := inb_of Sz260 ⟨by decide, by decide⟩
    obtain ⟨T261, h261, X261, e261, W261, st261⟩ := stC X259 hx hZ e259 Ar260 (j := (1 : Int32)) hin260 (g := (mkF m 273 #[.val (.int p1), .val (.int p2), .val (.int p3), .val (.ref b3), .val (.int (15 : Int32)), .val (.ref (A 15)), .val (.int (1 : Int32)), .val (.int (1 : Int32)), .val (.ref b256)] [(.int (32 : Int32)), (.int (1 : Int32)), (.ref b256)])) rfl rfl (hb hby at_273)
    have NF261 := Fr.snoc X261 NF259 gn_b256
    have OL261 : Old Z n0 h261 := OL259.wr W261 gn_b256
    have KK261 : Keep h0 h261 [] := KK259.wr W261 (Or.inr sz_b256)
    have V261 : Arv Z h261 b256 k256 .char (3 : Int32) [(.int (nar .char (own_C p2))), (.int (32 : Int32))] (.int (0 : Int32)) := Arv.set Ar260 q260 Sz260 Nn260 Hh260 Gg260 (fits_nar_char _) W261 1 (by decide) (by decide : 1 < 2)
    obtain ⟨_, _, ⟨T262, L262, k262, n262⟩, -, X262, ⟨Lc262, hQ262, l262, y262, z262⟩, st262⟩ := Jvm.LawKit.callS X261 hx (y := own_m11) hown (mvT hZ (hw _ (List.mem_of_getElem? (i := 70) rfl))) (mvT hZ (hw _ (List.mem_of_getElem? (i := 71) rfl))) (mvT hZ (hw _ (List.mem_of_getElem? (i := 72) rfl))) (mvT hZ (hw _ (List.mem_of_getElem? (i := 73) rfl))) (by decide) (backOf (W := 2) (rmN l Z a0 hw [] h261 n0 p3 OL261) hZ (hw _ (List.mem_of_getElem? (i := 73) rfl)) (hw _ (List.mem_of_getElem? (i := 72) rfl)) (by decide) (by decide)) (g := (mkF m 278 #[.val (.int p1), .val (.int p2), .val (.int p3), .val (.ref b3), .val (.int (15 : Int32)), .val (.ref (A 15)), .val (.int (1 : Int32)), .val (.int (1 : Int32)), .val (.ref b256)] [(.int p3), (.int (2 : Int32)), (.ref b256)])) rfl (by rw [hml]; rfl) (argsL := [(.int p3)]) (rest := [(.int (2 : Int32)), (.ref b256)]) (lenOf own_pd1 rfl) rfl (by show 2 * 0 + _ ≤ _; exact Nat.le_of_eq rfl) (hb hby at_278) (fun _ _ => ⟨rfl, e261, (by decide : 2 + 0 ≤ _), (by decide : 31 + 0 ≤ _)⟩)
    dsimp only [Pt.U, Pt.locs, Pt.cells, Pt.slots] at X262 l262 y262 z262 st262 hQ262
    replace X262 := own_sub X262 l262 y262 z262
    obtain ⟨rfl, N262q, e262⟩ := hQ262
    have N262 := Fr.app NF261 N262q
    obtain ⟨cl263, Ar263, q263, Sz263, Nn263, Hh263, Gg263⟩ := (id (Arv.pad V261 (pad_rep [(.int (nar .char (own_C p2))), (.int (32 : Int32))] (.int (0 : Int32)) 1)))
    have hin263 : ¬ ((2 : Int32) < 0 ∨ cl263.slots.size ≤ ((2 : Int32)).toNatClampNeg) := inb_of Sz263 ⟨by decide, by decide⟩
    obtain ⟨T264, h264, X264, e264, W264, st264⟩ := stC X262 hx hZ e262 Ar263 (j := (2 : Int32)) hin263 (g := (mkF m 281 #[.val (.int p1), .val (.int p2), .val (.int p3), .val (.ref b3), .val (.int (15 : Int32)), .val (.ref (A 15)), .val (.int (1 : Int32)), .val (.int (1 : Int32)), .val (.ref b256)] [(.int (own_C p3)), (.int (2 : Int32)), (.ref b256)])) rfl rfl (hb hby at_281)
    have NF264 := Fr.snoc X264 N262 gn_b256
    have OL264 : Old Z n0 h264 := OL261.wr W264 gn_b256
    have KK264 : Keep h0 h264 [] := KK261.wr W264 (Or.inr sz_b256)
    have V264 : Arv Z h264 b256 k256 .char (3 : Int32) [(.int (nar .char (own_C p2))), (.int (32 : Int32)), (.int (nar .char (own_C p3)))] (.int (0 : Int32)) := Arv.set Ar263 q263 Sz263 Nn263 Hh263 Gg263 (fits_nar_char _) W264 2 (by decide) (by decide : 2 < 3)
    obtain ⟨T265, h265, X265, e265, E265, A265, D265, -, st265⟩ := newO X264 hx hZ hown (hw _ (List.mem_of_getElem? (i := 74) rfl)) (hw _ (List.mem_of_getElem? (i := 75) rfl)) (hw _ (List.mem_of_getElem? (i := 76) rfl)) e264 (g := (mkF m 284 #[.val (.int p1), .val (.int p2), .val (.int p3), .val (.ref b3), .val (.int (15 : Int32)), .val (.ref (A 15)), .val (.int (1 : Int32)), .val (.int (1 : Int32)), .val (.ref b256)] [(.ref (A 15))])) rfl (hb hby at_284) (by decide) (by decide)
    obtain ⟨b265, g265⟩ : ∃ z, z = h264.size := ⟨_, rfl⟩
    rw [← g265] at A265 D265 st265
    have gn_b265 : n0 ≤ b265 := Nat.le_trans (OL264.1 ▸ OL264.2.1) (Nat.le_of_eq g265.symm)
    have sz_b265 : h0.size ≤ b265 := Nat.le_trans KK264.1 (Nat.le_of_eq g265.symm)
    have fx266 : Arv Z h264 b3 k3 (.object "com/example/tallywire/tallywire/wire/FieldType") (28 : Int32) [(.ref (A 0)), (.ref (A 1)), (.ref (A 2)), (.ref (A 3)), (.ref (A 4)), (.ref (A 5)), (.ref (A 6)), (.ref (A 7)), (.ref (A 8)), (.ref (A 9)), (.ref (A 10)), (.ref (A 11)), (.ref (A 12)), (.ref (A 13)), (.ref (A 14)), (.ref (A 15)), (.ref (A 16)), (.ref (A 17)), (.ref (A 18)), (.ref (A 19)), (.ref (A 20)), (.ref (A 21)), (.ref (A 22)), (.ref (A 23)), (.ref (A 24)), (.ref (A 25)), (.ref (A 26)), (.ref (A 27))] .null := ((((V87.ext E256).other W259 (Nat.ne_of_lt lt_b3_b256)).other W261 (Nat.ne_of_lt lt_b3_b256)).other W264 (Nat.ne_of_lt lt_b3_b256))
    have lt_b3_b265 : b3 < b265 := Nat.lt_of_lt_of_le fx266.lt (Nat.le_of_eq g265.symm)
    have lt_b256_b265 : b256 < b265 := Nat.lt_of_lt_of_le V264.lt (Nat.le_of_eq g265.symm)
    have OL265 : Old Z n0 h265 := OL264.ext E265
    have KK265 : Keep h0 h265 [] := KK264.ext E265
    have F265_coder : Fld Z h265 b265 "java/lang/String" "coder" "B" (.int (0 : Int32)) := D265 (Or.inr (hw _ (List.mem_of_getElem? (i := 100) rfl))) (ty := .byte) (by decide)
    have F265_value : Fld Z h265 b265 "java/lang/String" "value" "[B" .null := D265 (Or.inr (hw _ (List.mem_of_getElem? (i := 102) rfl))) (ty := (.array .byte)) (by decide)
    have fx285 : Arv Z h265 b256 k256 .char (3 : Int32) [(.int (nar .char (own_C p2))), (.int (32 : Int32)), (.int (nar .char (own_C p3)))] (.int (0 : Int32)) := (V264.ext E265)
    have fx286 : Arv Z h265 b3 k3 (.object "com/example/tallywire/tallywire/wire/FieldType") (28 : Int32) [(.ref (A 0)), (.ref (A 1)), (.ref (A 2)), (.ref (A 3)), (.ref (A 4)), (.ref (A 5)), (.ref (A 6)), (.ref (A 7)), (.ref (A 8)), (.ref (A 9)), (.ref (A 10)), (.ref (A 11)), (.ref (A 12)), (.ref (A 13)), (.ref (A 14)), (.ref (A 15)), (.ref (A 16)), (.ref (A 17)), (.ref (A 18)), (.ref (A 19)), (.ref (A 20)), (.ref (A 21)), (.ref (A 22)), (.ref (A 23)), (.ref (A 24)), (.ref (A 25)), (.ref (A 26)), (.ref (A 27))] .null := (fx266.ext E265)
    obtain ⟨_, _, ⟨T287, L287, k287, n287⟩, -, X287, ⟨Lc287, hQ287, l287, y287, z287⟩, st287⟩ := X265.specialBack hx (y := own_m7) rfl hown (mvT hZ (hw _ (List.mem_of_getElem? (i := 77) rfl))) (mvT hZ (hw _ (List.mem_of_getElem? (i := 78) rfl))) (mvT hZ (hw _ (List.mem_of_getElem? (i := 79) rfl))) (by decide) (backOf (W := 2) (rm31 l Z a0 hw [] h265 n0 p1 p2 p3 A K cs b3 b256 b265 k256 k3 EN OL265 fx285 fx286 A265 F265_coder F265_value gn_b265) hZ (hw _ (List.mem_of_getElem? (i := 79) rfl)) (hw _ (List.mem_of_getElem? (i := 76) rfl)) (by decide) (by decide)) (g := (mkF m 290 #[.val (.int p1), .val (.int p2), .val (.int p3), .val (.ref b3), .val (.int (15 : Int32)), .val (.ref (A 15)), .val (.int (1 : Int32)), .val (.int (1 : Int32)), .val (.ref b256)] [(.ref b256), (.ref b265), (.ref b265), (.ref (A 15))])) rfl (by rw [hml]; rfl) (Steps.refl _) (a := b265) (argsL := [(.ref b256)]) (rest := [(.ref b265), (.ref (A 15))]) (lenOf own_pd6 rfl) rfl (by show 2 * 0 + _ ≤ _; exact Nat.le_of_eq rfl) (hb hby at_290) (fun _ _ => ⟨rfl, e265, (by decide : 3 + 1 ≤ _), (by decide : 35 + 3 ≤ _)⟩)
    dsimp only [Pt.U, Pt.locs, Pt.cells, Pt.slots] at X287 l287 y287 z287 st287 hQ287
    replace X287 := own_sub X287 l287 y287 z287
    obtain ⟨b287_b284_b273_b270, k287_k284_k273_k270, rfl, N287q, K287c, ⟨gn_b287_b284_b273_b270, szc_b287_b284_b273_b270⟩, f287_0, f287_1, f287_2, f287_3⟩ := hQ287
    have N287 := Fr.app NF264 N287q
    have lt_b3_b287_b284_b273_b270 : b3 < b287_b284_b273_b270 := Nat.lt_of_lt_of_le fx286.lt szc_b287_b284_b273_b270
    have lt_b256_b287_b284_b273_b270 : b256 < b287_b284_b273_b270 := Nat.lt_of_lt_of_le fx285.lt szc_b287_b284_b273_b270
    have lt_b265_b287_b284_b273_b270 : b265 < b287_b284_b273_b270 := Nat.lt_of_lt_of_le A265.lt szc_b287_b284_b273_b270
    have sz_b287_b284_b273_b270 : h0.size ≤ b287_b284_b273_b270 := Nat.le_trans KK265.1 szc_b287_b284_b273_b270
    have OL287 : Old Z n0 T287.heap := OL265.keep K287c (allS gn_b265 all0)
    have KK287 : Keep h0 T287.heap [] := KK265.trans K287c (allS (Or.inr sz_b265) all0)
    obtain ⟨cq338, kq338, q338a, q338b, q338c⟩ := isOf hZ rfl (EN.2.2.2.1.2.2.2.2.2.2.2.1.ext OL287.2)
    obtain ⟨_, _, ⟨T338, L338, k338, n338⟩, -, X338, ⟨Lc338, hQ338, l338, y338, z338⟩, st338⟩ := X287.virtualBack hx (y := own_m3) (z := own_m3) hown (mvT hZ (hw _ (List.mem_of_getElem? (i := 103) rfl))) (mvT hZ (hw _ (List.mem_of_getElem? (i := 104) rfl))) (notFace_of_selects (args := #[]) (mvT hZ (hw _ (List.mem_of_getElem? (i := 106) rfl)))) (mvT hZ (hw _ (List.mem_of_getElem? (i := 106) rfl))) (mvT hZ (hw _ (List.mem_of_getElem? (i := 105) rfl))) (by decide) (backOf (W := 0) (rm34 l Z a0 hw [] T287.heap n0 p1 p2 p3 A K cs b265 b287_b284_b273_b270 k287_k284_k273_k270 EN OL287 f287_0 f287_2 f287_3 f287_1) hZ (hw _ (List.mem_of_getElem? (i := 107) rfl)) (hw _ (List.mem_of_getElem? (i := 3) rfl)) (by decide) (by decide)) q338a q338c (g := (mkF m 293 #[.val (.int p1), .val (.int p2), .val (.int p3), .val (.ref b3), .val (.int (15 : Int32)), .val (.ref (A 15)), .val (.int (1 : Int32)), .val (.int (1 : Int32)), .val (.ref b256)] [(.ref b265), (.ref (A 15))])) rfl (by rw [hml]; rfl) (Steps.refl _) (argsL := [(.ref b265)]) (rest := []) (lenOf own_pd9 rfl) rfl (by show 2 * 0 + _ ≤ _; exact Nat.le_of_eq rfl) (hb hby at_293) (fun _ _ => ⟨rfl, rfl, (by decide : 4 + 0 ≤ _), (by decide : 38 + 0 ≤ _)⟩)
    dsimp only [Pt.U, Pt.locs, Pt.cells, Pt.slots] at X338 l338 y338 z338 st338 hQ338
    replace X338 := own_sub X338 l338 y338 z338
    obtain ⟨rfl, N338q, e338⟩ := hQ338
    have N338 := Fr.app N287 N338q
    obtain ⟨fs, hr, hrun, hended, hW, hsame⟩ := X338.leave (v := some (.int (1 : Int32))) (fun h => by rw [Bd.returns] at h; cases h)
    refine ⟨_, _, pre88 _ ?_, hrun, hended, _, _, rfl, ?_, ⟨_, rfl⟩, hW, hsame.mono (by decide) (by decide)⟩
    · show Steps p.tables e below (T87.setTop (mkF m 203 #[.val (.int p1), .val (.int p2), .val (.int p3), .val (.ref b3), .unset, .unset, .unset, .unset, .unset] [(.int ((p1 &&& (2147483647 : Int32)) % (28 : Int32)))])) _
      rw [hk89]
      show Steps p.tables e below (T87.setTop (mkF m 203 #[.val (.int p1), .val (.int p2), .val (.int p3), .val (.ref b3), .unset, .unset, .unset, .unset, .unset] [(.int (15 : Int32))])) _
      refine XS.istore X87.here hx rfl (hb hby at_203) rfl (l' := #[.val (.int p1), .val (.int p2), .val (.int p3), .val (.ref b3), .val (.int (15 : Int32)), .unset, .unset, .unset, .unset]) rfl ?_
      refine XS.aloadN X87.here hx rfl (hb hby at_205) rfl rfl ?_
      refine XS.iload X87.here hx rfl (hb hby at_206) rfl ?_
      show Steps p.tables e below (T87.setTop (mkF m 208 #[.val (.int p1), .val (.int p2), .val (.int p3), .val (.ref b3), .val (.int (15 : Int32)), .unset, .unset, .unset, .unset] [(.int (15 : Int32)), (.ref b3)])) _
      refine X87.aaload hx (j := (15 : Int32)) (v := (.ref (A 15))) (by rw [e87]; exact Ar251.1) (State.isArrayOf_alike hZ.alike Ar251.2.1) rfl Ar251.2.2 hin251 hat251 (g := (mkF m 208 #[.val (.int p1), .val (.int p2), .val (.int p3), .val (.ref b3), .val (.int (15 : Int32)), .unset, .unset, .unset, .unset] [(.int (15 : Int32)), (.ref b3)])) rfl rfl (hb hby at_208) _ ?_
      show Steps p.tables e below (T87.setTop (mkF m 209 #[.val (.int p1), .val (.int p2), .val (.int p3), .val (.ref b3), .val (.int (15 : Int32)), .unset, .unset, .unset, .unset] [(.ref (A 15))])) _
      refine XS.astore X87.here hx rfl (hb hby at_209) rfl rfl (l' := #[.val (.int p1), .val (.int p2), .val (.int p3), .val (.ref b3), .val (.int (15 : Int32)), .val (.ref (A 15)), .unset, .unset, .unset]) rfl ?_
      refine XS.iload X87.here hx rfl (hb hby at_211) rfl ?_
      refine XS.bipush X87.here hx rfl (hb hby at_213) ?_
      show Steps p.tables e below (T87.setTop (mkF m 215 #[.val (.int p1), .val (.int p2), .val (.int p3), .val (.ref b3), .val (.int (15 : Int32)), .val (.ref (A 15)), .unset, .unset, .unset] [(.int (13 : Int32)), (.int (15 : Int32))])) _
      refine XS.icmpNo X87.here hx rfl (hb hby at_215) rfl (flt (by decide : ¬ ((15 : Int32) < (13 : Int32)))).1 ?_
      show Steps p.tables e below (T87.setTop (mkF m 218 #[.val (.int p1), .val (.int p2), .val (.int p3), .val (.ref b3), .val (.int (15 : Int32)), .val (.ref (A 15)), .unset, .unset, .unset] [])) _
      refine XS.iload X87.here hx rfl (hb hby at_218) rfl ?_
      refine XS.bipush X87.here hx rfl (hb hby at_220) ?_
      refine XS.icmpNo X87.here hx rfl (hb hby at_222) rfl (flt (by decide : ¬ ((15 : Int32) < (15 : Int32)))).2.2.1 ?_
      show Steps p.tables e below (T87.setTop (mkF m 225 #[.val (.int p1), .val (.int p2), .val (.int p3), .val (.ref b3), .val (.int (15 : Int32)), .val (.ref (A 15)), .unset, .unset, .unset] [])) _
      refine XS.iconst X87.here hx rfl (hb hby at_225) ?_
      refine XS.goto X87.here hx rfl (pc0 := 226) (pc' := 230) rfl (hb hby at_226) (by decide) (by decide) ?_
      refine XS.istore X87.here hx rfl (hb hby at_230) rfl (l' := #[.val (.int p1), .val (.int p2), .val (.int p3), .val (.ref b3), .val (.int (15 : Int32)), .val (.ref (A 15)), .val (.int (1 : Int32)), .unset, .unset]) rfl ?_
      show Steps p.tables e below (T87.setTop (mkF m 232 #[.val (.int p1), .val (.int p2), .val (.int p3), .val (.ref b3), .val (.int (15 : Int32)), .val (.ref (A 15)), .val (.int (1 : Int32)), .unset, .unset] [])) _
      refine XS.aload X87.here hx rfl (hb hby at_232) rfl rfl ?_
      refine st255.trans ?_
      show Steps p.tables e below (T255.setTop (mkF m 237 #[.val (.int p1), .val (.int p2), .val (.int p3), .val (.ref b3), .val (.int (15 : Int32)), .val (.ref (A 15)), .val (.int (1 : Int32)), .unset, .unset] [(.int (1 : Int32))])) _
      refine XS.istore X255.here hx rfl (hb hby at_237) rfl (l' := #[.val (.int p1), .val (.int p2), .val (.int p3), .val (.ref b3), .val (.int (15 : Int32)), .val (.ref (A 15)), .val (.int (1 : Int32)), .val (.int (1 : Int32)), .unset]) rfl ?_
      refine XS.iload X255.here hx rfl (hb hby at_239) rfl ?_
      refine XS.iload X255.here hx rfl (hb hby at_241) rfl ?_
      show Steps p.tables e below (T255.setTop (mkF m 243 #[.val (.int p1), .val (.int p2), .val (.int p3), .val (.ref b3), .val (.int (15 : Int32)), .val (.ref (A 15)), .val (.int (1 : Int32)), .val (.int (1 : Int32)), .unset] [(.int (1 : Int32)), (.int (1 : Int32))])) _
      refine XS.icmpYes X255.here hx rfl (pc0 := 243) (pc' := 248) rfl (hb hby at_243) rfl (teq (by decide : (1 : Int32) = (1 : Int32))).1 (by decide) (by decide) ?_
      show Steps p.tables e below (T255.setTop (mkF m 248 #[.val (.int p1), .val (.int p2), .val (.int p3), .val (.ref b3), .val (.int (15 : Int32)), .val (.ref (A 15)), .val (.int (1 : Int32)), .val (.int (1 : Int32)), .unset] [])) _
      refine XS.iload X255.here hx rfl (hb hby at_248) rfl ?_
      refine XS.ifYes X255.here hx rfl (pc0 := 250) (pc' := 255) rfl (hb hby at_250) rfl ((if0 _ _).trans (feq (by decide : ¬ ((1 : Int32) = (0 : Int32)))).2) (by decide) (by decide) ?_
      show Steps p.tables e below (T255.setTop (mkF m 255 #[.val (.int p1), .val (.int p2), .val (.int p3), .val (.ref b3), .val (.int (15 : Int32)), .val (.ref (A 15)), .val (.int (1 : Int32)), .val (.int (1 : Int32)), .unset] [])) _
      refine XS.iconst X255.here hx rfl (hb hby at_255) ?_
      refine st256 _ ?_
      show Steps p.tables e below (T256.setTop (mkF m 258 #[.val (.int p1), .val (.int p2), .val (.int p3), .val (.ref b3), .val (.int (15 : Int32)), .val (.ref (A 15)), .val (.int (1 : Int32)), .val (.int (1 : Int32)), .unset] [(.ref b256)])) _
      refine XS.astore X256.here hx rfl (hb hby at_258) rfl rfl (l' := #[.val (.int p1), .val (.int p2), .val (.int p3), .val (.ref b3), .val (.int (15 : Int32)), .val (.ref (A 15)), .val (.int (1 : Int32)), .val (.int (1 : Int32)), .val (.ref b256)]) rfl ?_
      refine XS.aload X256.here hx rfl (hb hby at_260) rfl rfl ?_
      refine XS.iconst X256.here hx rfl (hb hby at_262) ?_
      show Steps p.tables e below (T256.setTop (mkF m 263 #[.val (.int p1), .val (.int p2), .val (.int p3), .val (.ref b3), .val (.int (15 : Int32)), .val (.ref (A 15)), .val (.int (1 : Int32)), .val (.int (1 : Int32)), .val (.ref b256)] [(.int (0 : Int32)), (.ref b256)])) _
      refine XS.iloadN X256.here hx rfl (hb hby at_263) rfl ?_
      refine st257 _ ?_
      show Steps p.tables e below (T257.setTop (mkF m 267 #[.val (.int p1), .val (.int p2), .val (.int p3), .val (.ref b3), .val (.int (15 : Int32)), .val (.ref (A 15)), .val (.int (1 : Int32)), .val (.int (1 : Int32)), .val (.ref b256)] [(.int (own_C p2)), (.int (0 : Int32)), (.ref b256)])) _
      refine st259 _ ?_
      show Steps p.tables e below (T259.setTop (mkF m 268 #[.val (.int p1), .val (.int p2), .val (.int p3), .val (.ref b3), .val (.int (15 : Int32)), .val (.ref (A 15)), .val (.int (1 : Int32)), .val (.int (1 : Int32)), .val (.ref b256)] [])) _
      refine XS.aload X259.here hx rfl (hb hby at_268) rfl rfl ?_
      refine XS.iconst X259.here hx rfl (hb hby at_270) ?_
      refine XS.bipush X259.here hx rfl (hb hby at_271) ?_
      show Steps p.tables e below (T259.setTop (mkF m 273 #[.val (.int p1), .val (.int p2), .val (.int p3), .val (.ref b3), .val (.int (15 : Int32)), .val (.ref (A 15)), .val (.int (1 : Int32)), .val (.int (1 : Int32)), .val (.ref b256)] [(.int (32 : Int32)), (.int (1 : Int32)), (.ref b256)])) _
      refine st261 _ ?_
      show Steps p.tables e below (T261.setTop (mkF m 274 #[.val (.int p1), .val (.int p2), .val (.int p3), .val (.ref b3), .val (.int (15 : Int32)), .val (.ref (A 15)), .val (.int (1 : Int32)), .val (.int (1 : Int32)), .val (.ref b256)] [])) _
      refine XS.aload X261.here hx rfl (hb hby at_274) rfl rfl ?_
      refine XS.iconst X261.here hx rfl (hb hby at_276) ?_
      refine XS.iloadN X261.here hx rfl (hb hby at_277) rfl ?_
      show Steps p.tables e below (T261.setTop (mkF m 278 #[.val (.int p1), .val (.int p2), .val (.int p3), .val (.ref b3), .val (.int (15 : Int32)), .val (.ref (A 15)), .val (.int (1 : Int32)), .val (.int (1 : Int32)), .val (.ref b256)] [(.int p3), (.int (2 : Int32)), (.ref b256)])) _
      refine st262 _ ?_
      show Steps p.tables e below (T262.setTop (mkF m 281 #[.val (.int p1), .val (.int p2), .val (.int p3), .val (.ref b3), .val (.int (15 : Int32)), .val (.ref (A 15)), .val (.int (1 : Int32)), .val (.int (1 : Int32)), .val (.ref b256)] [(.int (own_C p3)), (.int (2 : Int32)), (.ref b256)])) _
      refine st264 _ ?_
      show Steps p.tables e below (T264.setTop (mkF m 282 #[.val (.int p1), .val (.int p2), .val (.int p3), .val (.ref b3), .val (.int (15 : Int32)), .val (.ref (A 15)), .val (.int (1 : Int32)), .val (.int (1 : Int32)), .val (.ref b256)] [])) _
      refine XS.aload X264.here hx rfl (hb hby at_282) rfl rfl ?_
      refine st265 _ ?_
      show Steps p.tables e below (T265.setTop (mkF m 287 #[.val (.int p1), .val (.int p2), .val (.int p3), .val (.ref b3), .val (.int (15 : Int32)), .val (.ref (A 15)), .val (.int (1 : Int32)), .val (.int (1 : Int32)), .val (.ref b256)] [(.ref b265), (.ref (A 15))])) _
      refine XS.dup X265.here hx rfl (hb hby at_287) rfl rfl ?_
      refine XS.aload X265.here hx rfl (hb hby at_288) rfl rfl ?_
      refine st287.trans ?_
      show Steps p.tables e below (T287.setTop (mkF m 293 #[.val (.int p1), .val (.int p2), .val (.int p3), .val (.ref b3), .val (.int (15 : Int32)), .val (.ref (A 15)), .val (.int (1 : Int32)), .val (.int (1 : Int32)), .val (.ref b256)] [(.ref b265), (.ref (A 15))])) _
      refine st338.trans ?_
      show Steps p.tables e below (T338.setTop (mkF m 296 #[.val (.int p1), .val (.int p2), .val (.int p3), .val (.ref b3), .val (.int (15 : Int32)), .val (.ref (A 15)), .val (.int (1 : Int32)), .val (.int (1 : Int32)), .val (.ref b256)] [(.int (1 : Int32))])) _
      exact retN X338 hx (t := .boolean) Bd.returns (by simp) (hb hby at_296) hr
    · show LQ n0 _ T338.heap _
      exact ⟨rfl, N338, trivial⟩
  | 16, _, hk89 =>
    obtain ⟨cl339, Ar339, q339, Sz339, Nn339, Hh339, Gg339⟩ := (id V87)
    have hin339 : ¬ ((16 : Int32) < 0 ∨ cl339.slots.size ≤ ((16 : Int32)).toNatClampNeg) := inb_of Sz339 ⟨by decide, by decide⟩
    have hat339 : cl339.slots[((16 : Int32)).toNatClampNeg]? = some (.ref (A 16)) := Has.at Hh339 hin339 rfl
    obtain ⟨cq343, kq343, q343a, q343b, q343c⟩ := isOf hZ e87 (EN.2.2.2.2.1.2.1.ext OL87.2)
    obtain ⟨_, _, ⟨T343, L343, k343, n343⟩, -, X343, ⟨Lc343, hQ343, l343, y343, z343⟩, st343⟩ := X87.virtualBack hx (y := own_m0) (z := own_m0) hown (mvT hZ (hw _ (List.mem_of_getElem? (i := 61) rfl))) (mvT hZ (hw _ (List.mem_of_getElem? (i := 62) rfl))) (notFace_of_selects (args := #[]) (mvT hZ (hw _ (List.mem_of_getElem? (i := 64) rfl)))) (mvT hZ (hw _ (List.mem_of_getElem? (i := 64) rfl))) (mvT hZ (hw _ (List.mem_of_getElem? (i := 63) rfl))) (by decide) (backOf (W := 0) (rm53 l Z a0 hw [] h87 n0 p1 p2 p3 A K cs EN OL87) hZ (hw _ (List.mem_of_getElem? (i := 65) rfl)) (hw _ (List.mem_of_getElem? (i := 3) rfl)) (by decide) (by decide)) q343a q343c (g := (mkF m 234 #[.val (.int p1), .val (.int p2), .val (.int p3), .val (.ref b3), .val (.int (16 : Int32)), .val (.ref (A 16)), .val (.int (0 : Int32)), .unset, .unset] [(.ref (A 16))])) rfl (by rw [hml]; rfl) (Steps.refl _) (argsL := []) (rest := []) (lenOf own_pd0 rfl) rfl (by show 2 * 0 + _ ≤ _; exact Nat.le_of_eq rfl) (hb hby at_234) (fun _ _ => ⟨rfl, e87, (by decide : 1 + 0 ≤ _), (by decide : 28 + 0 ≤ _)⟩)
    dsimp only [Pt.U, Pt.locs, Pt.cells, Pt.slots] at X343 l343 y343 z343 st343 hQ343
    replace X343 := own_sub X343 l343 y343 z343
    obtain ⟨rfl, N343q, e343⟩ := hQ343
    have N343 := Fr.app NF87 N343q
    obtain ⟨fs, hr, hrun, hended, hW, hsame⟩ := X343.leave (v := some (.int (1 : Int32))) (fun h => by rw [Bd.returns] at h; cases h)
    refine ⟨_, _, pre88 _ ?_, hrun, hended, _, _, rfl, ?_, ⟨_, rfl⟩, hW, hsame.mono (by decide) (by decide)⟩
    · show Steps p.tables e below (T87.setTop (mkF m 203 #[.val (.int p1), .val (.int p2), .val (.int p3), .val (.ref b3), .unset, .unset, .unset, .unset, .unset] [(.int ((p1 &&& (2147483647 : Int32)) % (28 : Int32)))])) _
      rw [hk89]
      show Steps p.tables e below (T87.setTop (mkF m 203 #[.val (.int p1), .val (.int p2), .val (.int p3), .val (.ref b3), .unset, .unset, .unset, .unset, .unset] [(.int (16 : Int32))])) _
      refine XS.istore X87.here hx rfl (hb hby at_203) rfl (l' := #[.val (.int p1), .val (.int p2), .val (.int p3), .val (.ref b3), .val (.int (16 : Int32)), .unset, .unset, .unset, .unset]) rfl ?_
      refine XS.aloadN X87.here hx rfl (hb hby at_205) rfl rfl ?_
      refine XS.iload X87.here hx rfl (hb hby at_206) rfl ?_
      show Steps p.tables e below (T87.setTop (mkF m 208 #[.val (.int p1), .val (.int p2), .val (.int p3), .val (.ref b3), .val (.int (16 : Int32)), .unset, .unset, .unset, .unset] [(.int (16 : Int32)), (.ref b3)])) _
      refine X87.aaload hx (j := (16 : Int32)) (v := (.ref (A 16))) (by rw [e87]; exact Ar339.1) (State.isArrayOf_alike hZ.alike Ar339.2.1) rfl Ar339.2.2 hin339 hat339 (g := (mkF m 208 #[.val (.int p1), .val (.int p2), .val (.int p3), .val (.ref b3), .val (.int (16 : Int32)), .unset, .unset, .unset, .unset] [(.int (16 : Int32)), (.ref b3)])) rfl rfl (hb hby at_208) _ ?_
      show Steps p.tables e below (T87.setTop (mkF m 209 #[.val (.int p1), .val (.int p2), .val (.int p3), .val (.ref b3), .val (.int (16 : Int32)), .unset, .unset, .unset, .unset] [(.ref (A 16))])) _
      refine XS.astore X87.here hx rfl (hb hby at_209) rfl rfl (l' := #[.val (.int p1), .val (.int p2), .val (.int p3), .val (.ref b3), .val (.int (16 : Int32)), .val (.ref (A 16)), .unset, .unset, .unset]) rfl ?_
      refine XS.iload X87.here hx rfl (hb hby at_211) rfl ?_
      refine XS.bipush X87.here hx rfl (hb hby at_213) ?_
      show Steps p.tables e below (T87.setTop (mkF m 215 #[.val (.int p1), .val (.int p2), .val (.int p3), .val (.ref b3), .val (.int (16 : Int32)), .val (.ref (A 16)), .unset, .unset, .unset] [(.int (13 : Int32)), (.int (16 : Int32))])) _
      refine XS.icmpNo X87.here hx rfl (hb hby at_215) rfl (flt (by decide : ¬ ((16 : Int32) < (13 : Int32)))).1 ?_
      show Steps p.tables e below (T87.setTop (mkF m 218 #[.val (.int p1), .val (.int p2), .val (.int p3), .val (.ref b3), .val (.int (16 : Int32)), .val (.ref (A 16)), .unset, .unset, .unset] [])) _
      refine XS.iload X87.here hx rfl (hb hby at_218) rfl ?_
      refine XS.bipush X87.here hx rfl (hb hby at_220) ?_
      refine XS.icmpYes X87.here hx rfl (pc0 := 222) (pc' := 229) rfl (hb hby at_222) rfl (tlt (by decide : (15 : Int32) < (16 : Int32))).2.2.1 (by decide) (by decide) ?_
      show Steps p.tables e below (T87.setTop (mkF m 229 #[.val (.int p1), .val (.int p2), .val (.int p3), .val (.ref b3), .val (.int (16 : Int32)), .val (.ref (A 16)), .unset, .unset, .unset] [])) _
      refine XS.iconst X87.here hx rfl (hb hby at_229) ?_
      refine XS.istore X87.here hx rfl (hb hby at_230) rfl (l' := #[.val (.int p1), .val (.int p2), .val (.int p3), .val (.ref b3), .val (.int (16 : Int32)), .val (.ref (A 16)), .val (.int (0 : Int32)), .unset, .unset]) rfl ?_
      refine XS.aload X87.here hx rfl (hb hby at_232) rfl rfl ?_
      show Steps p.tables e below (T87.setTop (mkF m 234 #[.val (.int p1), .val (.int p2), .val (.int p3), .val (.ref b3), .val (.int (16 : Int32)), .val (.ref (A 16)), .val (.int (0 : Int32)), .unset, .unset] [(.ref (A 16))])) _
      refine st343.trans ?_
      show Steps p.tables e below (T343.setTop (mkF m 237 #[.val (.int p1), .val (.int p2), .val (.int p3), .val (.ref b3), .val (.int (16 : Int32)), .val (.ref (A 16)), .val (.int (0 : Int32)), .unset, .unset] [(.int (0 : Int32))])) _
      refine XS.istore X343.here hx rfl (hb hby at_237) rfl (l' := #[.val (.int p1), .val (.int p2), .val (.int p3), .val (.ref b3), .val (.int (16 : Int32)), .val (.ref (A 16)), .val (.int (0 : Int32)), .val (.int (0 : Int32)), .unset]) rfl ?_
      refine XS.iload X343.here hx rfl (hb hby at_239) rfl ?_
      refine XS.iload X343.here hx rfl (hb hby at_241) rfl ?_
      show Steps p.tables e below (T343.setTop (mkF m 243 #[.val (.int p1), .val (.int p2), .val (.int p3), .val (.ref b3), .val (.int (16 : Int32)), .val (.ref (A 16)), .val (.int (0 : Int32)), .val (.int (0 : Int32)), .unset] [(.int (0 : Int32)), (.int (0 : Int32))])) _
      refine XS.icmpYes X343.here hx rfl (pc0 := 243) (pc' := 248) rfl (hb hby at_243) rfl (teq (by decide : (0 : Int32) = (0 : Int32))).1 (by decide) (by decide) ?_
      show Steps p.tables e below (T343.setTop (mkF m 248 #[.val (.int p1), .val (.int p2), .val (.int p3), .val (.ref b3), .val (.int (16 : Int32)), .val (.ref (A 16)), .val (.int (0 : Int32)), .val (.int (0 : Int32)), .unset] [])) _
      refine XS.iload X343.here hx rfl (hb hby at_248) rfl ?_
      refine XS.ifNo X343.here hx rfl (hb hby at_250) rfl ((if0 _ _).trans (teq (by decide : (0 : Int32) = (0 : Int32))).2) ?_
      show Steps p.tables e below (T343.setTop (mkF m 253 #[.val (.int p1), .val (.int p2), .val (.int p3), .val (.ref b3), .val (.int (16 : Int32)), .val (.ref (A 16)), .val (.int (0 : Int32)), .val (.int (0 : Int32)), .unset] [])) _
      refine XS.iconst X343.here hx rfl (hb hby at_253) ?_
      exact retN X343 hx (t := .boolean) Bd.returns (by simp) (hb hby at_254) hr
    · show LQ n0 _ T343.heap _
      exact ⟨rfl, N343, trivial⟩
  | 17, _, hk89 =>
    obtain ⟨cl344, Ar344, q344, Sz344, Nn344, Hh344, Gg344⟩ := (id V87)
    have hin344 : ¬ ((17 : Int32) < 0 ∨ cl344.slots.size ≤ ((17 : Int32)).toNatClampNeg) := inb_of Sz344 ⟨by decide, by decide⟩
    have hat344 : cl344.slots[((17 : Int32)).toNatClampNeg]? = some (.ref (A 17)) := Has.at Hh344 hin344 rfl
    obtain ⟨cq348, kq348, q348a, q348b, q348c⟩ := isOf hZ e87 (EN.2.2.2.2.1.2.2.2.1.ext OL87.2)
    obtain ⟨_, _, ⟨T348, L348, k348, n348⟩, -, X348, ⟨Lc348, hQ348, l348, y348, z348⟩, st348⟩ := X87.virtualBack hx (y := own_m0) (z := own_m0) hown (mvT hZ (hw _ (List.mem_of_getElem? (i := 61) rfl))) (mvT hZ (hw _ (List.mem_of_getElem? (i := 62) rfl))) (notFace_of_selects (args := #[]) (mvT hZ (hw _ (List.mem_of_getElem? (i := 64) rfl)))) (mvT hZ (hw _ (List.mem_of_getElem? (i := 64) rfl))) (mvT hZ (hw _ (List.mem_of_getElem? (i := 63) rfl))) (by decide) (backOf (W := 0) (rm54 l Z a0 hw [] h87 n0 p1 p2 p3 A K cs EN OL87) hZ (hw _ (List.mem_of_getElem? (i := 65) rfl)) (hw _ (List.mem_of_getElem? (i := 3) rfl)) (by decide) (by decide)) q348a q348c (g := (mkF m 234 #[.val (.int p1), .val (.int p2), .val (.int p3), .val (.ref b3), .val (.int (17 : Int32)), .val (.ref (A 17)), .val (.int (0 : Int32)), .unset, .unset] [(.ref (A 17))])) rfl (by rw [hml]; rfl) (Steps.refl _) (argsL := []) (rest := []) (lenOf own_pd0 rfl) rfl (by show 2 * 0 + _ ≤ _; exact Nat.le_of_eq rfl) (hb hby at_234) (fun _ _ => ⟨rfl, e87, (by decide : 1 + 0 ≤ _), (by decide : 28 + 0 ≤ _)⟩)
    dsimp only [Pt.U, Pt.locs, Pt.cells, Pt.slots] at X348 l348 y348 z348 st348 hQ348
    replace X348 := own_sub X348 l348 y348 z348
    obtain ⟨rfl, N348q, e348⟩ := hQ348
    have N348 := Fr.app NF87 N348q
    obtain ⟨fs, hr, hrun, hended, hW, hsame⟩ := X348.leave (v := some (.int (1 : Int32))) (fun h => by rw [Bd.returns] at h; cases h)
    refine ⟨_, _, pre88 _ ?_, hrun, hended, _, _, rfl, ?_, ⟨_, rfl⟩, hW, hsame.mono (by decide) (by decide)⟩
    · show Steps p.tables e below (T87.setTop (mkF m 203 #[.val (.int p1), .val (.int p2), .val (.int p3), .val (.ref b3), .unset, .unset, .unset, .unset, .unset] [(.int ((p1 &&& (2147483647 : Int32)) % (28 : Int32)))])) _
      rw [hk89]
      show Steps p.tables e below (T87.setTop (mkF m 203 #[.val (.int p1), .val (.int p2), .val (.int p3), .val (.ref b3), .unset, .unset, .unset, .unset, .unset] [(.int (17 : Int32))])) _
      refine XS.istore X87.here hx rfl (hb hby at_203) rfl (l' := #[.val (.int p1), .val (.int p2), .val (.int p3), .val (.ref b3), .val (.int (17 : Int32)), .unset, .unset, .unset, .unset]) rfl ?_
      refine XS.aloadN X87.here hx rfl (hb hby at_205) rfl rfl ?_
      refine XS.iload X87.here hx rfl (hb hby at_206) rfl ?_
      show Steps p.tables e below (T87.setTop (mkF m 208 #[.val (.int p1), .val (.int p2), .val (.int p3), .val (.ref b3), .val (.int (17 : Int32)), .unset, .unset, .unset, .unset] [(.int (17 : Int32)), (.ref b3)])) _
      refine X87.aaload hx (j := (17 : Int32)) (v := (.ref (A 17))) (by rw [e87]; exact Ar344.1) (State.isArrayOf_alike hZ.alike Ar344.2.1) rfl Ar344.2.2 hin344 hat344 (g := (mkF m 208 #[.val (.int p1), .val (.int p2), .val (.int p3), .val (.ref b3), .val (.int (17 : Int32)), .unset, .unset, .unset, .unset] [(.int (17 : Int32)), (.ref b3)])) rfl rfl (hb hby at_208) _ ?_
      show Steps p.tables e below (T87.setTop (mkF m 209 #[.val (.int p1), .val (.int p2), .val (.int p3), .val (.ref b3), .val (.int (17 : Int32)), .unset, .unset, .unset, .unset] [(.ref (A 17))])) _
      refine XS.astore X87.here hx rfl (hb hby at_209) rfl rfl (l' := #[.val (.int p1), .val (.int p2), .val (.int p3), .val (.ref b3), .val (.int (17 : Int32)), .val (.ref (A 17)), .unset, .unset, .unset]) rfl ?_
      refine XS.iload X87.here hx rfl (hb hby at_211) rfl ?_
      refine XS.bipush X87.here hx rfl (hb hby at_213) ?_
      show Steps p.tables e below (T87.setTop (mkF m 215 #[.val (.int p1), .val (.int p2), .val (.int p3), .val (.ref b3), .val (.int (17 : Int32)), .val (.ref (A 17)), .unset, .unset, .unset] [(.int (13 : Int32)), (.int (17 : Int32))])) _
      refine XS.icmpNo X87.here hx rfl (hb hby at_215) rfl (flt (by decide : ¬ ((17 : Int32) < (13 : Int32)))).1 ?_
      show Steps p.tables e below (T87.setTop (mkF m 218 #[.val (.int p1), .val (.int p2), .val (.int p3), .val (.ref b3), .val (.int (17 : Int32)), .val (.ref (A 17)), .unset, .unset, .unset] [])) _
      refine XS.iload X87.here hx rfl (hb hby at_218) rfl ?_
      refine XS.bipush X87.here hx rfl (hb hby at_220) ?_
      refine XS.icmpYes X87.here hx rfl (pc0 := 222) (pc' := 229) rfl (hb hby at_222) rfl (tlt (by decide : (15 : Int32) < (17 : Int32))).2.2.1 (by decide) (by decide) ?_
      show Steps p.tables e below (T87.setTop (mkF m 229 #[.val (.int p1), .val (.int p2), .val (.int p3), .val (.ref b3), .val (.int (17 : Int32)), .val (.ref (A 17)), .unset, .unset, .unset] [])) _
      refine XS.iconst X87.here hx rfl (hb hby at_229) ?_
      refine XS.istore X87.here hx rfl (hb hby at_230) rfl (l' := #[.val (.int p1), .val (.int p2), .val (.int p3), .val (.ref b3), .val (.int (17 : Int32)), .val (.ref (A 17)), .val (.int (0 : Int32)), .unset, .unset]) rfl ?_
      refine XS.aload X87.here hx rfl (hb hby at_232) rfl rfl ?_
      show Steps p.tables e below (T87.setTop (mkF m 234 #[.val (.int p1), .val (.int p2), .val (.int p3), .val (.ref b3), .val (.int (17 : Int32)), .val (.ref (A 17)), .val (.int (0 : Int32)), .unset, .unset] [(.ref (A 17))])) _
      refine st348.trans ?_
      show Steps p.tables e below (T348.setTop (mkF m 237 #[.val (.int p1), .val (.int p2), .val (.int p3), .val (.ref b3), .val (.int (17 : Int32)), .val (.ref (A 17)), .val (.int (0 : Int32)), .unset, .unset] [(.int (0 : Int32))])) _
      refine XS.istore X348.here hx rfl (hb hby at_237) rfl (l' := #[.val (.int p1), .val (.int p2), .val (.int p3), .val (.ref b3), .val (.int (17 : Int32)), .val (.ref (A 17)), .val (.int (0 : Int32)), .val (.int (0 : Int32)), .unset]) rfl ?_
      refine XS.iload X348.here hx rfl (hb hby at_239) rfl ?_
      refine XS.iload X348.here hx rfl (hb hby at_241) rfl ?_
      show Steps p.tables e below (T348.setTop (mkF m 243 #[.val (.int p1), .val (.int p2), .val (.int p3), .val (.ref b3), .val (.int (17 : Int32)), .val (.ref (A 17)), .val (.int (0 : Int32)), .val (.int (0 : Int32)), .unset] [(.int (0 : Int32)), (.int (0 : Int32))])) _
      refine XS.icmpYes X348.here hx rfl (pc0 := 243) (pc' := 248) rfl (hb hby at_243) rfl (teq (by decide : (0 : Int32) = (0 : Int32))).1 (by decide) (by decide) ?_
      show Steps p.tables e below (T348.setTop (mkF m 248 #[.val (.int p1), .val (.int p2), .val (.int p3), .val (.ref b3), .val (.int (17 : Int32)), .val (.ref (A 17)), .val (.int (0 : Int32)), .val (.int (0 : Int32)), .unset] [])) _
      refine XS.iload X348.here hx rfl (hb hby at_248) rfl ?_
      refine XS.ifNo X348.here hx rfl (hb hby at_250) rfl ((if0 _ _).trans (teq (by decide : (0 : Int32) = (0 : Int32))).2) ?_
      show Steps p.tables e below (T348.setTop (mkF m 253 #[.val (.int p1), .val (.int p2), .val (.int p3), .val (.ref b3), .val (.int (17 : Int32)), .val (.ref (A 17)), .val (.int (0 : Int32)), .val (.int (0 : Int32)), .unset] [])) _
      refine XS.iconst X348.here hx rfl (hb hby at_253) ?_
      exact retN X348 hx (t := .boolean) Bd.returns (by simp) (hb hby at_254) hr
    · show LQ n0 _ T348.heap _
      exact ⟨rfl, N348, trivial⟩
  | 18, _, hk89 =>
    obtain ⟨cl349, Ar349, q349, Sz349, Nn349, Hh349, Gg349⟩ := (id V87)
    have hin349 : ¬ ((18 : Int32) < 0 ∨ cl349.slots.size ≤ ((18 : Int32)).toNatClampNeg) := inb_of Sz349 ⟨by decide, by decide⟩
    have hat349 : cl349.slots[((18 : Int32)).toNatClampNeg]? = some (.ref (A 18)) := Has.at Hh349 hin349 rfl
    obtain ⟨cq353, kq353, q353a, q353b, q353c⟩ := isOf hZ e87 (EN.2.2.2.2.1.2.2.2.2.2.1.ext OL87.2)
    obtain ⟨_, _, ⟨T353, L353, k353, n353⟩, -, X353, ⟨Lc353, hQ353, l353, y353, z353⟩, st353⟩ := X87.virtualBack hx (y := own_m0) (z := own_m0) hown (mvT hZ (hw _ (List.mem_of_getElem? (i := 61) rfl))) (mvT hZ (hw _ (List.mem_of_getElem? (i := 62) rfl))) (notFace_of_selects (args := #[]) (mvT hZ (hw _ (List.mem_of_getElem? (i := 64) rfl)))) (mvT hZ (hw _ (List.mem_of_getElem? (i := 64) rfl))) (mvT hZ (hw _ (List.mem_of_getElem? (i := 63) rfl))) (by decide) (backOf (W := 0) (rm55 l Z a0 hw [] h87 n0 p1 p2 p3 A K cs EN OL87) hZ (hw _ (List.mem_of_getElem? (i := 65) rfl)) (hw _ (List.mem_of_getElem? (i := 3) rfl)) (by decide) (by decide)) q353a q353c (g := (mkF m 234 #[.val (.int p1), .val (.int p2), .val (.int p3), .val (.ref b3), .val (.int (18 : Int32)), .val (.ref (A 18)), .val (.int (0 : Int32)), .unset, .unset] [(.ref (A 18))])) rfl (by rw [hml]; rfl) (Steps.refl _) (argsL := []) (rest := []) (lenOf own_pd0 rfl) rfl (by show 2 * 0 + _ ≤ _; exact Nat.le_of_eq rfl) (hb hby at_234) (fun _ _ => ⟨rfl, e87, (by decide : 1 + 0 ≤ _), (by decide : 28 + 0 ≤ _)⟩)
    dsimp only [Pt.U, Pt.locs, Pt.cells, Pt.slots] at X353 l353 y353 z353 st353 hQ353
    replace X353 := own_sub X353 l353 y353 z353
    obtain ⟨rfl, N353q, e353⟩ := hQ353
    have N353 := Fr.app NF87 N353q
    obtain ⟨fs, hr, hrun, hended, hW, hsame⟩ := X353.leave (v := some (.int (1 : Int32))) (fun h => by rw [Bd.returns] at h; cases h)
    refine ⟨_, _, pre88 _ ?_, hrun, hended, _, _, rfl, ?_, ⟨_, rfl⟩, hW, hsame.mono (by decide) (by decide)⟩
    · show Steps p.tables e below (T87.setTop (mkF m 203 #[.val (.int p1), .val (.int p2), .val (.int p3), .val (.ref b3), .unset, .unset, .unset, .unset, .unset] [(.int ((p1 &&& (2147483647 : Int32)) % (28 : Int32)))])) _
      rw [hk89]
      show Steps p.tables e below (T87.setTop (mkF m 203 #[.val (.int p1), .val (.int p2), .val (.int p3), .val (.ref b3), .unset, .unset, .unset, .unset, .unset] [(.int (18 : Int32))])) _
      refine XS.istore X87.here hx rfl (hb hby at_203) rfl (l' := #[.val (.int p1), .val (.int p2), .val (.int p3), .val (.ref b3), .val (.int (18 : Int32)), .unset, .unset, .unset, .unset]) rfl ?_
      refine XS.aloadN X87.here hx rfl (hb hby at_205) rfl rfl ?_
      refine XS.iload X87.here hx rfl (hb hby at_206) rfl ?_
      show Steps p.tables e below (T87.setTop (mkF m 208 #[.val (.int p1), .val (.int p2), .val (.int p3), .val (.ref b3), .val (.int (18 : Int32)), .unset, .unset, .unset, .unset] [(.int (18 : Int32)), (.ref b3)])) _
      refine X87.aaload hx (j := (18 : Int32)) (v := (.ref (A 18))) (by rw [e87]; exact Ar349.1) (State.isArrayOf_alike hZ.alike Ar349.2.1) rfl Ar349.2.2 hin349 hat349 (g := (mkF m 208 #[.val (.int p1), .val (.int p2), .val (.int p3), .val (.ref b3), .val (.int (18 : Int32)), .unset, .unset, .unset, .unset] [(.int (18 : Int32)), (.ref b3)])) rfl rfl (hb hby at_208) _ ?_
      show Steps p.tables e below (T87.setTop (mkF m 209 #[.val (.int p1), .val (.int p2), .val (.int p3), .val (.ref b3), .val (.int (18 : Int32)), .unset, .unset, .unset, .unset] [(.ref (A 18))])) _
      refine XS.astore X87.here hx rfl (hb hby at_209) rfl rfl (l' := #[.val (.int p1), .val (.int p2), .val (.int p3), .val (.ref b3), .val (.int (18 : Int32)), .val (.ref (A 18)), .unset, .unset, .unset]) rfl ?_
      refine XS.iload X87.here hx rfl (hb hby at_211) rfl ?_
      refine XS.bipush X87.here hx rfl (hb hby at_213) ?_
      show Steps p.tables e below (T87.setTop (mkF m 215 #[.val (.int p1), .val (.int p2), .val (.int p3), .val (.ref b3), .val (.int (18 : Int32)), .val (.ref (A 18)), .unset, .unset, .unset] [(.int (13 : Int32)), (.int (18 : Int32))])) _
      refine XS.icmpNo X87.here hx rfl (hb hby at_215) rfl (flt (by decide : ¬ ((18 : Int32) < (13 : Int32)))).1 ?_
      show Steps p.tables e below (T87.setTop (mkF m 218 #[.val (.int p1), .val (.int p2), .val (.int p3), .val (.ref b3), .val (.int (18 : Int32)), .val (.ref (A 18)), .unset, .unset, .unset] [])) _
      refine XS.iload X87.here hx rfl (hb hby at_218) rfl ?_
      refine XS.bipush X87.here hx rfl (hb hby at_220) ?_
      refine XS.icmpYes X87.here hx rfl (pc0 := 222) (pc' := 229) rfl (hb hby at_222) rfl (tlt (by decide : (15 : Int32) < (18 : Int32))).2.2.1 (by decide) (by decide) ?_
      show Steps p.tables e below (T87.setTop (mkF m 229 #[.val (.int p1), .val (.int p2), .val (.int p3), .val (.ref b3), .val (.int (18 : Int32)), .val (.ref (A 18)), .unset, .unset, .unset] [])) _
      refine XS.iconst X87.here hx rfl (hb hby at_229) ?_
      refine XS.istore X87.here hx rfl (hb hby at_230) rfl (l' := #[.val (.int p1), .val (.int p2), .val (.int p3), .val (.ref b3), .val (.int (18 : Int32)), .val (.ref (A 18)), .val (.int (0 : Int32)), .unset, .unset]) rfl ?_
      refine XS.aload X87.here hx rfl (hb hby at_232) rfl rfl ?_
      show Steps p.tables e below (T87.setTop (mkF m 234 #[.val (.int p1), .val (.int p2), .val (.int p3), .val (.ref b3), .val (.int (18 : Int32)), .val (.ref (A 18)), .val (.int (0 : Int32)), .unset, .unset] [(.ref (A 18))])) _
      refine st353.trans ?_
      show Steps p.tables e below (T353.setTop (mkF m 237 #[.val (.int p1), .val (.int p2), .val (.int p3), .val (.ref b3), .val (.int (18 : Int32)), .val (.ref (A 18)), .val (.int (0 : Int32)), .unset, .unset] [(.int (0 : Int32))])) _
      refine XS.istore X353.here hx rfl (hb hby at_237) rfl (l' := #[.val (.int p1), .val (.int p2), .val (.int p3), .val (.ref b3), .val (.int (18 : Int32)), .val (.ref (A 18)), .val (.int (0 : Int32)), .val (.int (0 : Int32)), .unset]) rfl ?_
      refine XS.iload X353.here hx rfl (hb hby at_239) rfl ?_
      refine XS.iload X353.here hx rfl (hb hby at_241) rfl ?_
      show Steps p.tables e below (T353.setTop (mkF m 243 #[.val (.int p1), .val (.int p2), .val (.int p3), .val (.ref b3), .val (.int (18 : Int32)), .val (.ref (A 18)), .val (.int (0 : Int32)), .val (.int (0 : Int32)), .unset] [(.int (0 : Int32)), (.int (0 : Int32))])) _
      refine XS.icmpYes X353.here hx rfl (pc0 := 243) (pc' := 248) rfl (hb hby at_243) rfl (teq (by decide : (0 : Int32) = (0 : Int32))).1 (by decide) (by decide) ?_
      show Steps p.tables e below (T353.setTop (mkF m 248 #[.val (.int p1), .val (.int p2), .val (.int p3), .val (.ref b3), .val (.int (18 : Int32)), .val (.ref (A 18)), .val (.int (0 : Int32)), .val (.int (0 : Int32)), .unset] [])) _
      refine XS.iload X353.here hx rfl (hb hby at_248) rfl ?_
      refine XS.ifNo X353.here hx rfl (hb hby at_250) rfl ((if0 _ _).trans (teq (by decide : (0 : Int32) = (0 : Int32))).2) ?_
      show Steps p.tables e below (T353.setTop (mkF m 253 #[.val (.int p1), .val (.int p2), .val (.int p3), .val (.ref b3), .val (.int (18 : Int32)), .val (.ref (A 18)), .val (.int (0 : Int32)), .val (.int (0 : Int32)), .unset] [])) _
      refine XS.iconst X353.here hx rfl (hb hby at_253) ?_
      exact retN X353 hx (t := .boolean) Bd.returns (by simp) (hb hby at_254) hr
    · show LQ n0 _ T353.heap _
      exact ⟨rfl, N353, trivial⟩
  | 19, _, hk89 =>
    obtain ⟨cl354, Ar354, q354, Sz354, Nn354, Hh354, Gg354⟩ := (id V87)
    have hin354 : ¬ ((19 : Int32) < 0 ∨ cl354.slots.size ≤ ((19 : Int32)).toNatClampNeg) := inb_of Sz354 ⟨by decide, by decide⟩
    have hat354 : cl354.slots[((19 : Int32)).toNatClampNeg]? = some (.ref (A 19)) := Has.at Hh354 hin354 rfl
    obtain ⟨cq358, kq358, q358a, q358b, q358c⟩ := isOf hZ e87 (EN.2.2.2.2.1.2.2.2.2.2.2.2.1.ext OL87.2)
    obtain ⟨_, _, ⟨T358, L358, k358, n358⟩, -, X358, ⟨Lc358, hQ358, l358, y358, z358⟩, st358⟩ := X87.virtualBack hx (y := own_m0) (z := own_m0) hown (mvT hZ (hw _ (List.mem_of_getElem? (i := 61) rfl))) (mvT hZ (hw _ (List.mem_of_getElem? (i := 62) rfl))) (notFace_of_selects (args := #[]) (mvT hZ (hw _ (List.mem_of_getElem? (i := 64) rfl)))) (mvT hZ (hw _ (List.mem_of_getElem? (i := 64) rfl))) (mvT hZ (hw _ (List.mem_of_getElem? (i := 63) rfl))) (by decide) (backOf (W := 0) (rm56 l Z a0 hw [] h87 n0 p1 p2 p3 A K cs EN OL87) hZ (hw _ (List.mem_of_getElem? (i := 65) rfl)) (hw _ (List.mem_of_getElem? (i := 3) rfl)) (by decide) (by decide)) q358a q358c (g := (mkF m 234 #[.val (.int p1), .val (.int p2), .val (.int p3), .val (.ref b3), .val (.int (19 : Int32)), .val (.ref (A 19)), .val (.int (0 : Int32)), .unset, .unset] [(.ref (A 19))])) rfl (by rw [hml]; rfl) (Steps.refl _) (argsL := []) (rest := []) (lenOf own_pd0 rfl) rfl (by show 2 * 0 + _ ≤ _; exact Nat.le_of_eq rfl) (hb hby at_234) (fun _ _ => ⟨rfl, e87, (by decide : 1 + 0 ≤ _), (by decide : 28 + 0 ≤ _)⟩)
    dsimp only [Pt.U, Pt.locs, Pt.cells, Pt.slots] at X358 l358 y358 z358 st358 hQ358
    replace X358 := own_sub X358 l358 y358 z358
    obtain ⟨rfl, N358q, e358⟩ := hQ358
    have N358 := Fr.app NF87 N358q
    obtain ⟨fs, hr, hrun, hended, hW, hsame⟩ := X358.leave (v := some (.int (1 : Int32))) (fun h => by rw [Bd.returns] at h; cases h)
    refine ⟨_, _, pre88 _ ?_, hrun, hended, _, _, rfl, ?_, ⟨_, rfl⟩, hW, hsame.mono (by decide) (by decide)⟩
    · show Steps p.tables e below (T87.setTop (mkF m 203 #[.val (.int p1), .val (.int p2), .val (.int p3), .val (.ref b3), .unset, .unset, .unset, .unset, .unset] [(.int ((p1 &&& (2147483647 : Int32)) % (28 : Int32)))])) _
      rw [hk89]
      show Steps p.tables e below (T87.setTop (mkF m 203 #[.val (.int p1), .val (.int p2), .val (.int p3), .val (.ref b3), .unset, .unset, .unset, .unset, .unset] [(.int (19 : Int32))])) _
      refine XS.istore X87.here hx rfl (hb hby at_203) rfl (l' := #[.val (.int p1), .val (.int p2), .val (.int p3), .val (.ref b3), .val (.int (19 : Int32)), .unset, .unset, .unset, .unset]) rfl ?_
      refine XS.aloadN X87.here hx rfl (hb hby at_205) rfl rfl ?_
      refine XS.iload X87.here hx rfl (hb hby at_206) rfl ?_
      show Steps p.tables e below (T87.setTop (mkF m 208 #[.val (.int p1), .val (.int p2), .val (.int p3), .val (.ref b3), .val (.int (19 : Int32)), .unset, .unset, .unset, .unset] [(.int (19 : Int32)), (.ref b3)])) _
      refine X87.aaload hx (j := (19 : Int32)) (v := (.ref (A 19))) (by rw [e87]; exact Ar354.1) (State.isArrayOf_alike hZ.alike Ar354.2.1) rfl Ar354.2.2 hin354 hat354 (g := (mkF m 208 #[.val (.int p1), .val (.int p2), .val (.int p3), .val (.ref b3), .val (.int (19 : Int32)), .unset, .unset, .unset, .unset] [(.int (19 : Int32)), (.ref b3)])) rfl rfl (hb hby at_208) _ ?_
      show Steps p.tables e below (T87.setTop (mkF m 209 #[.val (.int p1), .val (.int p2), .val (.int p3), .val (.ref b3), .val (.int (19 : Int32)), .unset, .unset, .unset, .unset] [(.ref (A 19))])) _
      refine XS.astore X87.here hx rfl (hb hby at_209) rfl rfl (l' := #[.val (.int p1), .val (.int p2), .val (.int p3), .val (.ref b3), .val (.int (19 : Int32)), .val (.ref (A 19)), .unset, .unset, .unset]) rfl ?_
      refine XS.iload X87.here hx rfl (hb hby at_211) rfl ?_
      refine XS.bipush X87.here hx rfl (hb hby at_213) ?_
      show Steps p.tables e below (T87.setTop (mkF m 215 #[.val (.int p1), .val (.int p2), .val (.int p3), .val (.ref b3), .val (.int (19 : Int32)), .val (.ref (A 19)), .unset, .unset, .unset] [(.int (13 : Int32)), (.int (19 : Int32))])) _
      refine XS.icmpNo X87.here hx rfl (hb hby at_215) rfl (flt (by decide : ¬ ((19 : Int32) < (13 : Int32)))).1 ?_
      show Steps p.tables e below (T87.setTop (mkF m 218 #[.val (.int p1), .val (.int p2), .val (.int p3), .val (.ref b3), .val (.int (19 : Int32)), .val (.ref (A 19)), .unset, .unset, .unset] [])) _
      refine XS.iload X87.here hx rfl (hb hby at_218) rfl ?_
      refine XS.bipush X87.here hx rfl (hb hby at_220) ?_
      refine XS.icmpYes X87.here hx rfl (pc0 := 222) (pc' := 229) rfl (hb hby at_222) rfl (tlt (by decide : (15 : Int32) < (19 : Int32))).2.2.1 (by decide) (by decide) ?_
      show Steps p.tables e below (T87.setTop (mkF m 229 #[.val (.int p1), .val (.int p2), .val (.int p3), .val (.ref b3), .val (.int (19 : Int32)), .val (.ref (A 19)), .unset, .unset, .unset] [])) _
      refine XS.iconst X87.here hx rfl (hb hby at_229) ?_
      refine XS.istore X87.here hx rfl (hb hby at_230) rfl (l' := #[.val (.int p1), .val (.int p2), .val (.int p3), .val (.ref b3), .val (.int (19 : Int32)), .val (.ref (A 19)), .val (.int (0 : Int32)), .unset, .unset]) rfl ?_
      refine XS.aload X87.here hx rfl (hb hby at_232) rfl rfl ?_
      show Steps p.tables e below (T87.setTop (mkF m 234 #[.val (.int p1), .val (.int p2), .val (.int p3), .val (.ref b3), .val (.int (19 : Int32)), .val (.ref (A 19)), .val (.int (0 : Int32)), .unset, .unset] [(.ref (A 19))])) _
      refine st358.trans ?_
      show Steps p.tables e below (T358.setTop (mkF m 237 #[.val (.int p1), .val (.int p2), .val (.int p3), .val (.ref b3), .val (.int (19 : Int32)), .val (.ref (A 19)), .val (.int (0 : Int32)), .unset, .unset] [(.int (0 : Int32))])) _
      refine XS.istore X358.here hx rfl (hb hby at_237) rfl (l' := #[.val (.int p1), .val (.int p2), .val (.int p3), .val (.ref b3), .val (.int (19 : Int32)), .val (.ref (A 19)), .val (.int (0 : Int32)), .val (.int (0 : Int32)), .unset]) rfl ?_
      refine XS.iload X358.here hx rfl (hb hby at_239) rfl ?_
      refine XS.iload X358.here hx rfl (hb hby at_241) rfl ?_
      show Steps p.tables e below (T358.setTop (mkF m 243 #[.val (.int p1), .val (.int p2), .val (.int p3), .val (.ref b3), .val (.int (19 : Int32)), .val (.ref (A 19)), .val (.int (0 : Int32)), .val (.int (0 : Int32)), .unset] [(.int (0 : Int32)), (.int (0 : Int32))])) _
      refine XS.icmpYes X358.here hx rfl (pc0 := 243) (pc' := 248) rfl (hb hby at_243) rfl (teq (by decide : (0 : Int32) = (0 : Int32))).1 (by decide) (by decide) ?_
      show Steps p.tables e below (T358.setTop (mkF m 248 #[.val (.int p1), .val (.int p2), .val (.int p3), .val (.ref b3), .val (.int (19 : Int32)), .val (.ref (A 19)), .val (.int (0 : Int32)), .val (.int (0 : Int32)), .unset] [])) _
      refine XS.iload X358.here hx rfl (hb hby at_248) rfl ?_
      refine XS.ifNo X358.here hx rfl (hb hby at_250) rfl ((if0 _ _).trans (teq (by decide : (0 : Int32) = (0 : Int32))).2) ?_
      show Steps p.tables e below (T358.setTop (mkF m 253 #[.val (.int p1), .val (.int p2), .val (.int p3), .val (.ref b3), .val (.int (19 : Int32)), .val (.ref (A 19)), .val (.int (0 : Int32)), .val (.int (0 : Int32)), .unset] [])) _
      refine XS.iconst X358.here hx rfl (hb hby at_253) ?_
      exact retN X358 hx (t := .boolean) Bd.returns (by simp) (hb hby at_254) hr
    · show LQ n0 _ T358.heap _
      exact ⟨rfl, N358, trivial⟩
  | 20, _, hk89 =>
    obtain ⟨cl359, Ar359, q359, Sz359, Nn359, Hh359, Gg359⟩ := (id V87)
    have hin359 : ¬ ((20 : Int32) < 0 ∨ cl359.slots.size ≤ ((20 : Int32)).toNatClampNeg) := inb_of Sz359 ⟨by decide, by decide⟩
    have hat359 : cl359.slots[((20 : Int32)).toNatClampNeg]? = some (.ref (A 20)) := Has.at Hh359 hin359 rfl
    obtain ⟨cq363, kq363, q363a, q363b, q363c⟩ := isOf hZ e87 (EN.2.2.2.2.2.1.2.1.ext OL87.2)
    obtain ⟨_, _, ⟨T363, L363, k363, n363⟩, -, X363, ⟨Lc363, hQ363, l363, y363, z363⟩, st363⟩ := X87.virtualBack hx (y := own_m0) (z := own_m0) hown (mvT hZ (hw _ (List.mem_of_getElem? (i := 61) rfl))) (mvT hZ (hw _ (List.mem_of_getElem? (i := 62) rfl))) (notFace_of_selects (args := #[]) (mvT hZ (hw _ (List.mem_of_getElem? (i := 64) rfl)))) (mvT hZ (hw _ (List.mem_of_getElem? (i := 64) rfl))) (mvT hZ (hw _ (List.mem_of_getElem? (i := 63) rfl))) (by decide) (backOf (W := 0) (rm57 l Z a0 hw [] h87 n0 p1 p2 p3 A K cs EN OL87) hZ (hw _ (List.mem_of_getElem? (i := 65) rfl)) (hw _ (List.mem_of_getElem? (i := 3) rfl)) (by decide) (by decide)) q363a q363c (g := (mkF m 234 #[.val (.int p1), .val (.int p2), .val (.int p3), .val (.ref b3), .val (.int (20 : Int32)), .val (.ref (A 20)), .val (.int (0 : Int32)), .unset, .unset] [(.ref (A 20))])) rfl (by rw [hml]; rfl) (Steps.refl _) (argsL := []) (rest := []) (lenOf own_pd0 rfl) rfl (by show 2 * 0 + _ ≤ _; exact Nat.le_of_eq rfl) (hb hby at_234) (fun _ _ => ⟨rfl, e87, (by decide : 1 + 0 ≤ _), (by decide : 28 + 0 ≤ _)⟩)
    dsimp only [Pt.U, Pt.locs, Pt.cells, Pt.slots] at X363 l363 y363 z363 st363 hQ363
    replace X363 := own_sub X363 l363 y363 z363
    obtain ⟨rfl, N363q, e363⟩ := hQ363
    have N363 := Fr.app NF87 N363q
    obtain ⟨fs, hr, hrun, hended, hW, hsame⟩ := X363.leave (v := some (.int (1 : Int32))) (fun h => by rw [Bd.returns] at h; cases h)
    refine ⟨_, _, pre88 _ ?_, hrun, hended, _, _, rfl, ?_, ⟨_, rfl⟩, hW, hsame.mono (by decide) (by decide)⟩
    · show Steps p.tables e below (T87.setTop (mkF m 203 #[.val (.int p1), .val (.int p2), .val (.int p3), .val (.ref b3), .unset, .unset, .unset, .unset, .unset] [(.int ((p1 &&& (2147483647 : Int32)) % (28 : Int32)))])) _
      rw [hk89]
      show Steps p.tables e below (T87.setTop (mkF m 203 #[.val (.int p1), .val (.int p2), .val (.int p3), .val (.ref b3), .unset, .unset, .unset, .unset, .unset] [(.int (20 : Int32))])) _
      refine XS.istore X87.here hx rfl (hb hby at_203) rfl (l' := #[.val (.int p1), .val (.int p2), .val (.int p3), .val (.ref b3), .val (.int (20 : Int32)), .unset, .unset, .unset, .unset]) rfl ?_
      refine XS.aloadN X87.here hx rfl (hb hby at_205) rfl rfl ?_
      refine XS.iload X87.here hx rfl (hb hby at_206) rfl ?_
      show Steps p.tables e below (T87.setTop (mkF m 208 #[.val (.int p1), .val (.int p2), .val (.int p3), .val (.ref b3), .val (.int (20 : Int32)), .unset, .unset, .unset, .unset] [(.int (20 : Int32)), (.ref b3)])) _
      refine X87.aaload hx (j := (20 : Int32)) (v := (.ref (A 20))) (by rw [e87]; exact Ar359.1) (State.isArrayOf_alike hZ.alike Ar359.2.1) rfl Ar359.2.2 hin359 hat359 (g := (mkF m 208 #[.val (.int p1), .val (.int p2), .val (.int p3), .val (.ref b3), .val (.int (20 : Int32)), .unset, .unset, .unset, .unset] [(.int (20 : Int32)), (.ref b3)])) rfl rfl (hb hby at_208) _ ?_
      show Steps p.tables e below (T87.setTop (mkF m 209 #[.val (.int p1), .val (.int p2), .val (.int p3), .val (.ref b3), .val (.int (20 : Int32)), .unset, .unset, .unset, .unset] [(.ref (A 20))])) _
      refine XS.astore X87.here hx rfl (hb hby at_209) rfl rfl (l' := #[.val (.int p1), .val (.int p2), .val (.int p3), .val (.ref b3), .val (.int (20 : Int32)), .val (.ref (A 20)), .unset, .unset, .unset]) rfl ?_
      refine XS.iload X87.here hx rfl (hb hby at_211) rfl ?_
      refine XS.bipush X87.here hx rfl (hb hby at_213) ?_
      show Steps p.tables e below (T87.setTop (mkF m 215 #[.val (.int p1), .val (.int p2), .val (.int p3), .val (.ref b3), .val (.int (20 : Int32)), .val (.ref (A 20)), .unset, .unset, .unset] [(.int (13 : Int32)), (.int (20 : Int32))])) _
      refine XS.icmpNo X87.here hx rfl (hb hby at_215) rfl (flt (by decide : ¬ ((20 : Int32) < (13 : Int32)))).1 ?_
      show Steps p.tables e below (T87.setTop (mkF m 218 #[.val (.int p1), .val (.int p2), .val (.int p3), .val (.ref b3), .val (.int (20 : Int32)), .val (.ref (A 20)), .unset, .unset, .unset] [])) _
      refine XS.iload X87.here hx rfl (hb hby at_218) rfl ?_
      refine XS.bipush X87.here hx rfl (hb hby at_220) ?_
      refine XS.icmpYes X87.here hx rfl (pc0 := 222) (pc' := 229) rfl (hb hby at_222) rfl (tlt (by decide : (15 : Int32) < (20 : Int32))).2.2.1 (by decide) (by decide) ?_
      show Steps p.tables e below (T87.setTop (mkF m 229 #[.val (.int p1), .val (.int p2), .val (.int p3), .val (.ref b3), .val (.int (20 : Int32)), .val (.ref (A 20)), .unset, .unset, .unset] [])) _
      refine XS.iconst X87.here hx rfl (hb hby at_229) ?_
      refine XS.istore X87.here hx rfl (hb hby at_230) rfl (l' := #[.val (.int p1), .val (.int p2), .val (.int p3), .val (.ref b3), .val (.int (20 : Int32)), .val (.ref (A 20)), .val (.int (0 : Int32)), .unset, .unset]) rfl ?_
      refine XS.aload X87.here hx rfl (hb hby at_232) rfl rfl ?_
      show Steps p.tables e below (T87.setTop (mkF m 234 #[.val (.int p1), .val (.int p2), .val (.int p3), .val (.ref b3), .val (.int (20 : Int32)), .val (.ref (A 20)), .val (.int (0 : Int32)), .unset, .unset] [(.ref (A 20))])) _
      refine st363.trans ?_
      show Steps p.tables e below (T363.setTop (mkF m 237 #[.val (.int p1), .val (.int p2), .val (.int p3), .val (.ref b3), .val (.int (20 : Int32)), .val (.ref (A 20)), .val (.int (0 : Int32)), .unset, .unset] [(.int (0 : Int32))])) _
      refine XS.istore X363.here hx rfl (hb hby at_237) rfl (l' := #[.val (.int p1), .val (.int p2), .val (.int p3), .val (.ref b3), .val (.int (20 : Int32)), .val (.ref (A 20)), .val (.int (0 : Int32)), .val (.int (0 : Int32)), .unset]) rfl ?_
      refine XS.iload X363.here hx rfl (hb hby at_239) rfl ?_
      refine XS.iload X363.here hx rfl (hb hby at_241) rfl ?_
      show Steps p.tables e below (T363.setTop (mkF m 243 #[.val (.int p1), .val (.int p2), .val (.int p3), .val (.ref b3), .val (.int (20 : Int32)), .val (.ref (A 20)), .val (.int (0 : Int32)), .val (.int (0 : Int32)), .unset] [(.int (0 : Int32)), (.int (0 : Int32))])) _
      refine XS.icmpYes X363.here hx rfl (pc0 := 243) (pc' := 248) rfl (hb hby at_243) rfl (teq (by decide : (0 : Int32) = (0 : Int32))).1 (by decide) (by decide) ?_
      show Steps p.tables e below (T363.setTop (mkF m 248 #[.val (.int p1), .val (.int p2), .val (.int p3), .val (.ref b3), .val (.int (20 : Int32)), .val (.ref (A 20)), .val (.int (0 : Int32)), .val (.int (0 : Int32)), .unset] [])) _
      refine XS.iload X363.here hx rfl (hb hby at_248) rfl ?_
      refine XS.ifNo X363.here hx rfl (hb hby at_250) rfl ((if0 _ _).trans (teq (by decide : (0 : Int32) = (0 : Int32))).2) ?_
      show Steps p.tables e below (T363.setTop (mkF m 253 #[.val (.int p1), .val (.int p2), .val (.int p3), .val (.ref b3), .val (.int (20 : Int32)), .val (.ref (A 20)), .val (.int (0 : Int32)), .val (.int (0 : Int32)), .unset] [])) _
      refine XS.iconst X363.here hx rfl (hb hby at_253) ?_
      exact retN X363 hx (t := .boolean) Bd.returns (by simp) (hb hby at_254) hr
    · show LQ n0 _ T363.heap _
      exact ⟨rfl, N363, trivial⟩
  | 21, _, hk89 =>
    obtain ⟨cl364, Ar364, q364, Sz364, Nn364, Hh364, Gg364⟩ := (id V87)
    have hin364 : ¬ ((21 : Int32) < 0 ∨ cl364.slots.size ≤ ((21 : Int32)).toNatClampNeg) := inb_of Sz364 ⟨by decide, by decide⟩
    have hat364 : cl364.slots[((21 : Int32)).toNatClampNeg]? = some (.ref (A 21)) := Has.at Hh364 hin364 rfl
    obtain ⟨cq368, kq368, q368a, q368b, q368c⟩ := isOf hZ e87 (EN.2.2.2.2.2.1.2.2.2.1.ext OL87.2)
    obtain ⟨_, _, ⟨T368, L368, k368, n368⟩, -, X368, ⟨Lc368, hQ368, l368, y368, z368⟩, st368⟩ := X87.virtualBack hx (y := own_m0) (z := own_m0) hown (mvT hZ (hw _ (List.mem_of_getElem? (i := 61) rfl))) (mvT hZ (hw _ (List.mem_of_getElem? (i := 62) rfl))) (notFace_of_selects (args := #[]) (mvT hZ (hw _ (List.mem_of_getElem? (i := 64) rfl)))) (mvT hZ (hw _ (List.mem_of_getElem? (i := 64) rfl))) (mvT hZ (hw _ (List.mem_of_getElem? (i := 63) rfl))) (by decide) (backOf (W := 0) (rm58 l Z a0 hw [] h87 n0 p1 p2 p3 A K cs EN OL87) hZ (hw _ (List.mem_of_getElem? (i := 65) rfl)) (hw _ (List.mem_of_getElem? (i := 3) rfl)) (by decide) (by decide)) q368a q368c (g := (mkF m 234 #[.val (.int p1), .val (.int p2), .val (.int p3), .val (.ref b3), .val (.int (21 : Int32)), .val (.ref (A 21)), .val (.int (0 : Int32)), .unset, .unset] [(.ref (A 21))])) rfl (by rw [hml]; rfl) (Steps.refl _) (argsL := []) (rest := []) (lenOf own_pd0 rfl) rfl (by show 2 * 0 + _ ≤ _; exact Nat.le_of_eq rfl) (hb hby at_234) (fun _ _ => ⟨rfl, e87, (by decide : 1 + 0 ≤ _), (by decide : 28 + 0 ≤ _)⟩)
    dsimp only [Pt.U, Pt.locs, Pt.cells, Pt.slots] at X368 l368 y368 z368 st368 hQ368
    replace X368 := own_sub X368 l368 y368 z368
    obtain ⟨rfl, N368q, e368⟩ := hQ368
    have N368 := Fr.app NF87 N368q
    obtain ⟨fs, hr, hrun, hended, hW, hsame⟩ := X368.leave (v := some (.int (1 : Int32))) (fun h => by rw [Bd.returns] at h; cases h)
    refine ⟨_, _, pre88 _ ?_, hrun, hended, _, _, rfl, ?_, ⟨_, rfl⟩, hW, hsame.mono (by decide) (by decide)⟩
    · show Steps p.tables e below (T87.setTop (mkF m 203 #[.val (.int p1), .val (.int p2), .val (.int p3), .val (.ref b3), .unset, .unset, .unset, .unset, .unset] [(.int ((p1 &&& (2147483647 : Int32)) % (28 : Int32)))])) _
      rw [hk89]
      show Steps p.tables e below (T87.setTop (mkF m 203 #[.val (.int p1), .val (.int p2), .val (.int p3), .val (.ref b3), .unset, .unset, .unset, .unset, .unset] [(.int (21 : Int32))])) _
      refine XS.istore X87.here hx rfl (hb hby at_203) rfl (l' := #[.val (.int p1), .val (.int p2), .val (.int p3), .val (.ref b3), .val (.int (21 : Int32)), .unset, .unset, .unset, .unset]) rfl ?_
      refine XS.aloadN X87.here hx rfl (hb hby at_205) rfl rfl ?_
      refine XS.iload X87.here hx rfl (hb hby at_206) rfl ?_
      show Steps p.tables e below (T87.setTop (mkF m 208 #[.val (.int p1), .val (.int p2), .val (.int p3), .val (.ref b3), .val (.int (21 : Int32)), .unset, .unset, .unset, .unset] [(.int (21 : Int32)), (.ref b3)])) _
      refine X87.aaload hx (j := (21 : Int32)) (v := (.ref (A 21))) (by rw [e87]; exact Ar364.1) (State.isArrayOf_alike hZ.alike Ar364.2.1) rfl Ar364.2.2 hin364 hat364 (g := (mkF m 208 #[.val (.int p1), .val (.int p2), .val (.int p3), .val (.ref b3), .val (.int (21 : Int32)), .unset, .unset, .unset, .unset] [(.int (21 : Int32)), (.ref b3)])) rfl rfl (hb hby at_208) _ ?_
      show Steps p.tables e below (T87.setTop (mkF m 209 #[.val (.int p1), .val (.int p2), .val (.int p3), .val (.ref b3), .val (.int (21 : Int32)), .unset, .unset, .unset, .unset] [(.ref (A 21))])) _
      refine XS.astore X87.here hx rfl (hb hby at_209) rfl rfl (l' := #[.val (.int p1), .val (.int p2), .val (.int p3), .val (.ref b3), .val (.int (21 : Int32)), .val (.ref (A 21)), .unset, .unset, .unset]) rfl ?_
      refine XS.iload X87.here hx rfl (hb hby at_211) rfl ?_
      refine XS.bipush X87.here hx rfl (hb hby at_213) ?_
      show Steps p.tables e below (T87.setTop (mkF m 215 #[.val (.int p1), .val (.int p2), .val (.int p3), .val (.ref b3), .val (.int (21 : Int32)), .val (.ref (A 21)), .unset, .unset, .unset] [(.int (13 : Int32)), (.int (21 : Int32))])) _
      refine XS.icmpNo X87.here hx rfl (hb hby at_215) rfl (flt (by decide : ¬ ((21 : Int32) < (13 : Int32)))).1 ?_
      show Steps p.tables e below (T87.setTop (mkF m 218 #[.val (.int p1), .val (.int p2), .val (.int p3), .val (.ref b3), .val (.int (21 : Int32)), .val (.ref (A 21)), .unset, .unset, .unset] [])) _
      refine XS.iload X87.here hx rfl (hb hby at_218) rfl ?_
      refine XS.bipush X87.here hx rfl (hb hby at_220) ?_
      refine XS.icmpYes X87.here hx rfl (pc0 := 222) (pc' := 229) rfl (hb hby at_222) rfl (tlt (by decide : (15 : Int32) < (21 : Int32))).2.2.1 (by decide) (by decide) ?_
      show Steps p.tables e below (T87.setTop (mkF m 229 #[.val (.int p1), .val (.int p2), .val (.int p3), .val (.ref b3), .val (.int (21 : Int32)), .val (.ref (A 21)), .unset, .unset, .unset] [])) _
      refine XS.iconst X87.here hx rfl (hb hby at_229) ?_
      refine XS.istore X87.here hx rfl (hb hby at_230) rfl (l' := #[.val (.int p1), .val (.int p2), .val (.int p3), .val (.ref b3), .val (.int (21 : Int32)), .val (.ref (A 21)), .val (.int (0 : Int32)), .unset, .unset]) rfl ?_
      refine XS.aload X87.here hx rfl (hb hby at_232) rfl rfl ?_
      show Steps p.tables e below (T87.setTop (mkF m 234 #[.val (.int p1), .val (.int p2), .val (.int p3), .val (.ref b3), .val (.int (21 : Int32)), .val (.ref (A 21)), .val (.int (0 : Int32)), .unset, .unset] [(.ref (A 21))])) _
      refine st368.trans ?_
      show Steps p.tables e below (T368.setTop (mkF m 237 #[.val (.int p1), .val (.int p2), .val (.int p3), .val (.ref b3), .val (.int (21 : Int32)), .val (.ref (A 21)), .val (.int (0 : Int32)), .unset, .unset] [(.int (0 : Int32))])) _
      refine XS.istore X368.here hx rfl (hb hby at_237) rfl (l' := #[.val (.int p1), .val (.int p2), .val (.int p3), .val (.ref b3), .val (.int (21 : Int32)), .val (.ref (A 21)), .val (.int (0 : Int32)), .val (.int (0 : Int32)), .unset]) rfl ?_
      refine XS.iload X368.here hx rfl (hb hby at_239) rfl ?_
      refine XS.iload X368.here hx rfl (hb hby at_241) rfl ?_
      show Steps p.tables e below (T368.setTop (mkF m 243 #[.val (.int p1), .val (.int p2), .val (.int p3), .val (.ref b3), .val (.int (21 : Int32)), .val (.ref (A 21)), .val (.int (0 : Int32)), .val (.int (0 : Int32)), .unset] [(.int (0 : Int32)), (.int (0 : Int32))])) _
      refine XS.icmpYes X368.here hx rfl (pc0 := 243) (pc' := 248) rfl (hb hby at_243) rfl (teq (by decide : (0 : Int32) = (0 : Int32))).1 (by decide) (by decide) ?_
      show Steps p.tables e below (T368.setTop (mkF m 248 #[.val (.int p1), .val (.int p2), .val (.int p3), .val (.ref b3), .val (.int (21 : Int32)), .val (.ref (A 21)), .val (.int (0 : Int32)), .val (.int (0 : Int32)), .unset] [])) _
      refine XS.iload X368.here hx rfl (hb hby at_248) rfl ?_
      refine XS.ifNo X368.here hx rfl (hb hby at_250) rfl ((if0 _ _).trans (teq (by decide : (0 : Int32) = (0 : Int32))).2) ?_
      show Steps p.tables e below (T368.setTop (mkF m 253 #[.val (.int p1), .val (.int p2), .val (.int p3), .val (.ref b3), .val (.int (21 : Int32)), .val (.ref (A 21)), .val (.int (0 : Int32)), .val (.int (0 : Int32)), .unset] [])) _
      refine XS.iconst X368.here hx rfl (hb hby at_253) ?_
      exact retN X368 hx (t := .boolean) Bd.returns (by simp) (hb hby at_254) hr
    · show LQ n0 _ T368.heap _
      exact ⟨rfl, N368, trivial⟩
  | 22, _, hk89 =>
    obtain ⟨cl369, Ar369, q369, Sz369, Nn369, Hh369, Gg369⟩ := (id V87)
    have hin369 : ¬ ((22 : Int32) < 0 ∨ cl369.slots.size ≤ ((22 : Int32)).toNatClampNeg) := inb_of Sz369 ⟨by decide, by decide⟩
    have hat369 : cl369.slots[((22 : Int32)).toNatClampNeg]? = some (.ref (A 22)) := Has.at Hh369 hin369 rfl
    obtain ⟨cq373, kq373, q373a, q373b, q373c⟩ := isOf hZ e87 (EN.2.2.2.2.2.1.2.2.2.2.2.1.ext OL87.2)
    obtain ⟨_, _, ⟨T373, L373, k373, n373⟩, -, X373, ⟨Lc373, hQ373, l373, y373, z373⟩, st373⟩ := X87.virtualBack hx (y := own_m0) (z := own_m0) hown (mvT hZ (hw _ (List.mem_of_getElem? (i := 61) rfl))) (mvT hZ (hw _ (List.mem_of_getElem? (i := 62) rfl))) (notFace_of_selects (args := #[]) (mvT hZ (hw _ (List.mem_of_getElem? (i := 64) rfl)))) (mvT hZ (hw _ (List.mem_of_getElem? (i := 64) rfl))) (mvT hZ (hw _ (List.mem_of_getElem? (i := 63) rfl))) (by decide) (backOf (W := 0) (rm59 l Z a0 hw [] h87 n0 p1 p2 p3 A K cs EN OL87) hZ (hw _ (List.mem_of_getElem? (i := 65) rfl)) (hw _ (List.mem_of_getElem? (i := 3) rfl)) (by decide) (by decide)) q373a q373c (g := (mkF m 234 #[.val (.int p1), .val (.int p2), .val (.int p3), .val (.ref b3), .val (.int (22 : Int32)), .val (.ref (A 22)), .val (.int (0 : Int32)), .unset, .unset] [(.ref (A 22))])) rfl (by rw [hml]; rfl) (Steps.refl _) (argsL := []) (rest := []) (lenOf own_pd0 rfl) rfl (by show 2 * 0 + _ ≤ _; exact Nat.le_of_eq rfl) (hb hby at_234) (fun _ _ => ⟨rfl, e87, (by decide : 1 + 0 ≤ _), (by decide : 28 + 0 ≤ _)⟩)
    dsimp only [Pt.U, Pt.locs, Pt.cells, Pt.slots] at X373 l373 y373 z373 st373 hQ373
    replace X373 := own_sub X373 l373 y373 z373
    obtain ⟨rfl, N373q, e373⟩ := hQ373
    have N373 := Fr.app NF87 N373q
    obtain ⟨fs, hr, hrun, hended, hW, hsame⟩ := X373.leave (v := some (.int (1 : Int32))) (fun h => by rw [Bd.returns] at h; cases h)
    refine ⟨_, _, pre88 _ ?_, hrun, hended, _, _, rfl, ?_, ⟨_, rfl⟩, hW, hsame.mono (by decide) (by decide)⟩
    · show Steps p.tables e below (T87.setTop (mkF m 203 #[.val (.int p1), .val (.int p2), .val (.int p3), .val (.ref b3), .unset, .unset, .unset, .unset, .unset] [(.int ((p1 &&& (2147483647 : Int32)) % (28 : Int32)))])) _
      rw [hk89]
      show Steps p.tables e below (T87.setTop (mkF m 203 #[.val (.int p1), .val (.int p2), .val (.int p3), .val (.ref b3), .unset, .unset, .unset, .unset, .unset] [(.int (22 : Int32))])) _
      refine XS.istore X87.here hx rfl (hb hby at_203) rfl (l' := #[.val (.int p1), .val (.int p2), .val (.int p3), .val (.ref b3), .val (.int (22 : Int32)), .unset, .unset, .unset, .unset]) rfl ?_
      refine XS.aloadN X87.here hx rfl (hb hby at_205) rfl rfl ?_
      refine XS.iload X87.here hx rfl (hb hby at_206) rfl ?_
      show Steps p.tables e below (T87.setTop (mkF m 208 #[.val (.int p1), .val (.int p2), .val (.int p3), .val (.ref b3), .val (.int (22 : Int32)), .unset, .unset, .unset, .unset] [(.int (22 : Int32)), (.ref b3)])) _
      refine X87.aaload hx (j := (22 : Int32)) (v := (.ref (A 22))) (by rw [e87]; exact Ar369.1) (State.isArrayOf_alike hZ.alike Ar369.2.1) rfl Ar369.2.2 hin369 hat369 (g := (mkF m 208 #[.val (.int p1), .val (.int p2), .val (.int p3), .val (.ref b3), .val (.int (22 : Int32)), .unset, .unset, .unset, .unset] [(.int (22 : Int32)), (.ref b3)])) rfl rfl (hb hby at_208) _ ?_
      show Steps p.tables e below (T87.setTop (mkF m 209 #[.val (.int p1), .val (.int p2), .val (.int p3), .val (.ref b3), .val (.int (22 : Int32)), .unset, .unset, .unset, .unset] [(.ref (A 22))])) _
      refine XS.astore X87.here hx rfl (hb hby at_209) rfl rfl (l' := #[.val (.int p1), .val (.int p2), .val (.int p3), .val (.ref b3), .val (.int (22 : Int32)), .val (.ref (A 22)), .unset, .unset, .unset]) rfl ?_
      refine XS.iload X87.here hx rfl (hb hby at_211) rfl ?_
      refine XS.bipush X87.here hx rfl (hb hby at_213) ?_
      show Steps p.tables e below (T87.setTop (mkF m 215 #[.val (.int p1), .val (.int p2), .val (.int p3), .val (.ref b3), .val (.int (22 : Int32)), .val (.ref (A 22)), .unset, .unset, .unset] [(.int (13 : Int32)), (.int (22 : Int32))])) _
      refine XS.icmpNo X87.here hx rfl (hb hby at_215) rfl (flt (by decide : ¬ ((22 : Int32) < (13 : Int32)))).1 ?_
      show Steps p.tables e below (T87.setTop (mkF m 218 #[.val (.int p1), .val (.int p2), .val (.int p3), .val (.ref b3), .val (.int (22 : Int32)), .val (.ref (A 22)), .unset, .unset, .unset] [])) _
      refine XS.iload X87.here hx rfl (hb hby at_218) rfl ?_
      refine XS.bipush X87.here hx rfl (hb hby at_220) ?_
      refine XS.icmpYes X87.here hx rfl (pc0 := 222) (pc' := 229) rfl (hb hby at_222) rfl (tlt (by decide : (15 : Int32) < (22 : Int32))).2.2.1 (by decide) (by decide) ?_
      show Steps p.tables e below (T87.setTop (mkF m 229 #[.val (.int p1), .val (.int p2), .val (.int p3), .val (.ref b3), .val (.int (22 : Int32)), .val (.ref (A 22)), .unset, .unset, .unset] [])) _
      refine XS.iconst X87.here hx rfl (hb hby at_229) ?_
      refine XS.istore X87.here hx rfl (hb hby at_230) rfl (l' := #[.val (.int p1), .val (.int p2), .val (.int p3), .val (.ref b3), .val (.int (22 : Int32)), .val (.ref (A 22)), .val (.int (0 : Int32)), .unset, .unset]) rfl ?_
      refine XS.aload X87.here hx rfl (hb hby at_232) rfl rfl ?_
      show Steps p.tables e below (T87.setTop (mkF m 234 #[.val (.int p1), .val (.int p2), .val (.int p3), .val (.ref b3), .val (.int (22 : Int32)), .val (.ref (A 22)), .val (.int (0 : Int32)), .unset, .unset] [(.ref (A 22))])) _
      refine st373.trans ?_
      show Steps p.tables e below (T373.setTop (mkF m 237 #[.val (.int p1), .val (.int p2), .val (.int p3), .val (.ref b3), .val (.int (22 : Int32)), .val (.ref (A 22)), .val (.int (0 : Int32)), .unset, .unset] [(.int (0 : Int32))])) _
      refine XS.istore X373.here hx rfl (hb hby at_237) rfl (l' := #[.val (.int p1), .val (.int p2), .val (.int p3), .val (.ref b3), .val (.int (22 : Int32)), .val (.ref (A 22)), .val (.int (0 : Int32)), .val (.int (0 : Int32)), .unset]) rfl ?_
      refine XS.iload X373.here hx rfl (hb hby at_239) rfl ?_
      refine XS.iload X373.here hx rfl (hb hby at_241) rfl ?_
      show Steps p.tables e below (T373.setTop (mkF m 243 #[.val (.int p1), .val (.int p2), .val (.int p3), .val (.ref b3), .val (.int (22 : Int32)), .val (.ref (A 22)), .val (.int (0 : Int32)), .val (.int (0 : Int32)), .unset] [(.int (0 : Int32)), (.int (0 : Int32))])) _
      refine XS.icmpYes X373.here hx rfl (pc0 := 243) (pc' := 248) rfl (hb hby at_243) rfl (teq (by decide : (0 : Int32) = (0 : Int32))).1 (by decide) (by decide) ?_
      show Steps p.tables e below (T373.setTop (mkF m 248 #[.val (.int p1), .val (.int p2), .val (.int p3), .val (.ref b3), .val (.int (22 : Int32)), .val (.ref (A 22)), .val (.int (0 : Int32)), .val (.int (0 : Int32)), .unset] [])) _
      refine XS.iload X373.here hx rfl (hb hby at_248) rfl ?_
      refine XS.ifNo X373.here hx rfl (hb hby at_250) rfl ((if0 _ _).trans (teq (by decide : (0 : Int32) = (0 : Int32))).2) ?_
      show Steps p.tables e below (T373.setTop (mkF m 253 #[.val (.int p1), .val (.int p2), .val (.int p3), .val (.ref b3), .val (.int (22 : Int32)), .val (.ref (A 22)), .val (.int (0 : Int32)), .val (.int (0 : Int32)), .unset] [])) _
      refine XS.iconst X373.here hx rfl (hb hby at_253) ?_
      exact retN X373 hx (t := .boolean) Bd.returns (by simp) (hb hby at_254) hr
    · show LQ n0 _ T373.heap _
      exact ⟨rfl, N373, trivial⟩
  | 23, _, hk89 =>
    obtain ⟨cl374, Ar374, q374, Sz374, Nn374, Hh374, Gg374⟩ := (id V87)
    have hin374 : ¬ ((23 : Int32) < 0 ∨ cl374.slots.size ≤ ((23 : Int32)).toNatClampNeg) := inb_of Sz374 ⟨by decide, by decide⟩
    have hat374 : cl374.slots[((23 : Int32)).toNatClampNeg]? = some (.ref (A 23)) := Has.at Hh374 hin374 rfl
    obtain ⟨cq378, kq378, q378a, q378b, q378c⟩ := isOf hZ e87 (EN.2.2.2.2.2.1.2.2.2.2.2.2.2.1.ext OL87.2)
    obtain ⟨_, _, ⟨T378, L378, k378, n378⟩, -, X378, ⟨Lc378, hQ378, l378, y378, z378⟩, st378⟩ := X87.virtualBack hx (y := own_m0) (z := own_m0) hown (mvT hZ (hw _ (List.mem_of_getElem? (i := 61) rfl))) (mvT hZ (hw _ (List.mem_of_getElem? (i := 62) rfl))) (notFace_of_selects (args := #[]) (mvT hZ (hw _ (List.mem_of_getElem? (i := 64) rfl)))) (mvT hZ (hw _ (List.mem_of_getElem? (i := 64) rfl))) (mvT hZ (hw _ (List.mem_of_getElem? (i := 63) rfl))) (by decide) (backOf (W := 0) (rm60 l Z a0 hw [] h87 n0 p1 p2 p3 A K cs EN OL87) hZ (hw _ (List.mem_of_getElem? (i := 65) rfl)) (hw _ (List.mem_of_getElem? (i := 3) rfl)) (by decide) (by decide)) q378a q378c (g := (mkF m 234 #[.val (.int p1), .val (.int p2), .val (.int p3), .val (.ref b3), .val (.int (23 : Int32)), .val (.ref (A 23)), .val (.int (0 : Int32)), .unset, .unset] [(.ref (A 23))])) rfl (by rw [hml]; rfl) (Steps.refl _) (argsL := []) (rest := []) (lenOf own_pd0 rfl) rfl (by show 2 * 0 + _ ≤ _; exact Nat.le_of_eq rfl) (hb hby at_234) (fun _ _ => ⟨rfl, e87, (by decide : 1 + 0 ≤ _), (by decide : 28 + 0 ≤ _)⟩)
    dsimp only [Pt.U, Pt.locs, Pt.cells, Pt.slots] at X378 l378 y378 z378 st378 hQ378
    replace X378 := own_sub X378 l378 y378 z378
    obtain ⟨rfl, N378q, e378⟩ := hQ378
    have N378 := Fr.app NF87 N378q
    obtain ⟨fs, hr, hrun, hended, hW, hsame⟩ := X378.leave (v := some (.int (1 : Int32))) (fun h => by rw [Bd.returns] at h; cases h)
    refine ⟨_, _, pre88 _ ?_, hrun, hended, _, _, rfl, ?_, ⟨_, rfl⟩, hW, hsame.mono (by decide) (by decide)⟩
    · show Steps p.tables e below (T87.setTop (mkF m 203 #[.val (.int p1), .val (.int p2), .val (.int p3), .val (.ref b3), .unset, .unset, .unset, .unset, .unset] [(.int ((p1 &&& (2147483647 : Int32)) % (28 : Int32)))])) _
      rw [hk89]
      show Steps p.tables e below (T87.setTop (mkF m 203 #[.val (.int p1), .val (.int p2), .val (.int p3), .val (.ref b3), .unset, .unset, .unset, .unset, .unset] [(.int (23 : Int32))])) _
      refine XS.istore X87.here hx rfl (hb hby at_203) rfl (l' := #[.val (.int p1), .val (.int p2), .val (.int p3), .val (.ref b3), .val (.int (23 : Int32)), .unset, .unset, .unset, .unset]) rfl ?_
      refine XS.aloadN X87.here hx rfl (hb hby at_205) rfl rfl ?_
      refine XS.iload X87.here hx rfl (hb hby at_206) rfl ?_
      show Steps p.tables e below (T87.setTop (mkF m 208 #[.val (.int p1), .val (.int p2), .val (.int p3), .val (.ref b3), .val (.int (23 : Int32)), .unset, .unset, .unset, .unset] [(.int (23 : Int32)), (.ref b3)])) _
      refine X87.aaload hx (j := (23 : Int32)) (v := (.ref (A 23))) (by rw [e87]; exact Ar374.1) (State.isArrayOf_alike hZ.alike Ar374.2.1) rfl Ar374.2.2 hin374 hat374 (g := (mkF m 208 #[.val (.int p1), .val (.int p2), .val (.int p3), .val (.ref b3), .val (.int (23 : Int32)), .unset, .unset, .unset, .unset] [(.int (23 : Int32)), (.ref b3)])) rfl rfl (hb hby at_208) _ ?_
      show Steps p.tables e below (T87.setTop (mkF m 209 #[.val (.int p1), .val (.int p2), .val (.int p3), .val (.ref b3), .val (.int (23 : Int32)), .unset, .unset, .unset, .unset] [(.ref (A 23))])) _
      refine XS.astore X87.here hx rfl (hb hby at_209) rfl rfl (l' := #[.val (.int p1), .val (.int p2), .val (.int p3), .val (.ref b3), .val (.int (23 : Int32)), .val (.ref (A 23)), .unset, .unset, .unset]) rfl ?_
      refine XS.iload X87.here hx rfl (hb hby at_211) rfl ?_
      refine XS.bipush X87.here hx rfl (hb hby at_213) ?_
      show Steps p.tables e below (T87.setTop (mkF m 215 #[.val (.int p1), .val (.int p2), .val (.int p3), .val (.ref b3), .val (.int (23 : Int32)), .val (.ref (A 23)), .unset, .unset, .unset] [(.int (13 : Int32)), (.int (23 : Int32))])) _
      refine XS.icmpNo X87.here hx rfl (hb hby at_215) rfl (flt (by decide : ¬ ((23 : Int32) < (13 : Int32)))).1 ?_
      show Steps p.tables e below (T87.setTop (mkF m 218 #[.val (.int p1), .val (.int p2), .val (.int p3), .val (.ref b3), .val (.int (23 : Int32)), .val (.ref (A 23)), .unset, .unset, .unset] [])) _
      refine XS.iload X87.here hx rfl (hb hby at_218) rfl ?_
      refine XS.bipush X87.here hx rfl (hb hby at_220) ?_
      refine XS.icmpYes X87.here hx rfl (pc0 := 222) (pc' := 229) rfl (hb hby at_222) rfl (tlt (by decide : (15 : Int32) < (23 : Int32))).2.2.1 (by decide) (by decide) ?_
      show Steps p.tables e below (T87.setTop (mkF m 229 #[.val (.int p1), .val (.int p2), .val (.int p3), .val (.ref b3), .val (.int (23 : Int32)), .val (.ref (A 23)), .unset, .unset, .unset] [])) _
      refine XS.iconst X87.here hx rfl (hb hby at_229) ?_
      refine XS.istore X87.here hx rfl (hb hby at_230) rfl (l' := #[.val (.int p1), .val (.int p2), .val (.int p3), .val (.ref b3), .val (.int (23 : Int32)), .val (.ref (A 23)), .val (.int (0 : Int32)), .unset, .unset]) rfl ?_
      refine XS.aload X87.here hx rfl (hb hby at_232) rfl rfl ?_
      show Steps p.tables e below (T87.setTop (mkF m 234 #[.val (.int p1), .val (.int p2), .val (.int p3), .val (.ref b3), .val (.int (23 : Int32)), .val (.ref (A 23)), .val (.int (0 : Int32)), .unset, .unset] [(.ref (A 23))])) _
      refine st378.trans ?_
      show Steps p.tables e below (T378.setTop (mkF m 237 #[.val (.int p1), .val (.int p2), .val (.int p3), .val (.ref b3), .val (.int (23 : Int32)), .val (.ref (A 23)), .val (.int (0 : Int32)), .unset, .unset] [(.int (0 : Int32))])) _
      refine XS.istore X378.here hx rfl (hb hby at_237) rfl (l' := #[.val (.int p1), .val (.int p2), .val (.int p3), .val (.ref b3), .val (.int (23 : Int32)), .val (.ref (A 23)), .val (.int (0 : Int32)), .val (.int (0 : Int32)), .unset]) rfl ?_
      refine XS.iload X378.here hx rfl (hb hby at_239) rfl ?_
      refine XS.iload X378.here hx rfl (hb hby at_241) rfl ?_
      show Steps p.tables e below (T378.setTop (mkF m 243 #[.val (.int p1), .val (.int p2), .val (.int p3), .val (.ref b3), .val (.int (23 : Int32)), .val (.ref (A 23)), .val (.int (0 : Int32)), .val (.int (0 : Int32)), .unset] [(.int (0 : Int32)), (.int (0 : Int32))])) _
      refine XS.icmpYes X378.here hx rfl (pc0 := 243) (pc' := 248) rfl (hb hby at_243) rfl (teq (by decide : (0 : Int32) = (0 : Int32))).1 (by decide) (by decide) ?_
      show Steps p.tables e below (T378.setTop (mkF m 248 #[.val (.int p1), .val (.int p2), .val (.int p3), .val (.ref b3), .val (.int (23 : Int32)), .val (.ref (A 23)), .val (.int (0 : Int32)), .val (.int (0 : Int32)), .unset] [])) _
      refine XS.iload X378.here hx rfl (hb hby at_248) rfl ?_
      refine XS.ifNo X378.here hx rfl (hb hby at_250) rfl ((if0 _ _).trans (teq (by decide : (0 : Int32) = (0 : Int32))).2) ?_
      show Steps p.tables e below (T378.setTop (mkF m 253 #[.val (.int p1), .val (.int p2), .val (.int p3), .val (.ref b3), .val (.int (23 : Int32)), .val (.ref (A 23)), .val (.int (0 : Int32)), .val (.int (0 : Int32)), .unset] [])) _
      refine XS.iconst X378.here hx rfl (hb hby at_253) ?_
      exact retN X378 hx (t := .boolean) Bd.returns (by simp) (hb hby at_254) hr
    · show LQ n0 _ T378.heap _
      exact ⟨rfl, N378, trivial⟩
  | 24, _, hk89 =>
    obtain ⟨cl379, Ar379, q379, Sz379, Nn379, Hh379, Gg379⟩ := (id V87)
    have hin379 : ¬ ((24 : Int32) < 0 ∨ cl379.slots.size ≤ ((24 : Int32)).toNatClampNeg) := inb_of Sz379 ⟨by decide, by decide⟩
    have hat379 : cl379.slots[((24 : Int32)).toNatClampNeg]? = some (.ref (A 24)) := Has.at Hh379 hin379 rfl
    obtain ⟨cq383, kq383, q383a, q383b, q383c⟩ := isOf hZ e87 (EN.2.2.2.2.2.2.1.2.1.ext OL87.2)
    obtain ⟨_, _, ⟨T383, L383, k383, n383⟩, -, X383, ⟨Lc383, hQ383, l383, y383, z383⟩, st383⟩ := X87.virtualBack hx (y := own_m0) (z := own_m0) hown (mvT hZ (hw _ (List.mem_of_getElem? (i := 61) rfl))) (mvT hZ (hw _ (List.mem_of_getElem? (i := 62) rfl))) (notFace_of_selects (args := #[]) (mvT hZ (hw _ (List.mem_of_getElem? (i := 64) rfl)))) (mvT hZ (hw _ (List.mem_of_getElem? (i := 64) rfl))) (mvT hZ (hw _ (List.mem_of_getElem? (i := 63) rfl))) (by decide) (backOf (W := 0) (rm61 l Z a0 hw [] h87 n0 p1 p2 p3 A K cs EN OL87) hZ (hw _ (List.mem_of_getElem? (i := 65) rfl)) (hw _ (List.mem_of_getElem? (i := 3) rfl)) (by decide) (by decide)) q383a q383c (g := (mkF m 234 #[.val (.int p1), .val (.int p2), .val (.int p3), .val (.ref b3), .val (.int (24 : Int32)), .val (.ref (A 24)), .val (.int (0 : Int32)), .unset, .unset] [(.ref (A 24))])) rfl (by rw [hml]; rfl) (Steps.refl _) (argsL := []) (rest := []) (lenOf own_pd0 rfl) rfl (by show 2 * 0 + _ ≤ _; exact Nat.le_of_eq rfl) (hb hby at_234) (fun _ _ => ⟨rfl, e87, (by decide : 1 + 0 ≤ _), (by decide : 28 + 0 ≤ _)⟩)
    dsimp only [Pt.U, Pt.locs, Pt.cells, Pt.slots] at X383 l383 y383 z383 st383 hQ383
    replace X383 := own_sub X383 l383 y383 z383
    obtain ⟨rfl, N383q, e383⟩ := hQ383
    have N383 := Fr.app NF87 N383q
    obtain ⟨fs, hr, hrun, hended, hW, hsame⟩ := X383.leave (v := some (.int (1 : Int32))) (fun h => by rw [Bd.returns] at h; cases h)
    refine ⟨_, _, pre88 _ ?_, hrun, hended, _, _, rfl, ?_, ⟨_, rfl⟩, hW, hsame.mono (by decide) (by decide)⟩
    · show Steps p.tables e below (T87.setTop (mkF m 203 #[.val (.int p1), .val (.int p2), .val (.int p3), .val (.ref b3), .unset, .unset, .unset, .unset, .unset] [(.int ((p1 &&& (2147483647 : Int32)) % (28 : Int32)))])) _
      rw [hk89]
      show Steps p.tables e below (T87.setTop (mkF m 203 #[.val (.int p1), .val (.int p2), .val (.int p3), .val (.ref b3), .unset, .unset, .unset, .unset, .unset] [(.int (24 : Int32))])) _
      refine XS.istore X87.here hx rfl (hb hby at_203) rfl (l' := #[.val (.int p1), .val (.int p2), .val (.int p3), .val (.ref b3), .val (.int (24 : Int32)), .unset, .unset, .unset, .unset]) rfl ?_
      refine XS.aloadN X87.here hx rfl (hb hby at_205) rfl rfl ?_
      refine XS.iload X87.here hx rfl (hb hby at_206) rfl ?_
      show Steps p.tables e below (T87.setTop (mkF m 208 #[.val (.int p1), .val (.int p2), .val (.int p3), .val (.ref b3), .val (.int (24 : Int32)), .unset, .unset, .unset, .unset] [(.int (24 : Int32)), (.ref b3)])) _
      refine X87.aaload hx (j := (24 : Int32)) (v := (.ref (A 24))) (by rw [e87]; exact Ar379.1) (State.isArrayOf_alike hZ.alike Ar379.2.1) rfl Ar379.2.2 hin379 hat379 (g := (mkF m 208 #[.val (.int p1), .val (.int p2), .val (.int p3), .val (.ref b3), .val (.int (24 : Int32)), .unset, .unset, .unset, .unset] [(.int (24 : Int32)), (.ref b3)])) rfl rfl (hb hby at_208) _ ?_
      show Steps p.tables e below (T87.setTop (mkF m 209 #[.val (.int p1), .val (.int p2), .val (.int p3), .val (.ref b3), .val (.int (24 : Int32)), .unset, .unset, .unset, .unset] [(.ref (A 24))])) _
      refine XS.astore X87.here hx rfl (hb hby at_209) rfl rfl (l' := #[.val (.int p1), .val (.int p2), .val (.int p3), .val (.ref b3), .val (.int (24 : Int32)), .val (.ref (A 24)), .unset, .unset, .unset]) rfl ?_
      refine XS.iload X87.here hx rfl (hb hby at_211) rfl ?_
      refine XS.bipush X87.here hx rfl (hb hby at_213) ?_
      show Steps p.tables e below (T87.setTop (mkF m 215 #[.val (.int p1), .val (.int p2), .val (.int p3), .val (.ref b3), .val (.int (24 : Int32)), .val (.ref (A 24)), .unset, .unset, .unset] [(.int (13 : Int32)), (.int (24 : Int32))])) _
      refine XS.icmpNo X87.here hx rfl (hb hby at_215) rfl (flt (by decide : ¬ ((24 : Int32) < (13 : Int32)))).1 ?_
      show Steps p.tables e below (T87.setTop (mkF m 218 #[.val (.int p1), .val (.int p2), .val (.int p3), .val (.ref b3), .val (.int (24 : Int32)), .val (.ref (A 24)), .unset, .unset, .unset] [])) _
      refine XS.iload X87.here hx rfl (hb hby at_218) rfl ?_
      refine XS.bipush X87.here hx rfl (hb hby at_220) ?_
      refine XS.icmpYes X87.here hx rfl (pc0 := 222) (pc' := 229) rfl (hb hby at_222) rfl (tlt (by decide : (15 : Int32) < (24 : Int32))).2.2.1 (by decide) (by decide) ?_
      show Steps p.tables e below (T87.setTop (mkF m 229 #[.val (.int p1), .val (.int p2), .val (.int p3), .val (.ref b3), .val (.int (24 : Int32)), .val (.ref (A 24)), .unset, .unset, .unset] [])) _
      refine XS.iconst X87.here hx rfl (hb hby at_229) ?_
      refine XS.istore X87.here hx rfl (hb hby at_230) rfl (l' := #[.val (.int p1), .val (.int p2), .val (.int p3), .val (.ref b3), .val (.int (24 : Int32)), .val (.ref (A 24)), .val (.int (0 : Int32)), .unset, .unset]) rfl ?_
      refine XS.aload X87.here hx rfl (hb hby at_232) rfl rfl ?_
      show Steps p.tables e below (T87.setTop (mkF m 234 #[.val (.int p1), .val (.int p2), .val (.int p3), .val (.ref b3), .val (.int (24 : Int32)), .val (.ref (A 24)), .val (.int (0 : Int32)), .unset, .unset] [(.ref (A 24))])) _
      refine st383.trans ?_
      show Steps p.tables e below (T383.setTop (mkF m 237 #[.val (.int p1), .val (.int p2), .val (.int p3), .val (.ref b3), .val (.int (24 : Int32)), .val (.ref (A 24)), .val (.int (0 : Int32)), .unset, .unset] [(.int (0 : Int32))])) _
      refine XS.istore X383.here hx rfl (hb hby at_237) rfl (l' := #[.val (.int p1), .val (.int p2), .val (.int p3), .val (.ref b3), .val (.int (24 : Int32)), .val (.ref (A 24)), .val (.int (0 : Int32)), .val (.int (0 : Int32)), .unset]) rfl ?_
      refine XS.iload X383.here hx rfl (hb hby at_239) rfl ?_
      refine XS.iload X383.here hx rfl (hb hby at_241) rfl ?_
      show Steps p.tables e below (T383.setTop (mkF m 243 #[.val (.int p1), .val (.int p2), .val (.int p3), .val (.ref b3), .val (.int (24 : Int32)), .val (.ref (A 24)), .val (.int (0 : Int32)), .val (.int (0 : Int32)), .unset] [(.int (0 : Int32)), (.int (0 : Int32))])) _
      refine XS.icmpYes X383.here hx rfl (pc0 := 243) (pc' := 248) rfl (hb hby at_243) rfl (teq (by decide : (0 : Int32) = (0 : Int32))).1 (by decide) (by decide) ?_
      show Steps p.tables e below (T383.setTop (mkF m 248 #[.val (.int p1), .val (.int p2), .val (.int p3), .val (.ref b3), .val (.int (24 : Int32)), .val (.ref (A 24)), .val (.int (0 : Int32)), .val (.int (0 : Int32)), .unset] [])) _
      refine XS.iload X383.here hx rfl (hb hby at_248) rfl ?_
      refine XS.ifNo X383.here hx rfl (hb hby at_250) rfl ((if0 _ _).trans (teq (by decide : (0 : Int32) = (0 : Int32))).2) ?_
      show Steps p.tables e below (T383.setTop (mkF m 253 #[.val (.int p1), .val (.int p2), .val (.int p3), .val (.ref b3), .val (.int (24 : Int32)), .val (.ref (A 24)), .val (.int (0 : Int32)), .val (.int (0 : Int32)), .unset] [])) _
      refine XS.iconst X383.here hx rfl (hb hby at_253) ?_
      exact retN X383 hx (t := .boolean) Bd.returns (by simp) (hb hby at_254) hr
    · show LQ n0 _ T383.heap _
      exact ⟨rfl, N383, trivial⟩
  | 25, _, hk89 =>
    obtain ⟨cl384, Ar384, q384, Sz384, Nn384, Hh384, Gg384⟩ := (id V87)
    have hin384 : ¬ ((25 : Int32) < 0 ∨ cl384.slots.size ≤ ((25 : Int32)).toNatClampNeg) := inb_of Sz384 ⟨by decide, by decide⟩
    have hat384 : cl384.slots[((25 : Int32)).toNatClampNeg]? = some (.ref (A 25)) := Has.at Hh384 hin384 rfl
    obtain ⟨cq388, kq388, q388a, q388b, q388c⟩ := isOf hZ e87 (EN.2.2.2.2.2.2.1.2.2.2.1.ext OL87.2)
    obtain ⟨_, _, ⟨T388, L388, k388, n388⟩, -, X388, ⟨Lc388, hQ388, l388, y388, z388⟩, st388⟩ := X87.virtualBack hx (y := own_m0) (z := own_m0) hown (mvT hZ (hw _ (List.mem_of_getElem? (i := 61) rfl))) (mvT hZ (hw _ (List.mem_of_getElem? (i := 62) rfl))) (notFace_of_selects (args := #[]) (mvT hZ (hw _ (List.mem_of_getElem? (i := 64) rfl)))) (mvT hZ (hw _ (List.mem_of_getElem? (i := 64) rfl))) (mvT hZ (hw _ (List.mem_of_getElem? (i := 63) rfl))) (by decide) (backOf (W := 0) (rm62 l Z a0 hw [] h87 n0 p1 p2 p3 A K cs EN OL87) hZ (hw _ (List.mem_of_getElem? (i := 65) rfl)) (hw _ (List.mem_of_getElem? (i := 3) rfl)) (by decide) (by decide)) q388a q388c (g := (mkF m 234 #[.val (.int p1), .val (.int p2), .val (.int p3), .val (.ref b3), .val (.int (25 : Int32)), .val (.ref (A 25)), .val (.int (0 : Int32)), .unset, .unset] [(.ref (A 25))])) rfl (by rw [hml]; rfl) (Steps.refl _) (argsL := []) (rest := []) (lenOf own_pd0 rfl) rfl (by show 2 * 0 + _ ≤ _; exact Nat.le_of_eq rfl) (hb hby at_234) (fun _ _ => ⟨rfl, e87, (by decide : 1 + 0 ≤ _), (by decide : 28 + 0 ≤ _)⟩)
    dsimp only [Pt.U, Pt.locs, Pt.cells, Pt.slots] at X388 l388 y388 z388 st388 hQ388
    replace X388 := own_sub X388 l388 y388 z388
    obtain ⟨rfl, N388q, e388⟩ := hQ388
    have N388 := Fr.app NF87 N388q
    obtain ⟨fs, hr, hrun, hended, hW, hsame⟩ := X388.leave (v := some (.int (1 : Int32))) (fun h => by rw [Bd.returns] at h; cases h)
    refine ⟨_, _, pre88 _ ?_, hrun, hended, _, _, rfl, ?_, ⟨_, rfl⟩, hW, hsame.mono (by decide) (by decide)⟩
    · show Steps p.tables e below (T87.setTop (mkF m 203 #[.val (.int p1), .val (.int p2), .val (.int p3), .val (.ref b3), .unset, .unset, .unset, .unset, .unset] [(.int ((p1 &&& (2147483647 : Int32)) % (28 : Int32)))])) _
      rw [hk89]
      show Steps p.tables e below (T87.setTop (mkF m 203 #[.val (.int p1), .val (.int p2), .val (.int p3), .val (.ref b3), .unset, .unset, .unset, .unset, .unset] [(.int (25 : Int32))])) _
      refine XS.istore X87.here hx rfl (hb hby at_203) rfl (l' := #[.val (.int p1), .val (.int p2), .val (.int p3), .val (.ref b3), .val (.int (25 : Int32)), .unset, .unset, .unset, .unset]) rfl ?_
      refine XS.aloadN X87.here hx rfl (hb hby at_205) rfl rfl ?_
      refine XS.iload X87.here hx rfl (hb hby at_206) rfl ?_
      show Steps p.tables e below (T87.setTop (mkF m 208 #[.val (.int p1), .val (.int p2), .val (.int p3), .val (.ref b3), .val (.int (25 : Int32)), .unset, .unset, .unset, .unset] [(.int (25 : Int32)), (.ref b3)])) _
      refine X87.aaload hx (j := (25 : Int32)) (v := (.ref (A 25))) (by rw [e87]; exact Ar384.1) (State.isArrayOf_alike hZ.alike Ar384.2.1) rfl Ar384.2.2 hin384 hat384 (g := (mkF m 208 #[.val (.int p1), .val (.int p2), .val (.int p3), .val (.ref b3), .val (.int (25 : Int32)), .unset, .unset, .unset, .unset] [(.int (25 : Int32)), (.ref b3)])) rfl rfl (hb hby at_208) _ ?_
      show Steps p.tables e below (T87.setTop (mkF m 209 #[.val (.int p1), .val (.int p2), .val (.int p3), .val (.ref b3), .val (.int (25 : Int32)), .unset, .unset, .unset, .unset] [(.ref (A 25))])) _
      refine XS.astore X87.here hx rfl (hb hby at_209) rfl rfl (l' := #[.val (.int p1), .val (.int p2), .val (.int p3), .val (.ref b3), .val (.int (25 : Int32)), .val (.ref (A 25)), .unset, .unset, .unset]) rfl ?_
      refine XS.iload X87.here hx rfl (hb hby at_211) rfl ?_
      refine XS.bipush X87.here hx rfl (hb hby at_213) ?_
      show Steps p.tables e below (T87.setTop (mkF m 215 #[.val (.int p1), .val (.int p2), .val (.int p3), .val (.ref b3), .val (.int (25 : Int32)), .val (.ref (A 25)), .unset, .unset, .unset] [(.int (13 : Int32)), (.int (25 : Int32))])) _
      refine XS.icmpNo X87.here hx rfl (hb hby at_215) rfl (flt (by decide : ¬ ((25 : Int32) < (13 : Int32)))).1 ?_
      show Steps p.tables e below (T87.setTop (mkF m 218 #[.val (.int p1), .val (.int p2), .val (.int p3), .val (.ref b3), .val (.int (25 : Int32)), .val (.ref (A 25)), .unset, .unset, .unset] [])) _
      refine XS.iload X87.here hx rfl (hb hby at_218) rfl ?_
      refine XS.bipush X87.here hx rfl (hb hby at_220) ?_
      refine XS.icmpYes X87.here hx rfl (pc0 := 222) (pc' := 229) rfl (hb hby at_222) rfl (tlt (by decide : (15 : Int32) < (25 : Int32))).2.2.1 (by decide) (by decide) ?_
      show Steps p.tables e below (T87.setTop (mkF m 229 #[.val (.int p1), .val (.int p2), .val (.int p3), .val (.ref b3), .val (.int (25 : Int32)), .val (.ref (A 25)), .unset, .unset, .unset] [])) _
      refine XS.iconst X87.here hx rfl (hb hby at_229) ?_
      refine XS.istore X87.here hx rfl (hb hby at_230) rfl (l' := #[.val (.int p1), .val (.int p2), .val (.int p3), .val (.ref b3), .val (.int (25 : Int32)), .val (.ref (A 25)), .val (.int (0 : Int32)), .unset, .unset]) rfl ?_
      refine XS.aload X87.here hx rfl (hb hby at_232) rfl rfl ?_
      show Steps p.tables e below (T87.setTop (mkF m 234 #[.val (.int p1), .val (.int p2), .val (.int p3), .val (.ref b3), .val (.int (25 : Int32)), .val (.ref (A 25)), .val (.int (0 : Int32)), .unset, .unset] [(.ref (A 25))])) _
      refine st388.trans ?_
      show Steps p.tables e below (T388.setTop (mkF m 237 #[.val (.int p1), .val (.int p2), .val (.int p3), .val (.ref b3), .val (.int (25 : Int32)), .val (.ref (A 25)), .val (.int (0 : Int32)), .unset, .unset] [(.int (0 : Int32))])) _
      refine XS.istore X388.here hx rfl (hb hby at_237) rfl (l' := #[.val (.int p1), .val (.int p2), .val (.int p3), .val (.ref b3), .val (.int (25 : Int32)), .val (.ref (A 25)), .val (.int (0 : Int32)), .val (.int (0 : Int32)), .unset]) rfl ?_
      refine XS.iload X388.here hx rfl (hb hby at_239) rfl ?_
      refine XS.iload X388.here hx rfl (hb hby at_241) rfl ?_
      show Steps p.tables e below (T388.setTop (mkF m 243 #[.val (.int p1), .val (.int p2), .val (.int p3), .val (.ref b3), .val (.int (25 : Int32)), .val (.ref (A 25)), .val (.int (0 : Int32)), .val (.int (0 : Int32)), .unset] [(.int (0 : Int32)), (.int (0 : Int32))])) _
      refine XS.icmpYes X388.here hx rfl (pc0 := 243) (pc' := 248) rfl (hb hby at_243) rfl (teq (by decide : (0 : Int32) = (0 : Int32))).1 (by decide) (by decide) ?_
      show Steps p.tables e below (T388.setTop (mkF m 248 #[.val (.int p1), .val (.int p2), .val (.int p3), .val (.ref b3), .val (.int (25 : Int32)), .val (.ref (A 25)), .val (.int (0 : Int32)), .val (.int (0 : Int32)), .unset] [])) _
      refine XS.iload X388.here hx rfl (hb hby at_248) rfl ?_
      refine XS.ifNo X388.here hx rfl (hb hby at_250) rfl ((if0 _ _).trans (teq (by decide : (0 : Int32) = (0 : Int32))).2) ?_
      show Steps p.tables e below (T388.setTop (mkF m 253 #[.val (.int p1), .val (.int p2), .val (.int p3), .val (.ref b3), .val (.int (25 : Int32)), .val (.ref (A 25)), .val (.int (0 : Int32)), .val (.int (0 : Int32)), .unset] [])) _
      refine XS.iconst X388.here hx rfl (hb hby at_253) ?_
      exact retN X388 hx (t := .boolean) Bd.returns (by simp) (hb hby at_254) hr
    · show LQ n0 _ T388.heap _
      exact ⟨rfl, N388, trivial⟩
  | 26, _, hk89 =>
    obtain ⟨cl389, Ar389, q389, Sz389, Nn389, Hh389, Gg389⟩ := (id V87)
    have hin389 : ¬ ((26 : Int32) < 0 ∨ cl389.slots.size ≤ ((26 : Int32)).toNatClampNeg) := inb_of Sz389 ⟨by decide, by decide⟩
    have hat389 : cl389.slots[((26 : Int32)).toNatClampNeg]? = some (.ref (A 26)) := Has.at Hh389 hin389 rfl
    obtain ⟨cq393, kq393, q393a, q393b, q393c⟩ := isOf hZ e87 (EN.2.2.2.2.2.2.1.2.2.2.2.2.1.ext OL87.2)
    obtain ⟨_, _, ⟨T393, L393, k393, n393⟩, -, X393, ⟨Lc393, hQ393, l393, y393, z393⟩, st393⟩ := X87.virtualBack hx (y := own_m0) (z := own_m0) hown (mvT hZ (hw _ (List.mem_of_getElem? (i := 61) rfl))) (mvT hZ (hw _ (List.mem_of_getElem? (i := 62) rfl))) (notFace_of_selects (args := #[]) (mvT hZ (hw _ (List.mem_of_getElem? (i := 64) rfl)))) (mvT hZ (hw _ (List.mem_of_getElem? (i := 64) rfl))) (mvT hZ (hw _ (List.mem_of_getElem? (i := 63) rfl))) (by decide) (backOf (W := 0) (rm63 l Z a0 hw [] h87 n0 p1 p2 p3 A K cs EN OL87) hZ (hw _ (List.mem_of_getElem? (i := 65) rfl)) (hw _ (List.mem_of_getElem? (i := 3) rfl)) (by decide) (by decide)) q393a q393c (g := (mkF m 234 #[.val (.int p1), .val (.int p2), .val (.int p3), .val (.ref b3), .val (.int (26 : Int32)), .val (.ref (A 26)), .val (.int (0 : Int32)), .unset, .unset] [(.ref (A 26))])) rfl (by rw [hml]; rfl) (Steps.refl _) (argsL := []) (rest := []) (lenOf own_pd0 rfl) rfl (by show 2 * 0 + _ ≤ _; exact Nat.le_of_eq rfl) (hb hby at_234) (fun _ _ => ⟨rfl, e87, (by decide : 1 + 0 ≤ _), (by decide : 28 + 0 ≤ _)⟩)
    dsimp only [Pt.U, Pt.locs, Pt.cells, Pt.slots] at X393 l393 y393 z393 st393 hQ393
    replace X393 := own_sub X393 l393 y393 z393
    obtain ⟨rfl, N393q, e393⟩ := hQ393
    have N393 := Fr.app NF87 N393q
    obtain ⟨fs, hr, hrun, hended, hW, hsame⟩ := X393.leave (v := some (.int (1 : Int32))) (fun h => by rw [Bd.returns] at h; cases h)
    refine ⟨_, _, pre88 _ ?_, hrun, hended, _, _, rfl, ?_, ⟨_, rfl⟩, hW, hsame.mono (by decide) (by decide)⟩
    · show Steps p.tables e below (T87.setTop (mkF m 203 #[.val (.int p1), .val (.int p2), .val (.int p3), .val (.ref b3), .unset, .unset, .unset, .unset, .unset] [(.int ((p1 &&& (2147483647 : Int32)) % (28 : Int32)))])) _
      rw [hk89]
      show Steps p.tables e below (T87.setTop (mkF m 203 #[.val (.int p1), .val (.int p2), .val (.int p3), .val (.ref b3), .unset, .unset, .unset, .unset, .unset] [(.int (26 : Int32))])) _
      refine XS.istore X87.here hx rfl (hb hby at_203) rfl (l' := #[.val (.int p1), .val (.int p2), .val (.int p3), .val (.ref b3), .val (.int (26 : Int32)), .unset, .unset, .unset, .unset]) rfl ?_
      refine XS.aloadN X87.here hx rfl (hb hby at_205) rfl rfl ?_
      refine XS.iload X87.here hx rfl (hb hby at_206) rfl ?_
      show Steps p.tables e below (T87.setTop (mkF m 208 #[.val (.int p1), .val (.int p2), .val (.int p3), .val (.ref b3), .val (.int (26 : Int32)), .unset, .unset, .unset, .unset] [(.int (26 : Int32)), (.ref b3)])) _
      refine X87.aaload hx (j := (26 : Int32)) (v := (.ref (A 26))) (by rw [e87]; exact Ar389.1) (State.isArrayOf_alike hZ.alike Ar389.2.1) rfl Ar389.2.2 hin389 hat389 (g := (mkF m 208 #[.val (.int p1), .val (.int p2), .val (.int p3), .val (.ref b3), .val (.int (26 : Int32)), .unset, .unset, .unset, .unset] [(.int (26 : Int32)), (.ref b3)])) rfl rfl (hb hby at_208) _ ?_
      show Steps p.tables e below (T87.setTop (mkF m 209 #[.val (.int p1), .val (.int p2), .val (.int p3), .val (.ref b3), .val (.int (26 : Int32)), .unset, .unset, .unset, .unset] [(.ref (A 26))])) _
      refine XS.astore X87.here hx rfl (hb hby at_209) rfl rfl (l' := #[.val (.int p1), .val (.int p2), .val (.int p3), .val (.ref b3), .val (.int (26 : Int32)), .val (.ref (A 26)), .unset, .unset, .unset]) rfl ?_
      refine XS.iload X87.here hx rfl (hb hby at_211) rfl ?_
      refine XS.bipush X87.here hx rfl (hb hby at_213) ?_
      show Steps p.tables e below (T87.setTop (mkF m 215 #[.val (.int p1), .val (.int p2), .val (.int p3), .val (.ref b3), .val (.int (26 : Int32)), .val (.ref (A 26)), .unset, .unset, .unset] [(.int (13 : Int32)), (.int (26 : Int32))])) _
      refine XS.icmpNo X87.here hx rfl (hb hby at_215) rfl (flt (by decide : ¬ ((26 : Int32) < (13 : Int32)))).1 ?_
      show Steps p.tables e below (T87.setTop (mkF m 218 #[.val (.int p1), .val (.int p2), .val (.int p3), .val (.ref b3), .val (.int (26 : Int32)), .val (.ref (A 26)), .unset, .unset, .unset] [])) _
      refine XS.iload X87.here hx rfl (hb hby at_218) rfl ?_
      refine XS.bipush X87.here hx rfl (hb hby at_220) ?_
      refine XS.icmpYes X87.here hx rfl (pc0 := 222) (pc' := 229) rfl (hb hby at_222) rfl (tlt (by decide : (15 : Int32) < (26 : Int32))).2.2.1 (by decide) (by decide) ?_
      show Steps p.tables e below (T87.setTop (mkF m 229 #[.val (.int p1), .val (.int p2), .val (.int p3), .val (.ref b3), .val (.int (26 : Int32)), .val (.ref (A 26)), .unset, .unset, .unset] [])) _
      refine XS.iconst X87.here hx rfl (hb hby at_229) ?_
      refine XS.istore X87.here hx rfl (hb hby at_230) rfl (l' := #[.val (.int p1), .val (.int p2), .val (.int p3), .val (.ref b3), .val (.int (26 : Int32)), .val (.ref (A 26)), .val (.int (0 : Int32)), .unset, .unset]) rfl ?_
      refine XS.aload X87.here hx rfl (hb hby at_232) rfl rfl ?_
      show Steps p.tables e below (T87.setTop (mkF m 234 #[.val (.int p1), .val (.int p2), .val (.int p3), .val (.ref b3), .val (.int (26 : Int32)), .val (.ref (A 26)), .val (.int (0 : Int32)), .unset, .unset] [(.ref (A 26))])) _
      refine st393.trans ?_
      show Steps p.tables e below (T393.setTop (mkF m 237 #[.val (.int p1), .val (.int p2), .val (.int p3), .val (.ref b3), .val (.int (26 : Int32)), .val (.ref (A 26)), .val (.int (0 : Int32)), .unset, .unset] [(.int (0 : Int32))])) _
      refine XS.istore X393.here hx rfl (hb hby at_237) rfl (l' := #[.val (.int p1), .val (.int p2), .val (.int p3), .val (.ref b3), .val (.int (26 : Int32)), .val (.ref (A 26)), .val (.int (0 : Int32)), .val (.int (0 : Int32)), .unset]) rfl ?_
      refine XS.iload X393.here hx rfl (hb hby at_239) rfl ?_
      refine XS.iload X393.here hx rfl (hb hby at_241) rfl ?_
      show Steps p.tables e below (T393.setTop (mkF m 243 #[.val (.int p1), .val (.int p2), .val (.int p3), .val (.ref b3), .val (.int (26 : Int32)), .val (.ref (A 26)), .val (.int (0 : Int32)), .val (.int (0 : Int32)), .unset] [(.int (0 : Int32)), (.int (0 : Int32))])) _
      refine XS.icmpYes X393.here hx rfl (pc0 := 243) (pc' := 248) rfl (hb hby at_243) rfl (teq (by decide : (0 : Int32) = (0 : Int32))).1 (by decide) (by decide) ?_
      show Steps p.tables e below (T393.setTop (mkF m 248 #[.val (.int p1), .val (.int p2), .val (.int p3), .val (.ref b3), .val (.int (26 : Int32)), .val (.ref (A 26)), .val (.int (0 : Int32)), .val (.int (0 : Int32)), .unset] [])) _
      refine XS.iload X393.here hx rfl (hb hby at_248) rfl ?_
      refine XS.ifNo X393.here hx rfl (hb hby at_250) rfl ((if0 _ _).trans (teq (by decide : (0 : Int32) = (0 : Int32))).2) ?_
      show Steps p.tables e below (T393.setTop (mkF m 253 #[.val (.int p1), .val (.int p2), .val (.int p3), .val (.ref b3), .val (.int (26 : Int32)), .val (.ref (A 26)), .val (.int (0 : Int32)), .val (.int (0 : Int32)), .unset] [])) _
      refine XS.iconst X393.here hx rfl (hb hby at_253) ?_
      exact retN X393 hx (t := .boolean) Bd.returns (by simp) (hb hby at_254) hr
    · show LQ n0 _ T393.heap _
      exact ⟨rfl, N393, trivial⟩
  | 27, _, hk89 =>
    obtain ⟨cl394, Ar394, q394, Sz394, Nn394, Hh394, Gg394⟩ := (id V87)
    have hin394 : ¬ ((27 : Int32) < 0 ∨ cl394.slots.size ≤ ((27 : Int32)).toNatClampNeg) := inb_of Sz394 ⟨by decide, by decide⟩
    have hat394 : cl394.slots[((27 : Int32)).toNatClampNeg]? = some (.ref (A 27)) := Has.at Hh394 hin394 rfl
    obtain ⟨cq398, kq398, q398a, q398b, q398c⟩ := isOf hZ e87 (EN.2.2.2.2.2.2.1.2.2.2.2.2.2.2.1.ext OL87.2)
    obtain ⟨_, _, ⟨T398, L398, k398, n398⟩, -, X398, ⟨Lc398, hQ398, l398, y398, z398⟩, st398⟩ := X87.virtualBack hx (y := own_m0) (z := own_m0) hown (mvT hZ (hw _ (List.mem_of_getElem? (i := 61) rfl))) (mvT hZ (hw _ (List.mem_of_getElem? (i := 62) rfl))) (notFace_of_selects (args := #[]) (mvT hZ (hw _ (List.mem_of_getElem? (i := 64) rfl)))) (mvT hZ (hw _ (List.mem_of_getElem? (i := 64) rfl))) (mvT hZ (hw _ (List.mem_of_getElem? (i := 63) rfl))) (by decide) (backOf (W := 0) (rm64 l Z a0 hw [] h87 n0 p1 p2 p3 A K cs EN OL87) hZ (hw _ (List.mem_of_getElem? (i := 65) rfl)) (hw _ (List.mem_of_getElem? (i := 3) rfl)) (by decide) (by decide)) q398a q398c (g := (mkF m 234 #[.val (.int p1), .val (.int p2), .val (.int p3), .val (.ref b3), .val (.int (27 : Int32)), .val (.ref (A 27)), .val (.int (0 : Int32)), .unset, .unset] [(.ref (A 27))])) rfl (by rw [hml]; rfl) (Steps.refl _) (argsL := []) (rest := []) (lenOf own_pd0 rfl) rfl (by show 2 * 0 + _ ≤ _; exact Nat.le_of_eq rfl) (hb hby at_234) (fun _ _ => ⟨rfl, e87, (by decide : 1 + 0 ≤ _), (by decide : 28 + 0 ≤ _)⟩)
    dsimp only [Pt.U, Pt.locs, Pt.cells, Pt.slots] at X398 l398 y398 z398 st398 hQ398
    replace X398 := own_sub X398 l398 y398 z398
    obtain ⟨rfl, N398q, e398⟩ := hQ398
    have N398 := Fr.app NF87 N398q
    obtain ⟨fs, hr, hrun, hended, hW, hsame⟩ := X398.leave (v := some (.int (1 : Int32))) (fun h => by rw [Bd.returns] at h; cases h)
    refine ⟨_, _, pre88 _ ?_, hrun, hended, _, _, rfl, ?_, ⟨_, rfl⟩, hW, hsame.mono (by decide) (by decide)⟩
    · show Steps p.tables e below (T87.setTop (mkF m 203 #[.val (.int p1), .val (.int p2), .val (.int p3), .val (.ref b3), .unset, .unset, .unset, .unset, .unset] [(.int ((p1 &&& (2147483647 : Int32)) % (28 : Int32)))])) _
      rw [hk89]
      show Steps p.tables e below (T87.setTop (mkF m 203 #[.val (.int p1), .val (.int p2), .val (.int p3), .val (.ref b3), .unset, .unset, .unset, .unset, .unset] [(.int (27 : Int32))])) _
      refine XS.istore X87.here hx rfl (hb hby at_203) rfl (l' := #[.val (.int p1), .val (.int p2), .val (.int p3), .val (.ref b3), .val (.int (27 : Int32)), .unset, .unset, .unset, .unset]) rfl ?_
      refine XS.aloadN X87.here hx rfl (hb hby at_205) rfl rfl ?_
      refine XS.iload X87.here hx rfl (hb hby at_206) rfl ?_
      show Steps p.tables e below (T87.setTop (mkF m 208 #[.val (.int p1), .val (.int p2), .val (.int p3), .val (.ref b3), .val (.int (27 : Int32)), .unset, .unset, .unset, .unset] [(.int (27 : Int32)), (.ref b3)])) _
      refine X87.aaload hx (j := (27 : Int32)) (v := (.ref (A 27))) (by rw [e87]; exact Ar394.1) (State.isArrayOf_alike hZ.alike Ar394.2.1) rfl Ar394.2.2 hin394 hat394 (g := (mkF m 208 #[.val (.int p1), .val (.int p2), .val (.int p3), .val (.ref b3), .val (.int (27 : Int32)), .unset, .unset, .unset, .unset] [(.int (27 : Int32)), (.ref b3)])) rfl rfl (hb hby at_208) _ ?_
      show Steps p.tables e below (T87.setTop (mkF m 209 #[.val (.int p1), .val (.int p2), .val (.int p3), .val (.ref b3), .val (.int (27 : Int32)), .unset, .unset, .unset, .unset] [(.ref (A 27))])) _
      refine XS.astore X87.here hx rfl (hb hby at_209) rfl rfl (l' := #[.val (.int p1), .val (.int p2), .val (.int p3), .val (.ref b3), .val (.int (27 : Int32)), .val (.ref (A 27)), .unset, .unset, .unset]) rfl ?_
      refine XS.iload X87.here hx rfl (hb hby at_211) rfl ?_
      refine XS.bipush X87.here hx rfl (hb hby at_213) ?_
      show Steps p.tables e below (T87.setTop (mkF m 215 #[.val (.int p1), .val (.int p2), .val (.int p3), .val (.ref b3), .val (.int (27 : Int32)), .val (.ref (A 27)), .unset, .unset, .unset] [(.int (13 : Int32)), (.int (27 : Int32))])) _
      refine XS.icmpNo X87.here hx rfl (hb hby at_215) rfl (flt (by decide : ¬ ((27 : Int32) < (13 : Int32)))).1 ?_
      show Steps p.tables e below (T87.setTop (mkF m 218 #[.val (.int p1), .val (.int p2), .val (.int p3), .val (.ref b3), .val (.int (27 : Int32)), .val (.ref (A 27)), .unset, .unset, .unset] [])) _
      refine XS.iload X87.here hx rfl (hb hby at_218) rfl ?_
      refine XS.bipush X87.here hx rfl (hb hby at_220) ?_
      refine XS.icmpYes X87.here hx rfl (pc0 := 222) (pc' := 229) rfl (hb hby at_222) rfl (tlt (by decide : (15 : Int32) < (27 : Int32))).2.2.1 (by decide) (by decide) ?_
      show Steps p.tables e below (T87.setTop (mkF m 229 #[.val (.int p1), .val (.int p2), .val (.int p3), .val (.ref b3), .val (.int (27 : Int32)), .val (.ref (A 27)), .unset, .unset, .unset] [])) _
      refine XS.iconst X87.here hx rfl (hb hby at_229) ?_
      refine XS.istore X87.here hx rfl (hb hby at_230) rfl (l' := #[.val (.int p1), .val (.int p2), .val (.int p3), .val (.ref b3), .val (.int (27 : Int32)), .val (.ref (A 27)), .val (.int (0 : Int32)), .unset, .unset]) rfl ?_
      refine XS.aload X87.here hx rfl (hb hby at_232) rfl rfl ?_
      show Steps p.tables e below (T87.setTop (mkF m 234 #[.val (.int p1), .val (.int p2), .val (.int p3), .val (.ref b3), .val (.int (27 : Int32)), .val (.ref (A 27)), .val (.int (0 : Int32)), .unset, .unset] [(.ref (A 27))])) _
      refine st398.trans ?_
      show Steps p.tables e below (T398.setTop (mkF m 237 #[.val (.int p1), .val (.int p2), .val (.int p3), .val (.ref b3), .val (.int (27 : Int32)), .val (.ref (A 27)), .val (.int (0 : Int32)), .unset, .unset] [(.int (0 : Int32))])) _
      refine XS.istore X398.here hx rfl (hb hby at_237) rfl (l' := #[.val (.int p1), .val (.int p2), .val (.int p3), .val (.ref b3), .val (.int (27 : Int32)), .val (.ref (A 27)), .val (.int (0 : Int32)), .val (.int (0 : Int32)), .unset]) rfl ?_
      refine XS.iload X398.here hx rfl (hb hby at_239) rfl ?_
      refine XS.iload X398.here hx rfl (hb hby at_241) rfl ?_
      show Steps p.tables e below (T398.setTop (mkF m 243 #[.val (.int p1), .val (.int p2), .val (.int p3), .val (.ref b3), .val (.int (27 : Int32)), .val (.ref (A 27)), .val (.int (0 : Int32)), .val (.int (0 : Int32)), .unset] [(.int (0 : Int32)), (.int (0 : Int32))])) _
      refine XS.icmpYes X398.here hx rfl (pc0 := 243) (pc' := 248) rfl (hb hby at_243) rfl (teq (by decide : (0 : Int32) = (0 : Int32))).1 (by decide) (by decide) ?_
      show Steps p.tables e below (T398.setTop (mkF m 248 #[.val (.int p1), .val (.int p2), .val (.int p3), .val (.ref b3), .val (.int (27 : Int32)), .val (.ref (A 27)), .val (.int (0 : Int32)), .val (.int (0 : Int32)), .unset] [])) _
      refine XS.iload X398.here hx rfl (hb hby at_248) rfl ?_
      refine XS.ifNo X398.here hx rfl (hb hby at_250) rfl ((if0 _ _).trans (teq (by decide : (0 : Int32) = (0 : Int32))).2) ?_
      show Steps p.tables e below (T398.setTop (mkF m 253 #[.val (.int p1), .val (.int p2), .val (.int p3), .val (.ref b3), .val (.int (27 : Int32)), .val (.ref (A 27)), .val (.int (0 : Int32)), .val (.int (0 : Int32)), .unset] [])) _
      refine XS.iconst X398.here hx rfl (hb hby at_253) ?_
      exact retN X398 hx (t := .boolean) Bd.returns (by simp) (hb hby at_254) hr
    · show LQ n0 _ T398.heap _
      exact ⟨rfl, N398, trivial⟩
  | kk + 28, h, _ => exact absurd h (by omega)
set_option maxRecDepth 65536 in
set_option maxHeartbeats 40000000 in
theorem comes_1 {Post : Tables → Env → Array Value → State → Outcome → State → Prop} (hpost : ∀ tb e args s v u, (limb_1_1.after args s (.returned v) u = true ∧ limb_1_2.after args s (.returned v) u = true ∧ True) → FrameEnd s (.returned v) u (Jvm.fieldLocs frame_1_writes args s ++ Jvm.arrayLocs frame_1_arrays args s ++ Jvm.staticLocs frame_1_statics s) 16 192 → Post tb e args s (.returned v) u) :
    ArmFor flags0 classFile x code maxLocals ret World_1 tables_1 room_1 Calls_1 rest_1 Pre_1 Post := by
  intro l hfl _ _ p e ha hc hk s m args below hf hA hF happ hP
  obtain ⟨hcalls, hrest, hpre⟩ := hP
  obtain ⟨-, -, -, hnamed, -, -, -, hat⟩ := (Spec.applies_iff hf).mp happ
  obtain ⟨hg, hn⟩ := and_e (Cond.before_iff.mp (show (Jvm.Cond.and given_1 narrow_1).before args s = true from hpre))
  obtain ⟨gA0, gB0⟩ := and_e hg
  obtain ⟨gA1, gB1⟩ := and_e gB0
  obtain ⟨gA2, gB2⟩ := and_e gB1
  obtain ⟨w0, w1, w2, rfl⟩ : ∃ w0 w1 w2 : Value, args = #[w0, w1, w2] := by
    have hs : args.size = 3 := by simpa [Cond.value, given_1] using gA0
    obtain ⟨L⟩ := args
    match L, hs with
    | [w0, w1, w2], _ => exact ⟨w0, w1, w2, rfl⟩
  have hw := fun d (hd : d ∈ tables_1) => atoms_spec (ws := Jvm.Cond.code x code maxLocals ret :: tables_1) hat d (List.mem_cons_of_mem _ hd)
  have hfit : Fit s := fun {y c} hc i hi => by
    obtain ⟨ha, rfl⟩ := Array.getElem?_eq_some_iff.mp hc
    have q := List.all_eq_true.mp ((Array.all_eq_true_iff_forall_mem.mp hF) _ (Array.getElem_mem ha)) i (List.mem_range.mpr hi)
    simpa [Array.getElem?_eq_getElem hi] using q
  obtain ⟨hsets, hown0⟩ := atoms_of _ (rest_1_c_eq ▸ (show rest_1_c.before _ s = true from hrest))
  have hr0 := Cond.before_iff.mp hown0
  obtain ⟨i0, ei0⟩ := is_v gA1
  obtain rfl : w0 = (.int i0) := Option.some.inj ei0
  obtain ⟨i1, ei1⟩ := is_v gA2
  obtain rfl : w1 = (.int i1) := Option.some.inj ei1
  obtain ⟨i2, ei2⟩ := is_v gB2
  obtain rfl : w2 = (.int i2) := Option.some.inj ei2
  obtain ⟨hx0, hr0⟩ := and_e hn
  obtain ⟨hx1, hr1⟩ := and_e hr0
  obtain ⟨hx2, hr2⟩ := and_e hr1
  obtain ⟨hx3, hr3⟩ := and_e hr2
  obtain ⟨hx4, hr4⟩ := and_e hr3
  obtain ⟨hx5, hr5⟩ := and_e hr4
  obtain ⟨hx6, hr6⟩ := and_e hr5
  obtain ⟨hx7, hr7⟩ := and_e hr6
  obtain ⟨hx8, hr8⟩ := and_e hr7
  obtain ⟨hx9, hr9⟩ := and_e hr8
  obtain ⟨hx10, hr10⟩ := and_e hr9
  obtain ⟨hx11, hr11⟩ := and_e hr10
  obtain ⟨hx12, hr12⟩ := and_e hr11
  obtain ⟨hx13, hr13⟩ := and_e hr12
  obtain ⟨hx14, hr14⟩ := and_e hr13
  obtain ⟨hx15, hr15⟩ := and_e hr14
  obtain ⟨hx16, hr16⟩ := and_e hr15
  obtain ⟨hx17, hr17⟩ := and_e hr16
  obtain ⟨hx18, hr18⟩ := and_e hr17
  obtain ⟨hx19, hr19⟩ := and_e hr18
  obtain ⟨hx20, hr20⟩ := and_e hr19
  obtain ⟨hx21, hr21⟩ := and_e hr20
  obtain ⟨hx22, hr22⟩ := and_e hr21
  obtain ⟨hx23, hr23⟩ := and_e hr22
  obtain ⟨hx24, hr24⟩ := and_e hr23
  obtain ⟨hx25, hr25⟩ := and_e hr24
  obtain ⟨hx26, hr26⟩ := and_e hr25
  obtain ⟨hx27, hr27⟩ := and_e hr26
  obtain ⟨hx28, hr28⟩ := and_e hr27
  obtain ⟨hx29, hr29⟩ := and_e hr28
  obtain ⟨hx30, hr30⟩ := and_e hr29
  obtain ⟨hx31, hr31⟩ := and_e hr30
  obtain ⟨hx32, hr32⟩ := and_e hr31
  obtain ⟨hx33, hr33⟩ := and_e hr32
  obtain ⟨hx34, hr34⟩ := and_e hr33
  obtain ⟨hx35, hr35⟩ := and_e hr34
  obtain ⟨hx36, hr36⟩ := and_e hr35
  obtain ⟨hx37, hr37⟩ := and_e hr36
  obtain ⟨hx38, hr38⟩ := and_e hr37
  obtain ⟨hx39, hr39⟩ := and_e hr38
  obtain ⟨hx40, hr40⟩ := and_e hr39
  obtain ⟨hx41, hr41⟩ := and_e hr40
  obtain ⟨hx42, hr42⟩ := and_e hr41
  obtain ⟨hx43, hr43⟩ := and_e hr42
  obtain ⟨hx44, hr44⟩ := and_e hr43
  obtain ⟨hx45, hr45⟩ := and_e hr44
  obtain ⟨hx46, hr46⟩ := and_e hr45
  obtain ⟨hx47, hr47⟩ := and_e hr46
  obtain ⟨hx48, hr48⟩ := and_e hr47
  obtain ⟨hx49, hr49⟩ := and_e hr48
  obtain ⟨hx50, hr50⟩ := and_e hr49
  obtain ⟨hx51, hr51⟩ := and_e hr50
  obtain ⟨hx52, hr52⟩ := and_e hr51
  obtain ⟨hx53, hr53⟩ := and_e hr52
  obtain ⟨hx54, hr54⟩ := and_e hr53
  obtain ⟨aS0, eS0⟩ := exa_v hx0
  obtain ⟨aS1, eS1⟩ := exa_v hx1
  obtain ⟨aS2, eS2⟩ := exa_v hx2
  obtain ⟨aS3, eS3⟩ := exa_v hx3
  obtain ⟨aS4, eS4⟩ := exa_v hx4
  obtain ⟨aS5, eS5⟩ := exa_v hx5
  obtain ⟨aS6, eS6⟩ := exa_v hx6
  obtain ⟨aS7, eS7⟩ := exa_v hx7
  obtain ⟨aS8, eS8⟩ := exa_v hx8
  obtain ⟨aS9, eS9⟩ := exa_v hx9
  obtain ⟨aS10, eS10⟩ := exa_v hx10
  obtain ⟨aS11, eS11⟩ := exa_v hx11
  obtain ⟨aS12, eS12⟩ := exa_v hx12
  obtain ⟨aS13, eS13⟩ := exa_v hx13
  obtain ⟨aS14, eS14⟩ := exa_v hx14
  obtain ⟨aS15, eS15⟩ := exa_v hx15
  obtain ⟨aS16, eS16⟩ := exa_v hx16
  obtain ⟨aS17, eS17⟩ := exa_v hx17
  obtain ⟨aS18, eS18⟩ := exa_v hx18
  obtain ⟨aS19, eS19⟩ := exa_v hx19
  obtain ⟨aS20, eS20⟩ := exa_v hx20
  obtain ⟨aS21, eS21⟩ := exa_v hx21
  obtain ⟨aS22, eS22⟩ := exa_v hx22
  obtain ⟨aS23, eS23⟩ := exa_v hx23
  obtain ⟨aS24, eS24⟩ := exa_v hx24
  obtain ⟨aS25, eS25⟩ := exa_v hx25
  obtain ⟨aS26, eS26⟩ := exa_v hx26
  obtain ⟨aS27, eS27⟩ := exa_v hx27
  obtain ⟨cs, eCS⟩ := is_v (Cond.before_iff.mp (hsets _ (List.mem_of_getElem? (i := 1) rfl)))
  have hCS : ¬ (cs = (0 : Int32)) := own_csne eCS (Cond.before_iff.mp (hsets _ (List.mem_of_getElem? (i := 2) rfl)))
  have EN : own_St s (fun n => [aS0, aS1, aS2, aS3, aS4, aS5, aS6, aS7, aS8, aS9, aS10, aS11, aS12, aS13, aS14, aS15, aS16, aS17, aS18, aS19, aS20, aS21, aS22, aS23, aS24, aS25, aS26, aS27].getD n 0) (fun n => [].getD n 0) cs := ⟨⟨Sta.start eS0 (Or.inr ⟨(hw _ (List.mem_of_getElem? (i := 3) rfl)), (hw _ (List.mem_of_getElem? (i := 4) rfl))⟩), Exa.start eS0 hx0, Sta.start eS1 (Or.inr ⟨(hw _ (List.mem_of_getElem? (i := 3) rfl)), (hw _ (List.mem_of_getElem? (i := 7) rfl))⟩), Exa.start eS1 hx1, Sta.start eS2 (Or.inr ⟨(hw _ (List.mem_of_getElem? (i := 3) rfl)), (hw _ (List.mem_of_getElem? (i := 9) rfl))⟩), Exa.start eS2 hx2, Sta.start eS3 (Or.inr ⟨(hw _ (List.mem_of_getElem? (i := 3) rfl)), (hw _ (List.mem_of_getElem? (i := 11) rfl))⟩), Exa.start eS3 hx3, trivial⟩, ⟨Sta.start eS4 (Or.inr ⟨(hw _ (List.mem_of_getElem? (i := 3) rfl)), (hw _ (List.mem_of_getElem? (i := 13) rfl))⟩), Exa.start eS4 hx4, Sta.start eS5 (Or.inr ⟨(hw _ (List.mem_of_getElem? (i := 3) rfl)), (hw _ (List.mem_of_getElem? (i := 15) rfl))⟩), Exa.start eS5 hx5, Sta.start eS6 (Or.inr ⟨(hw _ (List.mem_of_getElem? (i := 3) rfl)), (hw _ (List.mem_of_getElem? (i := 17) rfl))⟩), Exa.start eS6 hx6, Sta.start eS7 (Or.inr ⟨(hw _ (List.mem_of_getElem? (i := 3) rfl)), (hw _ (List.mem_of_getElem? (i := 19) rfl))⟩), Exa.start eS7 hx7, trivial⟩, ⟨Sta.start eS8 (Or.inr ⟨(hw _ (List.mem_of_getElem? (i := 3) rfl)), (hw _ (List.mem_of_getElem? (i := 21) rfl))⟩), Exa.start eS8 hx8, Sta.start eS9 (Or.inr ⟨(hw _ (List.mem_of_getElem? (i := 3) rfl)), (hw _ (List.mem_of_getElem? (i := 23) rfl))⟩), Exa.start eS9 hx9, Sta.start eS10 (Or.inr ⟨(hw _ (List.mem_of_getElem? (i := 3) rfl)), (hw _ (List.mem_of_getElem? (i := 25) rfl))⟩), Exa.start eS10 hx10, Sta.start eS11 (Or.inr ⟨(hw _ (List.mem_of_getElem? (i := 3) rfl)), (hw _ (List.mem_of_getElem? (i := 27) rfl))⟩), Exa.start eS11 hx11, trivial⟩, ⟨Sta.start eS12 (Or.inr ⟨(hw _ (List.mem_of_getElem? (i := 3) rfl)), (hw _ (List.mem_of_getElem? (i := 29) rfl))⟩), Exa.start eS12 hx12, Sta.start eS13 (Or.inr ⟨(hw _ (List.mem_of_getElem? (i := 3) rfl)), (hw _ (List.mem_of_getElem? (i := 31) rfl))⟩), Exa.start eS13 hx13, Sta.start eS14 (Or.inr ⟨(hw _ (List.mem_of_getElem? (i := 3) rfl)), (hw _ (List.mem_of_getElem? (i := 33) rfl))⟩), Exa.start eS14 hx14, Sta.start eS15 (Or.inr ⟨(hw _ (List.mem_of_getElem? (i := 3) rfl)), (hw _ (List.mem_of_getElem? (i := 35) rfl))⟩), Exa.start eS15 hx15, trivial⟩, ⟨Sta.start eS16 (Or.inr ⟨(hw _ (List.mem_of_getElem? (i := 3) rfl)), (hw _ (List.mem_of_getElem? (i := 37) rfl))⟩), Exa.start eS16 hx16, Sta.start eS17 (Or.inr ⟨(hw _ (List.mem_of_getElem? (i := 3) rfl)), (hw _ (List.mem_of_getElem? (i := 39) rfl))⟩), Exa.start eS17 hx17, Sta.start eS18 (Or.inr ⟨(hw _ (List.mem_of_getElem? (i := 3) rfl)), (hw _ (List.mem_of_getElem? (i := 41) rfl))⟩), Exa.start eS18 hx18, Sta.start eS19 (Or.inr ⟨(hw _ (List.mem_of_getElem? (i := 3) rfl)), (hw _ (List.mem_of_getElem? (i := 43) rfl))⟩), Exa.start eS19 hx19, trivial⟩, ⟨Sta.start eS20 (Or.inr ⟨(hw _ (List.mem_of_getElem? (i := 3) rfl)), (hw _ (List.mem_of_getElem? (i := 45) rfl))⟩), Exa.start eS20 hx20, Sta.start eS21 (Or.inr ⟨(hw _ (List.mem_of_getElem? (i := 3) rfl)), (hw _ (List.mem_of_getElem? (i := 47) rfl))⟩), Exa.start eS21 hx21, Sta.start eS22 (Or.inr ⟨(hw _ (List.mem_of_getElem? (i := 3) rfl)), (hw _ (List.mem_of_getElem? (i := 49) rfl))⟩), Exa.start eS22 hx22, Sta.start eS23 (Or.inr ⟨(hw _ (List.mem_of_getElem? (i := 3) rfl)), (hw _ (List.mem_of_getElem? (i := 51) rfl))⟩), Exa.start eS23 hx23, trivial⟩, ⟨Sta.start eS24 (Or.inr ⟨(hw _ (List.mem_of_getElem? (i := 3) rfl)), (hw _ (List.mem_of_getElem? (i := 53) rfl))⟩), Exa.start eS24 hx24, Sta.start eS25 (Or.inr ⟨(hw _ (List.mem_of_getElem? (i := 3) rfl)), (hw _ (List.mem_of_getElem? (i := 55) rfl))⟩), Exa.start eS25 hx25, Sta.start eS26 (Or.inr ⟨(hw _ (List.mem_of_getElem? (i := 3) rfl)), (hw _ (List.mem_of_getElem? (i := 57) rfl))⟩), Exa.start eS26 hx26, Sta.start eS27 (Or.inr ⟨(hw _ (List.mem_of_getElem? (i := 3) rfl)), (hw _ (List.mem_of_getElem? (i := 59) rfl))⟩), Exa.start eS27 hx27, trivial⟩, ⟨Sta.start eCS (Or.inl (hsets _ (List.mem_of_getElem? (i := 0) rfl))), hCS, own_orref (Cond.before_iff.mp (hsets _ (List.mem_of_getElem? (i := 8) rfl))) (Or.inl (hsets _ (List.mem_of_getElem? (i := 7) rfl))), own_fld eS0 (own_eqv (Term.int_eval _) hx28), own_fld eS13 (own_eqv (Term.int_eval _) hx29), own_fld eS14 (own_eqv (Term.int_eval _) hx30), own_fld eS15 (own_eqv (Term.int_eval _) hx31), own_fld eS1 (own_eqv (Term.int_eval _) hx32), trivial⟩, ⟨own_fld eS24 (own_eqv (Term.int_eval _) hx33), own_fld eS19 (own_eqv (Term.int_eval _) hx34), own_fld eS8 (own_eqv (Term.int_eval _) hx35), own_fld eS2 (own_eqv (Term.int_eval _) hx36), own_fld eS3 (own_eqv (Term.int_eval _) hx37), own_fld eS10 (own_eqv (Term.int_eval _) hx38), own_fld eS16 (own_eqv (Term.int_eval _) hx39), own_fld eS17 (own_eqv (Term.int_eval _) hx40), trivial⟩, ⟨own_fld eS25 (own_eqv (Term.int_eval _) hx41), own_fld eS11 (own_eqv (Term.int_eval _) hx42), own_fld eS22 (own_eqv (Term.int_eval _) hx43), own_fld eS9 (own_eqv (Term.int_eval _) hx44), own_fld eS5 (own_eqv (Term.int_eval _) hx45), own_fld eS4 (own_eqv (Term.int_eval _) hx46), own_fld eS18 (own_eqv (Term.int_eval _) hx47), own_fld eS7 (own_eqv (Term.int_eval _) hx48), trivial⟩, ⟨own_fld eS6 (own_eqv (Term.int_eval _) hx49), own_fld eS21 (own_eqv (Term.int_eval _) hx50), own_fld eS27 (own_eqv (Term.int_eval _) hx51), own_fld eS20 (own_eqv (Term.int_eval _) hx52), own_fld eS12 (own_eqv (Term.int_eval _) hx53), own_fld eS26 (own_eqv (Term.int_eval _) hx54), own_fld eS23 (own_eqv (Term.int_eval _) hr54), trivial⟩, trivial⟩
  obtain ⟨n, o, h1, h2, h3, _, L, rfl, hQ, hq⟩ := rm0 l s _ hw tables_1 s.heap s.heap.size i0 i1 i2 (fun n => [aS0, aS1, aS2, aS3, aS4, aS5, aS6, aS7, aS8, aS9, aS10, aS11, aS12, aS13, aS14, aS15, aS16, aS17, aS18, aS19, aS20, aS21, aS22, aS23, aS24, aS25, aS26, aS27].getD n 0) (fun n => [].getD n 0) cs EN (Old.start s) p e ha hc hk s m _ below hf ((Spec.applies_iff_loose hf).mp happ).1 ⟨rfl, State.Warmed39.refl s, rfl⟩ trivial
  obtain ⟨rfl, N, -⟩ := hQ
  refine ⟨n, _, h1, h2, h3, hpost _ _ _ _ _ _ ⟨Cond.after_iff.mpr rfl, Cond.after_iff.mpr (eq_i res_at (Term.int_eval (1)) rfl), trivial⟩ ⟨hq.1, hq.2.1, (hq.2.2.sift fun y hy => Or.inr (N y hy)).mono (by decide) (by decide)⟩⟩
theorem main_1_1 : Claimed_1_1 := comes_1 fun _ _ _ _ _ _ h hF => ⟨h.1, hF⟩
theorem main_1_2 : Claimed_1_2 := comes_1 fun _ _ _ _ _ _ h hF => ⟨h.2.1, hF⟩
end Jvm.Pilot.@@N@@
namespace Jvm.Pilot.@@N@@
open Jvm Jvm.ClassFile Sem Op Lib Jvm.Free Jvm.Stand Jvm.Pilot.@@N@@.Jvm.D
/-! MADE BY PROGRAM (witnessworld.py) out of the Statement's table words and the real class files: 22 classes; the members and pool entries that the words name. The judged class is class 1, her method 2. -/
namespace start1
open Jvm.ClassFile
def u (s : String) : CpInfo := .utf8 (stringToUtf16 s)
/-- a pool by its gaps: so many unusable entries, then the entry; so many at the end -/
def gap : Nat → List CpInfo → List CpInfo
  | 0, r => r
  | n + 1, r => .unusable :: gap n r
def poolList (es : List (Nat × CpInfo)) (last : Nat) : List CpInfo := es.foldr (fun e r => gap e.1 (e.2 :: r)) (gap last [])
def pool (es : List (Nat × CpInfo)) (last : Nat) : Array CpInfo := ⟨poolList es last⟩
def fileOf (pool : Array CpInfo) (this : Nat) (attrs : Array Attribute := #[]) (ms : Array MethodInfo := #[]) (fl : Nat := 33) (sup : Nat := 0) (ifs : Array Nat := #[]) (fds : Array FieldInfo := #[]) : ClassFile where
  minorVersion := 0
  majorVersion := 65
  constantPool := pool
  accessFlags := fl
  thisClass := this
  superClass := sup
  interfaces := ifs
  fields := fds
  methods := ms
  attributes := attrs
def plain (name : String) (sup : Option ClassId) : Class where
  name := name
  kind := .ordinary
  loader := none
  accessFlags := 33
  super := sup
  interfaces := #[]
  cf := none
  fields := #[]
  methods := #[]
  instanceTypes := #[]
  staticTypes := #[]
  resolved := #[]
  callSites := []
  init := .initialized
  statics := none
  mirror := none

def pool0 : Array CpInfo := pool [(5, u "<init>"), (0, u "()V"), (1, .class_ 10), (1, u "java/lang/Object")] 113

def k0c0 : Code := { maxStack := 0, maxLocals := 1, code := object_method_1_code, exceptionTable := #[], attributes := #[] }
def k0m0 : Method := { name := "<init>", desc := "()V", sig := { parameters := [], returnType := none }, accessFlags := 1, code := some k0c0 }
/-- java/lang/Object -/
def k0 : Class := { plain "java/lang/Object" none with
  accessFlags := 33
  interfaces := #[]
  cf := some (fileOf pool0 8 #[] #[{ accessFlags := 1, nameIndex := 5, descriptorIndex := 6, attributes := #[] }] 33 0 #[] #[])
  fields := #[]
  methods := #[k0m0]
  instanceTypes := #[]
  staticTypes := #[]
  resolved := Array.replicate 124 none
  statics := none }

def pool1 : Array CpInfo := pool [(2, .class_ 4), (1, u "java/lang/Object"), (0, u "<init>"), (0, u "()V"), (0, .class_ 8), (0, u "com/example/tallywire/tallywire/wire/FieldType"), (0, .fieldref 7 10), (0, .nameAndType 11 12), (0, u "INT"), (0, u "Lcom/example/tallywire/tallywire/wire/FieldType;"), (0, .fieldref 7 14), (0, .nameAndType 15 12), (0, u "SEQNUM"), (0, .fieldref 7 17), (0, .nameAndType 18 12), (0, u "LENGTH"), (0, .fieldref 7 20), (0, .nameAndType 21 12), (0, u "NUMINGROUP"), (0, .fieldref 7 23), (0, .nameAndType 24 12), (0, u "FLOAT"), (0, .fieldref 7 26), (0, .nameAndType 27 12), (0, u "QTY"), (0, .fieldref 7 29), (0, .nameAndType 30 12), (0, u "PRICE"), (0, .fieldref 7 32), (0, .nameAndType 33 12), (0, u "AMT"), (0, .fieldref 7 35), (0, .nameAndType 36 12), (0, u "PERCENTAGE"), (0, .fieldref 7 38), (0, .nameAndType 39 12), (0, u "PRICEOFFSET"), (0, .fieldref 7 41), (0, .nameAndType 42 12), (0, u "CHAR"), (0, .fieldref 7 44), (0, .nameAndType 45 12), (0, u "BOOLEAN"), (0, .fieldref 7 47), (0, .nameAndType 48 12), (0, u "STRING"), (0, .fieldref 7 50), (0, .nameAndType 51 12), (0, u "MULTIPLEVALUESTRING"), (0, .fieldref 7 53), (0, .nameAndType 54 12), (0, u "MULTIPLESTRINGVALUE"), (0, .fieldref 7 56), (0, .nameAndType 57 12), (0, u "MULTIPLECHARVALUE"), (0, .fieldref 7 59), (0, .nameAndType 60 12), (0, u "EXCHANGE"), (0, .fieldref 7 62), (0, .nameAndType 63 12), (0, u "CURRENCY"), (0, .fieldref 7 65), (0, .nameAndType 66 12), (0, u "COUNTRY"), (0, .fieldref 7 68), (0, .nameAndType 69 12), (0, u "LOCALMKTDATE"), (0, .fieldref 7 71), (0, .nameAndType 72 12), (0, u "UTCDATEONLY"), (0, .fieldref 7 74), (0, .nameAndType 75 12), (0, u "MONTHYEAR"), (0, .fieldref 7 77), (0, .nameAndType 78 12), (0, u "UTCTIMESTAMP"), (0, .fieldref 7 80), (0, .nameAndType 81 12), (0, u "UTCTIMEONLY"), (0, .fieldref 7 83), (0, .nameAndType 84 12), (0, u "TZTIMEONLY"), (0, .fieldref 7 86), (0, .nameAndType 87 12), (0, u "TZTIMESTAMP"), (0, .fieldref 7 89), (0, .nameAndType 90 12), (0, u "DATA"), (0, .fieldref 7 92), (0, .nameAndType 93 12), (0, u "XMLDATA"), (0, .integer 2147483647), (0, .methodref 7 96), (0, .nameAndType 97 98), (0, u "holdsSeveral"), (0, u "()Z"), (0, .methodref 100 101), (0, .class_ 102), (0, .nameAndType 103 104), (0, u "com/example/tallywire/tallywire/wire/FieldTypeHoldsSeveralPinLaw"), (0, u "nonSpace"), (0, u "(I)C"), (0, .class_ 106), (0, u "java/lang/String"), (0, .methodref 105 108), (0, .nameAndType 5 109), (0, u "([C)V"), (0, .methodref 7 111), (0, .nameAndType 112 113), (0, u "hasForm"), (0, u "(Ljava/lang/String;)Z"), (3, u "law"), (0, u "(III)Z")] 4

def k1m0 : Method := { name := "<init>", desc := "()V", sig := { parameters := [], returnType := none }, accessFlags := 2, code := none }
def k1c1 : Code := { maxStack := 2, maxLocals := 2, code := method_2_code, exceptionTable := #[], attributes := #[] }
def k1m1 : Method := { name := "nonSpace", desc := "(I)C", sig := { parameters := [.int], returnType := some .char }, accessFlags := 10, code := some k1c1 }
def k1c2 : Code := { maxStack := 4, maxLocals := 9, code := code, exceptionTable := #[], attributes := #[] }
def k1m2 : Method := { name := "law", desc := "(III)Z", sig := { parameters := [.int, .int, .int], returnType := some .boolean }, accessFlags := 9, code := some k1c2 }
/-- com/example/tallywire/tallywire/wire/FieldTypeHoldsSeveralPinLaw -/
def k1 : Class := { plain "com/example/tallywire/tallywire/wire/FieldTypeHoldsSeveralPinLaw" (some 0) with
  accessFlags := 49
  interfaces := #[]
  cf := some (fileOf pool1 100 #[] #[{ accessFlags := 2, nameIndex := 5, descriptorIndex := 6, attributes := #[] }, { accessFlags := 10, nameIndex := 103, descriptorIndex := 104, attributes := #[] }, { accessFlags := 9, nameIndex := 117, descriptorIndex := 118, attributes := #[] }] 49 2 #[] #[])
  fields := #[]
  methods := #[k1m0, k1m1, k1m2]
  instanceTypes := #[]
  staticTypes := #[]
  resolved := Array.replicate 123 none
  statics := none }

def pool2 : Array CpInfo := pool [(1, .class_ 2), (0, u "java/lang/constant/Constable"), (0, .class_ 4), (0, u "java/lang/Object")] 6

/-- java/lang/constant/Constable -/
def k2 : Class := { plain "java/lang/constant/Constable" (some 0) with
  accessFlags := 1537
  interfaces := #[]
  cf := some (fileOf pool2 1 #[] #[] 1537 3 #[] #[])
  fields := #[]
  methods := #[]
  instanceTypes := #[]
  staticTypes := #[]
  resolved := Array.replicate 11 none
  statics := none }

def pool3 : Array CpInfo := pool [(1, .class_ 2), (0, u "java/lang/Comparable"), (0, .class_ 4), (0, u "java/lang/Object")] 7

/-- java/lang/Comparable -/
def k3 : Class := { plain "java/lang/Comparable" (some 0) with
  accessFlags := 1537
  interfaces := #[]
  cf := some (fileOf pool3 1 #[] #[] 1537 3 #[] #[])
  fields := #[]
  methods := #[]
  instanceTypes := #[]
  staticTypes := #[]
  resolved := Array.replicate 12 none
  statics := none }

def pool4 : Array CpInfo := pool [(1, .class_ 2), (0, u "java/io/Serializable"), (0, .class_ 4), (0, u "java/lang/Object")] 2

/-- java/io/Serializable -/
def k4 : Class := { plain "java/io/Serializable" (some 0) with
  accessFlags := 1537
  interfaces := #[]
  cf := some (fileOf pool4 1 #[] #[] 1537 3 #[] #[])
  fields := #[]
  methods := #[]
  instanceTypes := #[]
  staticTypes := #[]
  resolved := Array.replicate 7 none
  statics := none }

def pool5 : Array CpInfo := pool [(2, .class_ 4), (1, u "java/lang/Enum"), (0, u "name"), (0, u "Ljava/lang/String;"), (0, .fieldref 2 8), (0, .nameAndType 9 10), (0, u "ordinal"), (0, u "I"), (1, .class_ 14), (1, u "java/lang/Object"), (4, u "hash"), (86, .class_ 108), (1, u "java/lang/Enum$EnumDesc"), (2, .class_ 112), (0, u "java/lang/constant/Constable"), (0, .class_ 114), (0, u "java/lang/Comparable"), (0, .class_ 116), (0, u "java/io/Serializable"), (9, u "()I")] 77

def k5c0 : Code := { maxStack := 1, maxLocals := 1, code := jdk_37_method_2_code, exceptionTable := #[], attributes := #[] }
def k5m0 : Method := { name := "ordinal", desc := "()I", sig := { parameters := [], returnType := some .int }, accessFlags := 17, code := some k5c0 }
/-- java/lang/Enum -/
def k5 : Class := { plain "java/lang/Enum" (some 0) with
  accessFlags := 1057
  interfaces := #[2, 3, 4]
  cf := some (fileOf pool5 2 #[.nestMembers #[106]] #[{ accessFlags := 17, nameIndex := 9, descriptorIndex := 126, attributes := #[] }] 1057 12 #[111, 113, 115] #[{ accessFlags := 18, nameIndex := 5, descriptorIndex := 6, attributes := #[] }, { accessFlags := 18, nameIndex := 9, descriptorIndex := 10, attributes := #[] }, { accessFlags := 2, nameIndex := 19, descriptorIndex := 10, attributes := #[] }])
  fields := #[{ name := "name", type := (.object "java/lang/String"), accessFlags := 18, slot := 0, constantValue := 0 }, { name := "ordinal", type := .int, accessFlags := 18, slot := 1, constantValue := 0 }, { name := "hash", type := .int, accessFlags := 2, slot := 2, constantValue := 0 }]
  methods := #[k5m0]
  instanceTypes := #[(.object "java/lang/String"), .int, .int]
  staticTypes := #[]
  resolved := Array.replicate 204 none
  statics := none }

def pool6 : Array CpInfo := pool [(1, .class_ 2), (0, u "com/example/tallywire/tallywire/wire/FieldType"), (2, u "INT"), (0, u "Lcom/example/tallywire/tallywire/wire/FieldType;"), (2, u "SEQNUM"), (2, u "LENGTH"), (2, u "NUMINGROUP"), (2, u "FLOAT"), (2, u "QTY"), (2, u "PRICE"), (2, u "AMT"), (2, u "PERCENTAGE"), (2, u "PRICEOFFSET"), (2, u "CHAR"), (2, u "BOOLEAN"), (2, u "STRING"), (0, .fieldref 1 44), (0, .nameAndType 45 6), (0, u "MULTIPLEVALUESTRING"), (0, .fieldref 1 47), (0, .nameAndType 48 6), (0, u "MULTIPLESTRINGVALUE"), (0, .fieldref 1 50), (0, .nameAndType 51 6), (0, u "MULTIPLECHARVALUE"), (2, u "EXCHANGE"), (2, u "CURRENCY"), (2, u "COUNTRY"), (2, u "LOCALMKTDATE"), (2, u "UTCDATEONLY"), (2, u "MONTHYEAR"), (2, u "UTCTIMESTAMP"), (2, u "UTCTIMEONLY"), (2, u "TZTIMEONLY"), (2, u "TZTIMESTAMP"), (2, u "DATA"), (2, u "XMLDATA"), (2, u "$VALUES"), (0, u "[Lcom/example/tallywire/tallywire/wire/FieldType;"), (6, .class_ 100), (1, u "java/lang/Enum"), (6, .methodref 108 109), (0, .class_ 110), (0, .nameAndType 111 112), (0, u "java/lang/String"), (0, u "length"), (0, u "()I"), (0, .methodref 1 114), (0, .nameAndType 115 112), (0, u "ordinal"), (10, u "(Ljava/lang/String;)Z"), (22, .methodref 1 150), (0, .nameAndType 151 126), (0, u "isCharacterList"), (16, .methodref 108 169), (0, .nameAndType 170 171), (0, u "charAt"), (0, u "(I)C"), (52, u "MISSING"), (0, u "I"), (10, u "()Z"), (2, u "holdsSeveral"), (0, u "hasForm")] 4

def k6c0 : Code := { maxStack := 2, maxLocals := 1, code := prog_40_method_6_code, exceptionTable := #[], attributes := #[] }
def k6m0 : Method := { name := "holdsSeveral", desc := "()Z", sig := { parameters := [], returnType := some .boolean }, accessFlags := 0, code := some k6c0 }
def k6c1 : Code := { maxStack := 5, maxLocals := 3, code := prog_40_method_7_code, exceptionTable := #[], attributes := #[] }
def k6m1 : Method := { name := "hasForm", desc := "(Ljava/lang/String;)Z", sig := { parameters := [(.object "java/lang/String")], returnType := some .boolean }, accessFlags := 1, code := some k6c1 }
def k6c2 : Code := { maxStack := 3, maxLocals := 2, code := prog_40_method_14_code, exceptionTable := #[], attributes := #[] }
def k6m2 : Method := { name := "isCharacterList", desc := "(Ljava/lang/String;)Z", sig := { parameters := [(.object "java/lang/String")], returnType := some .boolean }, accessFlags := 10, code := some k6c2 }
/-- com/example/tallywire/tallywire/wire/FieldType -/
def k6 : Class := { plain "com/example/tallywire/tallywire/wire/FieldType" (some 5) with
  accessFlags := 16433
  interfaces := #[]
  cf := some (fileOf pool6 1 #[] #[{ accessFlags := 0, nameIndex := 239, descriptorIndex := 236, attributes := #[] }, { accessFlags := 1, nameIndex := 240, descriptorIndex := 126, attributes := #[] }, { accessFlags := 10, nameIndex := 151, descriptorIndex := 126, attributes := #[] }] 16433 98 #[] #[{ accessFlags := 16409, nameIndex := 5, descriptorIndex := 6, attributes := #[] }, { accessFlags := 16409, nameIndex := 9, descriptorIndex := 6, attributes := #[] }, { accessFlags := 16409, nameIndex := 12, descriptorIndex := 6, attributes := #[] }, { accessFlags := 16409, nameIndex := 15, descriptorIndex := 6, attributes := #[] }, { accessFlags := 16409, nameIndex := 18, descriptorIndex := 6, attributes := #[] }, { accessFlags := 16409, nameIndex := 21, descriptorIndex := 6, attributes := #[] }, { accessFlags := 16409, nameIndex := 24, descriptorIndex := 6, attributes := #[] }, { accessFlags := 16409, nameIndex := 27, descriptorIndex := 6, attributes := #[] }, { accessFlags := 16409, nameIndex := 30, descriptorIndex := 6, attributes := #[] }, { accessFlags := 16409, nameIndex := 33, descriptorIndex := 6, attributes := #[] }, { accessFlags := 16409, nameIndex := 36, descriptorIndex := 6, attributes := #[] }, { accessFlags := 16409, nameIndex := 39, descriptorIndex := 6, attributes := #[] }, { accessFlags := 16409, nameIndex := 42, descriptorIndex := 6, attributes := #[] }, { accessFlags := 16409, nameIndex := 45, descriptorIndex := 6, attributes := #[] }, { accessFlags := 16409, nameIndex := 48, descriptorIndex := 6, attributes := #[] }, { accessFlags := 16409, nameIndex := 51, descriptorIndex := 6, attributes := #[] }, { accessFlags := 16409, nameIndex := 54, descriptorIndex := 6, attributes := #[] }, { accessFlags := 16409, nameIndex := 57, descriptorIndex := 6, attributes := #[] }, { accessFlags := 16409, nameIndex := 60, descriptorIndex := 6, attributes := #[] }, { accessFlags := 16409, nameIndex := 63, descriptorIndex := 6, attributes := #[] }, { accessFlags := 16409, nameIndex := 66, descriptorIndex := 6, attributes := #[] }, { accessFlags := 16409, nameIndex := 69, descriptorIndex := 6, attributes := #[] }, { accessFlags := 16409, nameIndex := 72, descriptorIndex := 6, attributes := #[] }, { accessFlags := 16409, nameIndex := 75, descriptorIndex := 6, attributes := #[] }, { accessFlags := 16409, nameIndex := 78, descriptorIndex := 6, attributes := #[] }, { accessFlags := 16409, nameIndex := 81, descriptorIndex := 6, attributes := #[] }, { accessFlags := 16409, nameIndex := 84, descriptorIndex := 6, attributes := #[] }, { accessFlags := 16409, nameIndex := 87, descriptorIndex := 6, attributes := #[] }, { accessFlags := 26, nameIndex := 224, descriptorIndex := 225, attributes := #[] }, { accessFlags := 4122, nameIndex := 90, descriptorIndex := 91, attributes := #[] }])
  fields := #[{ name := "INT", type := (.object "com/example/tallywire/tallywire/wire/FieldType"), accessFlags := 16409, slot := 0, constantValue := 0 }, { name := "SEQNUM", type := (.object "com/example/tallywire/tallywire/wire/FieldType"), accessFlags := 16409, slot := 1, constantValue := 0 }, { name := "LENGTH", type := (.object "com/example/tallywire/tallywire/wire/FieldType"), accessFlags := 16409, slot := 2, constantValue := 0 }, { name := "NUMINGROUP", type := (.object "com/example/tallywire/tallywire/wire/FieldType"), accessFlags := 16409, slot := 3, constantValue := 0 }, { name := "FLOAT", type := (.object "com/example/tallywire/tallywire/wire/FieldType"), accessFlags := 16409, slot := 4, constantValue := 0 }, { name := "QTY", type := (.object "com/example/tallywire/tallywire/wire/FieldType"), accessFlags := 16409, slot := 5, constantValue := 0 }, { name := "PRICE", type := (.object "com/example/tallywire/tallywire/wire/FieldType"), accessFlags := 16409, slot := 6, constantValue := 0 }, { name := "AMT", type := (.object "com/example/tallywire/tallywire/wire/FieldType"), accessFlags := 16409, slot := 7, constantValue := 0 }, { name := "PERCENTAGE", type := (.object "com/example/tallywire/tallywire/wire/FieldType"), accessFlags := 16409, slot := 8, constantValue := 0 }, { name := "PRICEOFFSET", type := (.object "com/example/tallywire/tallywire/wire/FieldType"), accessFlags := 16409, slot := 9, constantValue := 0 }, { name := "CHAR", type := (.object "com/example/tallywire/tallywire/wire/FieldType"), accessFlags := 16409, slot := 10, constantValue := 0 }, { name := "BOOLEAN", type := (.object "com/example/tallywire/tallywire/wire/FieldType"), accessFlags := 16409, slot := 11, constantValue := 0 }, { name := "STRING", type := (.object "com/example/tallywire/tallywire/wire/FieldType"), accessFlags := 16409, slot := 12, constantValue := 0 }, { name := "MULTIPLEVALUESTRING", type := (.object "com/example/tallywire/tallywire/wire/FieldType"), accessFlags := 16409, slot := 13, constantValue := 0 }, { name := "MULTIPLESTRINGVALUE", type := (.object "com/example/tallywire/tallywire/wire/FieldType"), accessFlags := 16409, slot := 14, constantValue := 0 }, { name := "MULTIPLECHARVALUE", type := (.object "com/example/tallywire/tallywire/wire/FieldType"), accessFlags := 16409, slot := 15, constantValue := 0 }, { name := "EXCHANGE", type := (.object "com/example/tallywire/tallywire/wire/FieldType"), accessFlags := 16409, slot := 16, constantValue := 0 }, { name := "CURRENCY", type := (.object "com/example/tallywire/tallywire/wire/FieldType"), accessFlags := 16409, slot := 17, constantValue := 0 }, { name := "COUNTRY", type := (.object "com/example/tallywire/tallywire/wire/FieldType"), accessFlags := 16409, slot := 18, constantValue := 0 }, { name := "LOCALMKTDATE", type := (.object "com/example/tallywire/tallywire/wire/FieldType"), accessFlags := 16409, slot := 19, constantValue := 0 }, { name := "UTCDATEONLY", type := (.object "com/example/tallywire/tallywire/wire/FieldType"), accessFlags := 16409, slot := 20, constantValue := 0 }, { name := "MONTHYEAR", type := (.object "com/example/tallywire/tallywire/wire/FieldType"), accessFlags := 16409, slot := 21, constantValue := 0 }, { name := "UTCTIMESTAMP", type := (.object "com/example/tallywire/tallywire/wire/FieldType"), accessFlags := 16409, slot := 22, constantValue := 0 }, { name := "UTCTIMEONLY", type := (.object "com/example/tallywire/tallywire/wire/FieldType"), accessFlags := 16409, slot := 23, constantValue := 0 }, { name := "TZTIMEONLY", type := (.object "com/example/tallywire/tallywire/wire/FieldType"), accessFlags := 16409, slot := 24, constantValue := 0 }, { name := "TZTIMESTAMP", type := (.object "com/example/tallywire/tallywire/wire/FieldType"), accessFlags := 16409, slot := 25, constantValue := 0 }, { name := "DATA", type := (.object "com/example/tallywire/tallywire/wire/FieldType"), accessFlags := 16409, slot := 26, constantValue := 0 }, { name := "XMLDATA", type := (.object "com/example/tallywire/tallywire/wire/FieldType"), accessFlags := 16409, slot := 27, constantValue := 0 }, { name := "MISSING", type := .int, accessFlags := 26, slot := 28, constantValue := 0 }, { name := "$VALUES", type := (.array (.object "com/example/tallywire/tallywire/wire/FieldType")), accessFlags := 4122, slot := 29, constantValue := 0 }]
  methods := #[k6m0, k6m1, k6m2]
  instanceTypes := #[(.object "java/lang/String"), .int, .int]
  staticTypes := #[(.object "com/example/tallywire/tallywire/wire/FieldType"), (.object "com/example/tallywire/tallywire/wire/FieldType"), (.object "com/example/tallywire/tallywire/wire/FieldType"), (.object "com/example/tallywire/tallywire/wire/FieldType"), (.object "com/example/tallywire/tallywire/wire/FieldType"), (.object "com/example/tallywire/tallywire/wire/FieldType"), (.object "com/example/tallywire/tallywire/wire/FieldType"), (.object "com/example/tallywire/tallywire/wire/FieldType"), (.object "com/example/tallywire/tallywire/wire/FieldType"), (.object "com/example/tallywire/tallywire/wire/FieldType"), (.object "com/example/tallywire/tallywire/wire/FieldType"), (.object "com/example/tallywire/tallywire/wire/FieldType"), (.object "com/example/tallywire/tallywire/wire/FieldType"), (.object "com/example/tallywire/tallywire/wire/FieldType"), (.object "com/example/tallywire/tallywire/wire/FieldType"), (.object "com/example/tallywire/tallywire/wire/FieldType"), (.object "com/example/tallywire/tallywire/wire/FieldType"), (.object "com/example/tallywire/tallywire/wire/FieldType"), (.object "com/example/tallywire/tallywire/wire/FieldType"), (.object "com/example/tallywire/tallywire/wire/FieldType"), (.object "com/example/tallywire/tallywire/wire/FieldType"), (.object "com/example/tallywire/tallywire/wire/FieldType"), (.object "com/example/tallywire/tallywire/wire/FieldType"), (.object "com/example/tallywire/tallywire/wire/FieldType"), (.object "com/example/tallywire/tallywire/wire/FieldType"), (.object "com/example/tallywire/tallywire/wire/FieldType"), (.object "com/example/tallywire/tallywire/wire/FieldType"), (.object "com/example/tallywire/tallywire/wire/FieldType"), .int, (.array (.object "com/example/tallywire/tallywire/wire/FieldType"))]
  resolved := Array.replicate 245 none
  statics := some 0 }

def pool7 : Array CpInfo := pool [(2, .class_ 4), (1, u "java/lang/CharSequence"), (42, .class_ 48), (0, u "java/lang/CharSequence$1CodePointIterator"), (10, .class_ 60), (0, u "java/lang/CharSequence$1CharIterator"), (5, .class_ 67), (0, u "java/lang/Object")] 63

/-- java/lang/CharSequence -/
def k7 : Class := { plain "java/lang/CharSequence" (some 0) with
  accessFlags := 1537
  interfaces := #[]
  cf := some (fileOf pool7 2 #[.nestMembers #[47, 59]] #[] 1537 66 #[] #[])
  fields := #[]
  methods := #[]
  instanceTypes := #[]
  staticTypes := #[]
  resolved := Array.replicate 131 none
  statics := none }

def pool8 : Array CpInfo := pool [(1, .class_ 2), (0, u "java/lang/constant/ConstantDesc"), (0, .class_ 4), (0, u "java/lang/Object")] 32

/-- java/lang/constant/ConstantDesc -/
def k8 : Class := { plain "java/lang/constant/ConstantDesc" (some 0) with
  accessFlags := 1537
  interfaces := #[]
  cf := some (fileOf pool8 1 #[] #[] 1537 3 #[] #[])
  fields := #[]
  methods := #[]
  instanceTypes := #[]
  staticTypes := #[]
  resolved := Array.replicate 37 none
  statics := none }

def pool9 : Array CpInfo := pool [(1, .methodref 2 3), (0, .class_ 4), (0, .nameAndType 5 6), (0, u "java/lang/Object"), (0, u "<init>"), (0, u "()V"), (2, .fieldref 10 11), (0, .class_ 12), (0, .nameAndType 13 14), (0, u "java/lang/String"), (0, u "value"), (0, u "[B"), (0, .fieldref 10 16), (0, .nameAndType 17 18), (0, u "coder"), (0, u "B"), (2, u "hash"), (0, u "I"), (2, u "hashIsZero"), (0, u "Z"), (0, .methodref 10 28), (0, .nameAndType 5 29), (0, u "([CIILjava/lang/Void;)V"), (8, .fieldref 10 39), (0, .nameAndType 40 26), (0, u "COMPACT_STRINGS"), (1, .class_ 44), (1, u "java/lang/StringUTF16"), (0, u "compress"), (1, .methodref 42 48), (0, .nameAndType 49 50), (0, u "coderFromArrayLen"), (0, u "([BI)B"), (56, .class_ 109), (1, u "java/lang/StringLatin1"), (32, u "()Z"), (34, .methodref 42 178), (0, .nameAndType 45 179), (0, u "([CII)[B"), (154, u "()I"), (0, .methodref 10 336), (0, .nameAndType 17 337), (0, u "()B"), (25, u "([BI)C"), (27, u "(II)V"), (35, u "(I)C"), (64, .methodref 10 493), (0, .nameAndType 494 142), (0, u "isLatin1"), (0, .methodref 107 496), (0, .nameAndType 497 363), (0, u "charAt"), (3, u "checkIndex"), (5, u "length"), (67, .class_ 576), (0, u "java/lang/CharSequence"), (22, u "CASE_INSENSITIVE_ORDER"), (0, u "Ljava/util/Comparator;"), (409, u "([C)V"), (42, .fieldref 1054 1055), (0, .class_ 1056), (0, .nameAndType 1057 1058), (0, u "jdk/internal/util/Preconditions"), (0, u "SIOOBE_FORMATTER"), (0, u "Ljava/util/function/BiFunction;"), (0, .methodref 1054 1060), (0, .nameAndType 501 1061), (0, u "(IILjava/util/function/BiFunction;)I"), (39, u "serialPersistentFields"), (0, u "[Ljava/io/ObjectStreamField;"), (0, .class_ 1104), (0, u "java/lang/String$CaseInsensitiveComparator"), (1, .class_ 1107), (0, u "java/io/Serializable"), (0, .class_ 1109), (0, u "java/lang/Comparable"), (0, .class_ 1111), (0, u "java/lang/constant/Constable"), (0, .class_ 1113), (0, u "java/lang/constant/ConstantDesc"), (2, u "serialVersionUID"), (0, u "J"), (3, u "REPL"), (0, u "C"), (2, u "LATIN1"), (1, u "UTF16")] 323

def k9m0 : Method := { name := "<init>", desc := "()V", sig := { parameters := [], returnType := none }, accessFlags := 1, code := none }
def k9c1 : Code := { maxStack := 5, maxLocals := 2, code := jdk_42_method_3_code, exceptionTable := #[], attributes := #[] }
def k9m1 : Method := { name := "<init>", desc := "([C)V", sig := { parameters := [(.array .char)], returnType := none }, accessFlags := 1, code := some k9c1 }
def k9c2 : Code := { maxStack := 2, maxLocals := 1, code := jdk_42_method_54_code, exceptionTable := #[], attributes := #[] }
def k9m2 : Method := { name := "length", desc := "()I", sig := { parameters := [], returnType := some .int }, accessFlags := 1, code := some k9c2 }
def k9c3 : Code := { maxStack := 2, maxLocals := 2, code := jdk_42_method_56_code, exceptionTable := #[], attributes := #[] }
def k9m3 : Method := { name := "charAt", desc := "(I)C", sig := { parameters := [.int], returnType := some .char }, accessFlags := 1, code := some k9c3 }
def k9c4 : Code := { maxStack := 4, maxLocals := 6, code := jdk_42_method_149_code, exceptionTable := #[], attributes := #[] }
def k9m4 : Method := { name := "<init>", desc := "([CIILjava/lang/Void;)V", sig := { parameters := [(.array .char), .int, .int, (.object "java/lang/Void")], returnType := none }, accessFlags := 2, code := some k9c4 }
def k9c5 : Code := { maxStack := 1, maxLocals := 1, code := jdk_42_method_152_code, exceptionTable := #[], attributes := #[] }
def k9m5 : Method := { name := "coder", desc := "()B", sig := { parameters := [], returnType := some .byte }, accessFlags := 0, code := some k9c5 }
def k9c6 : Code := { maxStack := 1, maxLocals := 1, code := jdk_42_method_154_code, exceptionTable := #[], attributes := #[] }
def k9m6 : Method := { name := "isLatin1", desc := "()Z", sig := { parameters := [], returnType := some .boolean }, accessFlags := 0, code := some k9c6 }
def k9c7 : Code := { maxStack := 3, maxLocals := 2, code := jdk_42_method_155_code, exceptionTable := #[], attributes := #[] }
def k9m7 : Method := { name := "checkIndex", desc := "(II)V", sig := { parameters := [.int, .int], returnType := none }, accessFlags := 8, code := some k9c7 }
/-- java/lang/String -/
def k9 : Class := { plain "java/lang/String" (some 0) with
  accessFlags := 49
  interfaces := #[4, 3, 7, 2, 8]
  cf := some (fileOf pool9 10 #[.nestMembers #[1103]] #[{ accessFlags := 1, nameIndex := 5, descriptorIndex := 6, attributes := #[] }, { accessFlags := 1, nameIndex := 5, descriptorIndex := 1010, attributes := #[] }, { accessFlags := 1, nameIndex := 507, descriptorIndex := 334, attributes := #[] }, { accessFlags := 1, nameIndex := 497, descriptorIndex := 427, attributes := #[] }, { accessFlags := 2, nameIndex := 5, descriptorIndex := 29, attributes := #[] }, { accessFlags := 0, nameIndex := 17, descriptorIndex := 337, attributes := #[] }, { accessFlags := 0, nameIndex := 494, descriptorIndex := 142, attributes := #[] }, { accessFlags := 8, nameIndex := 501, descriptorIndex := 391, attributes := #[] }] 49 2 #[1106, 1108, 575, 1110, 1112] #[{ accessFlags := 18, nameIndex := 13, descriptorIndex := 14, attributes := #[] }, { accessFlags := 18, nameIndex := 17, descriptorIndex := 18, attributes := #[] }, { accessFlags := 2, nameIndex := 21, descriptorIndex := 22, attributes := #[] }, { accessFlags := 2, nameIndex := 25, descriptorIndex := 26, attributes := #[] }, { accessFlags := 26, nameIndex := 1116, descriptorIndex := 1117, attributes := #[] }, { accessFlags := 24, nameIndex := 40, descriptorIndex := 26, attributes := #[] }, { accessFlags := 26, nameIndex := 1101, descriptorIndex := 1102, attributes := #[] }, { accessFlags := 26, nameIndex := 1121, descriptorIndex := 1122, attributes := #[] }, { accessFlags := 25, nameIndex := 599, descriptorIndex := 600, attributes := #[] }, { accessFlags := 24, nameIndex := 1125, descriptorIndex := 18, attributes := #[] }, { accessFlags := 24, nameIndex := 1127, descriptorIndex := 18, attributes := #[] }])
  fields := #[{ name := "value", type := (.array .byte), accessFlags := 18, slot := 0, constantValue := 0 }, { name := "coder", type := .byte, accessFlags := 18, slot := 1, constantValue := 0 }, { name := "hash", type := .int, accessFlags := 2, slot := 2, constantValue := 0 }, { name := "hashIsZero", type := .boolean, accessFlags := 2, slot := 3, constantValue := 0 }, { name := "serialVersionUID", type := .long, accessFlags := 26, slot := 0, constantValue := 0 }, { name := "COMPACT_STRINGS", type := .boolean, accessFlags := 24, slot := 1, constantValue := 0 }, { name := "serialPersistentFields", type := (.array (.object "java/io/ObjectStreamField")), accessFlags := 26, slot := 2, constantValue := 0 }, { name := "REPL", type := .char, accessFlags := 26, slot := 3, constantValue := 0 }, { name := "CASE_INSENSITIVE_ORDER", type := (.object "java/util/Comparator"), accessFlags := 25, slot := 4, constantValue := 0 }, { name := "LATIN1", type := .byte, accessFlags := 24, slot := 5, constantValue := 0 }, { name := "UTF16", type := .byte, accessFlags := 24, slot := 6, constantValue := 0 }]
  methods := #[k9m0, k9m1, k9m2, k9m3, k9m4, k9m5, k9m6, k9m7]
  instanceTypes := #[(.array .byte), .byte, .int, .boolean]
  staticTypes := #[.long, .boolean, (.array (.object "java/io/ObjectStreamField")), .char, (.object "java/util/Comparator"), .byte, .byte]
  resolved := Array.replicate 1451 none
  statics := some 1 }

def pool10 : Array CpInfo := pool [(6, .class_ 8), (1, u "java/lang/Object"), (0, u "<init>"), (0, u "()V"), (1, .class_ 14), (1, u "java/lang/StringUTF16"), (31, u "$assertionsDisabled"), (0, u "Z"), (13, u "HI_BYTE_SHIFT"), (0, u "I"), (2, u "LO_BYTE_SHIFT"), (49, .methodref 12 116), (0, .nameAndType 117 118), (0, u "compress"), (0, u "([CI[BII)I"), (3, u "([CII)[B"), (138, u "coderFromArrayLen"), (0, u "([BI)B"), (106, .class_ 371), (1, u "java/lang/StringUTF16$LinesSpliterator"), (58, u "MAX_LENGTH"), (196, .class_ 628), (0, u "java/lang/StringUTF16$CodePointsSpliterator"), (0, .class_ 630), (0, u "java/lang/StringUTF16$CharsSpliterator")] 4

def k10m0 : Method := { name := "<init>", desc := "()V", sig := { parameters := [], returnType := none }, accessFlags := 0, code := none }
def k10c1 : Code := { maxStack := 2, maxLocals := 2, code := jdk_52_method_15_code, exceptionTable := #[], attributes := #[] }
def k10m1 : Method := { name := "coderFromArrayLen", desc := "([BI)B", sig := { parameters := [(.array .byte), .int], returnType := some .byte }, accessFlags := 8, code := some k10c1 }
def k10c2 : Code := { maxStack := 5, maxLocals := 6, code := jdk_52_method_16_code, exceptionTable := #[], attributes := #[] }
def k10m2 : Method := { name := "compress", desc := "([CII)[B", sig := { parameters := [(.array .char), .int, .int], returnType := some (.array .byte) }, accessFlags := 9, code := some k10c2 }
def k10c3 : Code := { maxStack := 3, maxLocals := 7, code := jdk_52_method_21_code, exceptionTable := #[], attributes := #[] }
def k10m3 : Method := { name := "compress", desc := "([CI[BII)I", sig := { parameters := [(.array .char), .int, (.array .byte), .int, .int], returnType := some .int }, accessFlags := 9, code := some k10c3 }
/-- java/lang/StringUTF16 -/
def k10 : Class := { plain "java/lang/StringUTF16" (some 0) with
  accessFlags := 48
  interfaces := #[]
  cf := some (fileOf pool10 12 #[.nestMembers #[627, 629, 369]] #[{ accessFlags := 0, nameIndex := 9, descriptorIndex := 10, attributes := #[] }, { accessFlags := 8, nameIndex := 261, descriptorIndex := 262, attributes := #[] }, { accessFlags := 9, nameIndex := 117, descriptorIndex := 122, attributes := #[] }, { accessFlags := 9, nameIndex := 117, descriptorIndex := 118, attributes := #[] }] 48 6 #[] #[{ accessFlags := 26, nameIndex := 61, descriptorIndex := 62, attributes := #[] }, { accessFlags := 26, nameIndex := 65, descriptorIndex := 62, attributes := #[] }, { accessFlags := 24, nameIndex := 430, descriptorIndex := 62, attributes := #[] }, { accessFlags := 4120, nameIndex := 46, descriptorIndex := 47, attributes := #[] }])
  fields := #[{ name := "HI_BYTE_SHIFT", type := .int, accessFlags := 26, slot := 0, constantValue := 0 }, { name := "LO_BYTE_SHIFT", type := .int, accessFlags := 26, slot := 1, constantValue := 0 }, { name := "MAX_LENGTH", type := .int, accessFlags := 24, slot := 2, constantValue := 0 }, { name := "$assertionsDisabled", type := .boolean, accessFlags := 4120, slot := 3, constantValue := 0 }]
  methods := #[k10m0, k10m1, k10m2, k10m3]
  instanceTypes := #[]
  staticTypes := #[.int, .int, .int, .boolean]
  resolved := Array.replicate 635 none
  statics := none }

def pool11 : Array CpInfo := pool [(1, .class_ 2), (0, u "java/lang/String"), (1, .class_ 6), (1, u "java/lang/Object"), (0, u "<init>"), (0, u "()V"), (0, .methodref 1 10), (0, .nameAndType 11 12), (0, u "checkIndex"), (0, u "(II)V"), (1, .class_ 16), (1, u "java/lang/StringLatin1"), (36, u "([BI)C"), (67, u "$assertionsDisabled"), (0, u "Z"), (98, .class_ 223), (1, u "java/lang/StringLatin1$LinesSpliterator"), (28, u "charAt"), (137, .class_ 391), (0, u "java/lang/StringLatin1$CharsSpliterator")] 3

def k11m0 : Method := { name := "<init>", desc := "()V", sig := { parameters := [], returnType := none }, accessFlags := 0, code := none }
def k11c1 : Code := { maxStack := 2, maxLocals := 2, code := jdk_43_method_2_code, exceptionTable := #[], attributes := #[] }
def k11m1 : Method := { name := "charAt", desc := "([BI)C", sig := { parameters := [(.array .byte), .int], returnType := some .char }, accessFlags := 9, code := some k11c1 }
/-- java/lang/StringLatin1 -/
def k11 : Class := { plain "java/lang/StringLatin1" (some 0) with
  accessFlags := 48
  interfaces := #[]
  cf := some (fileOf pool11 14 #[.nestMembers #[390, 221]] #[{ accessFlags := 0, nameIndex := 7, descriptorIndex := 8, attributes := #[] }, { accessFlags := 9, nameIndex := 252, descriptorIndex := 53, attributes := #[] }] 48 4 #[] #[{ accessFlags := 4120, nameIndex := 121, descriptorIndex := 122, attributes := #[] }])
  fields := #[{ name := "$assertionsDisabled", type := .boolean, accessFlags := 4120, slot := 0, constantValue := 0 }]
  methods := #[k11m0, k11m1]
  instanceTypes := #[]
  staticTypes := #[.boolean]
  resolved := Array.replicate 395 none
  statics := none }

def pool12 : Array CpInfo := pool [(2, .class_ 4), (1, u "java/lang/Object"), (0, u "<init>"), (0, u "()V"), (17, .class_ 26), (1, u "jdk/internal/util/Preconditions"), (6, u "checkIndex"), (21, .class_ 56), (0, u "jdk/internal/util/Preconditions$4"), (57, .class_ 115), (0, u "jdk/internal/util/Preconditions$1"), (7, u "SIOOBE_FORMATTER"), (0, u "Ljava/util/function/BiFunction;"), (0, .class_ 126), (0, u "jdk/internal/util/Preconditions$2"), (3, u "AIOOBE_FORMATTER"), (0, .class_ 132), (0, u "jdk/internal/util/Preconditions$3"), (3, u "IOOBE_FORMATTER"), (41, u "(IILjava/util/function/BiFunction;)I")] 15

def k12m0 : Method := { name := "<init>", desc := "()V", sig := { parameters := [], returnType := none }, accessFlags := 1, code := none }
def k12c1 : Code := { maxStack := 3, maxLocals := 3, code := jdk_41_method_11_code, exceptionTable := #[], attributes := #[] }
def k12m1 : Method := { name := "checkIndex", desc := "(IILjava/util/function/BiFunction;)I", sig := { parameters := [.int, .int, (.object "java/util/function/BiFunction")], returnType := some .int }, accessFlags := 9, code := some k12c1 }
/-- jdk/internal/util/Preconditions -/
def k12 : Class := { plain "jdk/internal/util/Preconditions" (some 0) with
  accessFlags := 33
  interfaces := #[]
  cf := some (fileOf pool12 24 #[.nestMembers #[55, 131, 125, 114]] #[{ accessFlags := 1, nameIndex := 5, descriptorIndex := 6, attributes := #[] }, { accessFlags := 9, nameIndex := 33, descriptorIndex := 178, attributes := #[] }] 33 2 #[] #[{ accessFlags := 25, nameIndex := 123, descriptorIndex := 124, attributes := #[] }, { accessFlags := 25, nameIndex := 130, descriptorIndex := 124, attributes := #[] }, { accessFlags := 25, nameIndex := 136, descriptorIndex := 124, attributes := #[] }])
  fields := #[{ name := "SIOOBE_FORMATTER", type := (.object "java/util/function/BiFunction"), accessFlags := 25, slot := 0, constantValue := 0 }, { name := "AIOOBE_FORMATTER", type := (.object "java/util/function/BiFunction"), accessFlags := 25, slot := 1, constantValue := 0 }, { name := "IOOBE_FORMATTER", type := (.object "java/util/function/BiFunction"), accessFlags := 25, slot := 2, constantValue := 0 }]
  methods := #[k12m0, k12m1]
  instanceTypes := #[]
  staticTypes := #[(.object "java/util/function/BiFunction"), (.object "java/util/function/BiFunction"), (.object "java/util/function/BiFunction")]
  resolved := Array.replicate 194 none
  statics := some 2 }

def pool13 : Array CpInfo := pool [(9, u "<init>"), (6, .class_ 18), (1, u "java/lang/Object"), (0, u "()V"), (1, .class_ 23), (1, u "jdk/internal/util/ArraysSupport"), (0, u "LOG2_ARRAY_LONG_INDEX_SCALE"), (0, u "I"), (2, u "U"), (0, u "Ljdk/internal/misc/Unsafe;"), (8, u "BIG_ENDIAN"), (0, u "Z"), (8, u "LOG2_BYTE_BIT_SIZE"), (4, u "LOG2_ARRAY_INT_INDEX_SCALE"), (54, u "JLA"), (0, u "Ljdk/internal/access/JavaLangAccess;"), (11, u "LOG2_ARRAY_BOOLEAN_INDEX_SCALE"), (9, u "LOG2_ARRAY_BYTE_INDEX_SCALE"), (5, u "LOG2_ARRAY_CHAR_INDEX_SCALE"), (5, u "LOG2_ARRAY_SHORT_INDEX_SCALE"), (18, u "LOG2_ARRAY_FLOAT_INDEX_SCALE"), (24, u "LOG2_ARRAY_DOUBLE_INDEX_SCALE"), (89, u "T_BOOLEAN"), (2, u "T_CHAR"), (1, u "T_FLOAT"), (1, u "T_DOUBLE"), (1, u "T_BYTE"), (1, u "T_SHORT"), (1, u "T_INT"), (1, u "T_LONG"), (1, u "SOFT_MAX_ARRAY_LENGTH")] 83

def k13m0 : Method := { name := "<init>", desc := "()V", sig := { parameters := [], returnType := none }, accessFlags := 2, code := none }
/-- jdk/internal/util/ArraysSupport -/
def k13 : Class := { plain "jdk/internal/util/ArraysSupport" (some 0) with
  accessFlags := 33
  interfaces := #[]
  cf := some (fileOf pool13 21 #[] #[{ accessFlags := 2, nameIndex := 9, descriptorIndex := 19, attributes := #[] }] 33 16 #[] #[{ accessFlags := 24, nameIndex := 28, descriptorIndex := 29, attributes := #[] }, { accessFlags := 26, nameIndex := 38, descriptorIndex := 39, attributes := #[] }, { accessFlags := 25, nameIndex := 121, descriptorIndex := 25, attributes := #[] }, { accessFlags := 25, nameIndex := 131, descriptorIndex := 25, attributes := #[] }, { accessFlags := 25, nameIndex := 137, descriptorIndex := 25, attributes := #[] }, { accessFlags := 25, nameIndex := 143, descriptorIndex := 25, attributes := #[] }, { accessFlags := 25, nameIndex := 53, descriptorIndex := 25, attributes := #[] }, { accessFlags := 25, nameIndex := 24, descriptorIndex := 25, attributes := #[] }, { accessFlags := 25, nameIndex := 162, descriptorIndex := 25, attributes := #[] }, { accessFlags := 25, nameIndex := 187, descriptorIndex := 25, attributes := #[] }, { accessFlags := 26, nameIndex := 48, descriptorIndex := 25, attributes := #[] }, { accessFlags := 25, nameIndex := 277, descriptorIndex := 25, attributes := #[] }, { accessFlags := 25, nameIndex := 280, descriptorIndex := 25, attributes := #[] }, { accessFlags := 25, nameIndex := 282, descriptorIndex := 25, attributes := #[] }, { accessFlags := 25, nameIndex := 284, descriptorIndex := 25, attributes := #[] }, { accessFlags := 25, nameIndex := 286, descriptorIndex := 25, attributes := #[] }, { accessFlags := 25, nameIndex := 288, descriptorIndex := 25, attributes := #[] }, { accessFlags := 25, nameIndex := 290, descriptorIndex := 25, attributes := #[] }, { accessFlags := 25, nameIndex := 292, descriptorIndex := 25, attributes := #[] }, { accessFlags := 26, nameIndex := 108, descriptorIndex := 109, attributes := #[] }, { accessFlags := 25, nameIndex := 294, descriptorIndex := 25, attributes := #[] }])
  fields := #[{ name := "U", type := (.object "jdk/internal/misc/Unsafe"), accessFlags := 24, slot := 0, constantValue := 0 }, { name := "BIG_ENDIAN", type := .boolean, accessFlags := 26, slot := 1, constantValue := 0 }, { name := "LOG2_ARRAY_BOOLEAN_INDEX_SCALE", type := .int, accessFlags := 25, slot := 2, constantValue := 0 }, { name := "LOG2_ARRAY_BYTE_INDEX_SCALE", type := .int, accessFlags := 25, slot := 3, constantValue := 0 }, { name := "LOG2_ARRAY_CHAR_INDEX_SCALE", type := .int, accessFlags := 25, slot := 4, constantValue := 0 }, { name := "LOG2_ARRAY_SHORT_INDEX_SCALE", type := .int, accessFlags := 25, slot := 5, constantValue := 0 }, { name := "LOG2_ARRAY_INT_INDEX_SCALE", type := .int, accessFlags := 25, slot := 6, constantValue := 0 }, { name := "LOG2_ARRAY_LONG_INDEX_SCALE", type := .int, accessFlags := 25, slot := 7, constantValue := 0 }, { name := "LOG2_ARRAY_FLOAT_INDEX_SCALE", type := .int, accessFlags := 25, slot := 8, constantValue := 0 }, { name := "LOG2_ARRAY_DOUBLE_INDEX_SCALE", type := .int, accessFlags := 25, slot := 9, constantValue := 0 }, { name := "LOG2_BYTE_BIT_SIZE", type := .int, accessFlags := 26, slot := 10, constantValue := 0 }, { name := "T_BOOLEAN", type := .int, accessFlags := 25, slot := 11, constantValue := 0 }, { name := "T_CHAR", type := .int, accessFlags := 25, slot := 12, constantValue := 0 }, { name := "T_FLOAT", type := .int, accessFlags := 25, slot := 13, constantValue := 0 }, { name := "T_DOUBLE", type := .int, accessFlags := 25, slot := 14, constantValue := 0 }, { name := "T_BYTE", type := .int, accessFlags := 25, slot := 15, constantValue := 0 }, { name := "T_SHORT", type := .int, accessFlags := 25, slot := 16, constantValue := 0 }, { name := "T_INT", type := .int, accessFlags := 25, slot := 17, constantValue := 0 }, { name := "T_LONG", type := .int, accessFlags := 25, slot := 18, constantValue := 0 }, { name := "JLA", type := (.object "jdk/internal/access/JavaLangAccess"), accessFlags := 26, slot := 19, constantValue := 0 }, { name := "SOFT_MAX_ARRAY_LENGTH", type := .int, accessFlags := 25, slot := 20, constantValue := 0 }]
  methods := #[k13m0]
  instanceTypes := #[]
  staticTypes := #[(.object "jdk/internal/misc/Unsafe"), .boolean, .int, .int, .int, .int, .int, .int, .int, .int, .int, .int, .int, .int, .int, .int, .int, .int, .int, (.object "jdk/internal/access/JavaLangAccess"), .int]
  resolved := Array.replicate 378 none
  statics := none }

def pool14 : Array CpInfo := pool [(1, u "java/lang/Cloneable"), (0, .class_ 1), (0, u "java/lang/Object"), (0, .class_ 3)] 3

/-- java/lang/Cloneable -/
def k14 : Class := { plain "java/lang/Cloneable" (some 0) with
  accessFlags := 1537
  interfaces := #[]
  cf := some (fileOf pool14 2 #[] #[] 1537 4 #[] #[])
  fields := #[]
  methods := #[]
  instanceTypes := #[]
  staticTypes := #[]
  resolved := Array.replicate 8 none
  statics := none }

/-- the primitive byte -/
def k15 : Class := { plain "byte" none with kind := .primitive 'B', accessFlags := 0x411 }
/-- [B -/
def k16 : Class := { plain "[B" (some 0) with kind := .array 15 .byte, interfaces := #[14, 4], accessFlags := 1041 }

/-- the primitive char -/
def k17 : Class := { plain "char" none with kind := .primitive 'C', accessFlags := 0x411 }
/-- [C -/
def k18 : Class := { plain "[C" (some 0) with kind := .array 17 .char, interfaces := #[14, 4], accessFlags := 1041 }

/-- the primitive int -/
def k19 : Class := { plain "int" none with kind := .primitive 'I', accessFlags := 0x411 }
/-- [I -/
def k20 : Class := { plain "[I" (some 0) with kind := .array 19 .int, interfaces := #[14, 4], accessFlags := 1041 }

/-- [Lcom/example/tallywire/tallywire/wire/FieldType; -/
def k21 : Class := { plain "[Lcom/example/tallywire/tallywire/wire/FieldType;" (some 0) with kind := .array 6 (.object "com/example/tallywire/tallywire/wire/FieldType"), interfaces := #[14, 4], accessFlags := 1041 }

def heap : Heap := #[{ cls := 6, slots := #[.ref 3, .ref 4, .ref 5, .ref 6, .ref 7, .ref 8, .ref 9, .ref 10, .ref 11, .ref 12, .ref 13, .ref 14, .ref 15, .ref 16, .ref 17, .ref 18, .ref 19, .ref 20, .ref 21, .ref 22, .ref 23, .ref 24, .ref 25, .ref 26, .ref 27, .ref 28, .ref 29, .ref 30, .int 0, .null], vm := .statics 6 },
  { cls := 9, slots := #[.long 0, .int 1, .null, .int 0, .null, .int 0, .int 0], vm := .statics 9 },
  { cls := 12, slots := #[.null, .null, .null], vm := .statics 12 },
  { cls := 6, slots := #[.null, .int 0, .int 0], vm := .none },
  { cls := 6, slots := #[.null, .int 1, .int 0], vm := .none },
  { cls := 6, slots := #[.null, .int 2, .int 0], vm := .none },
  { cls := 6, slots := #[.null, .int 3, .int 0], vm := .none },
  { cls := 6, slots := #[.null, .int 4, .int 0], vm := .none },
  { cls := 6, slots := #[.null, .int 5, .int 0], vm := .none },
  { cls := 6, slots := #[.null, .int 6, .int 0], vm := .none },
  { cls := 6, slots := #[.null, .int 7, .int 0], vm := .none },
  { cls := 6, slots := #[.null, .int 8, .int 0], vm := .none },
  { cls := 6, slots := #[.null, .int 9, .int 0], vm := .none },
  { cls := 6, slots := #[.null, .int 10, .int 0], vm := .none },
  { cls := 6, slots := #[.null, .int 11, .int 0], vm := .none },
  { cls := 6, slots := #[.null, .int 12, .int 0], vm := .none },
  { cls := 6, slots := #[.null, .int 13, .int 0], vm := .none },
  { cls := 6, slots := #[.null, .int 14, .int 0], vm := .none },
  { cls := 6, slots := #[.null, .int 15, .int 0], vm := .none },
  { cls := 6, slots := #[.null, .int 16, .int 0], vm := .none },
  { cls := 6, slots := #[.null, .int 17, .int 0], vm := .none },
  { cls := 6, slots := #[.null, .int 18, .int 0], vm := .none },
  { cls := 6, slots := #[.null, .int 19, .int 0], vm := .none },
  { cls := 6, slots := #[.null, .int 20, .int 0], vm := .none },
  { cls := 6, slots := #[.null, .int 21, .int 0], vm := .none },
  { cls := 6, slots := #[.null, .int 22, .int 0], vm := .none },
  { cls := 6, slots := #[.null, .int 23, .int 0], vm := .none },
  { cls := 6, slots := #[.null, .int 24, .int 0], vm := .none },
  { cls := 6, slots := #[.null, .int 25, .int 0], vm := .none },
  { cls := 6, slots := #[.null, .int 26, .int 0], vm := .none },
  { cls := 6, slots := #[.null, .int 27, .int 0], vm := .none }]
def classes : Array Class := #[k0, k1, k2, k3, k4, k5, k6, k7, k8, k9, k10, k11, k12, k13, k14, k15, k16, k17, k18, k19, k20, k21]
def interned : List (Array UInt16 × Addr) := []
def slotsUsed : Nat := 124
def theMethod : MethodId := ⟨1, 2⟩
def args0 : Array Value := #[.int 5, .int 4, .int 3]
def aboutOver (below : List Frame) : State where
  vm := { classes := classes, interned := interned.toArray }
  heap := heap
  slotsUsed := slotsUsed
  threads := #[{ frames := .invoking theMethod args0 :: below }]
def below0 : List Frame := [.native { method := ⟨0, 0⟩, args := #[] }]
def about1 : State := aboutOver below0
def p0 : Program := .bare "" "" ""
def e0 : Env := launch0.env 0 0 0
theorem w_frames : about1.frames = Frame.invoking theMethod args0 :: below0 := rfl
set_option maxRecDepth 65536 in
theorem w_args : argsFit about1.vm theMethod args0 = true := by decide +kernel
set_option maxRecDepth 65536 in
theorem w_heap : heapFits about1 = true := by decide +kernel
set_option maxRecDepth 65536 in
theorem w_runnable : about1.curStatus? = some .runnable := by decide +kernel
set_option maxRecDepth 65536 in
theorem w_alone : about1.alone = true := by decide +kernel
set_option maxRecDepth 65536 in
theorem w_named : about1.methodNamed? x = some theMethod := by decide +kernel
set_option maxRecDepth 65536 in
theorem w_hears : about1.hears theMethod below0 = true := by decide +kernel
set_option maxRecDepth 65536 in
theorem w_ripe : about1.ripe theMethod args0 below0 = true := by decide +kernel
theorem w_running : about1.status = .running := rfl
set_option maxRecDepth 65536 in
theorem w_room : about1.hasRoom e0.platform room_1 = true :=
  launch0.hasRoom_least _ room_1 (by decide +kernel) (by decide +kernel) (by decide +kernel) (by decide +kernel) (by decide +kernel) (by decide +kernel)
theorem allAtoms_all (ts : List Jvm.Cond) (a : Array Jvm.Value) (st : Jvm.State) : (allAtoms ts).before a st = ts.all (fun c => c.before a st) := by
  induction ts with
  | nil => rfl
  | cons c t ih =>
    show (Jvm.Cond.and c (allAtoms t)).before a st = _
    rw [Jvm.Cond.before_and, ih, List.all_cons]
def words1 : List Jvm.Cond := Jvm.Cond.code x code maxLocals ret :: tables_1
/-- a 'code' word, met by the world's own term for the bytes: nothing is compared byte by byte -/
theorem code_word {y : MethodName} {bytes : ByteArray} {mx : Nat} {rt : Option FieldType} {a : Array Value} {s : State} {m : MethodId} {meth : Method} {c : Code} (h1 : s.methodNamed? y = some m) (h2 : s.vm.method? m = some meth) (h3 : meth.code = some c) (h4 : c.code = bytes)
    (h5 : (c.maxLocals == mx && c.exceptionTable.isEmpty && decide (c.maxStack ≤ mostOperands) && decide (meth.sig.returnType = rt) && !meth.locks && decide (parseMethodDescriptor y.desc = some meth.sig)) = true) : (Jvm.Cond.code y bytes mx rt).before a s = true := by
  simp only [Bool.and_eq_true, beq_iff_eq, Bool.not_eq_true', decide_eq_true_eq] at h5
  obtain ⟨⟨⟨⟨⟨g1, g2⟩, g3⟩, g4⟩, g5⟩, g6⟩ := h5
  simp [Cond.before, Cond.holds, Cond.value, h1, h2, h3, h4, g1, g2, g3, g4, g5, g6]
def isCode : Jvm.Cond → Bool
  | .code _ _ _ _ => true
  | _ => false
theorem all_split {L : List Jvm.Cond} {P : Jvm.Cond → Bool} (h1 : L.all (fun c => isCode c || P c) = true) (h2 : ∀ c ∈ L.filter isCode, P c = true) : L.all P = true := by
  refine List.all_eq_true.mpr fun c hc => ?_
  have h := List.all_eq_true.mp h1 c hc
  rcases Bool.eq_false_or_eq_true (isCode c) with hi | hi
  · exact h2 c (List.mem_filter.mpr ⟨hc, hi⟩)
  · simpa [hi] using h
set_option maxRecDepth 65536 in
theorem w_c0 : (Jvm.Cond.code x code maxLocals ret).before args0 about1 = true := code_word (m := ⟨1, 2⟩) (meth := k1m2) (c := k1c2) (by decide +kernel) rfl rfl rfl (by decide +kernel)
set_option maxRecDepth 65536 in
theorem w_c1 : (Jvm.Cond.code ({ cls := "com/example/tallywire/tallywire/wire/FieldType", name := "holdsSeveral", desc := "()Z" } : Jvm.MethodName) prog_40_method_6_code (1 : Nat) (Option.some Jvm.ClassFile.FieldType.boolean)).before args0 about1 = true := code_word (m := ⟨6, 0⟩) (meth := k6m0) (c := k6c0) (by decide +kernel) rfl rfl rfl (by decide +kernel)
set_option maxRecDepth 65536 in
theorem w_c2 : (Jvm.Cond.code ({ cls := "com/example/tallywire/tallywire/wire/FieldTypeHoldsSeveralPinLaw", name := "nonSpace", desc := "(I)C" } : Jvm.MethodName) method_2_code (2 : Nat) (Option.some Jvm.ClassFile.FieldType.char)).before args0 about1 = true := code_word (m := ⟨1, 1⟩) (meth := k1m1) (c := k1c1) (by decide +kernel) rfl rfl rfl (by decide +kernel)
set_option maxRecDepth 65536 in
theorem w_c3 : (Jvm.Cond.code ({ cls := "java/lang/String", name := "<init>", desc := "([C)V" } : Jvm.MethodName) jdk_42_method_3_code (2 : Nat) (Option.none : Option Jvm.ClassFile.FieldType)).before args0 about1 = true := code_word (m := ⟨9, 1⟩) (meth := k9m1) (c := k9c1) (by decide +kernel) rfl rfl rfl (by decide +kernel)
set_option maxRecDepth 65536 in
theorem w_c4 : (Jvm.Cond.code ({ cls := "java/lang/String", name := "<init>", desc := "([CIILjava/lang/Void;)V" } : Jvm.MethodName) jdk_42_method_149_code (6 : Nat) (Option.none : Option Jvm.ClassFile.FieldType)).before args0 about1 = true := code_word (m := ⟨9, 4⟩) (meth := k9m4) (c := k9c4) (by decide +kernel) rfl rfl rfl (by decide +kernel)
set_option maxRecDepth 65536 in
theorem w_c5 : (Jvm.Cond.code ({ cls := "java/lang/Object", name := "<init>", desc := "()V" } : Jvm.MethodName) object_method_1_code (1 : Nat) (Option.none : Option Jvm.ClassFile.FieldType)).before args0 about1 = true := code_word (m := ⟨0, 0⟩) (meth := k0m0) (c := k0c0) (by decide +kernel) rfl rfl rfl (by decide +kernel)
set_option maxRecDepth 65536 in
theorem w_c6 : (Jvm.Cond.code ({ cls := "java/lang/StringUTF16", name := "compress", desc := "([CII)[B" } : Jvm.MethodName) jdk_52_method_16_code (6 : Nat) (Option.some (Jvm.ClassFile.FieldType.array Jvm.ClassFile.FieldType.byte))).before args0 about1 = true := code_word (m := ⟨10, 2⟩) (meth := k10m2) (c := k10c2) (by decide +kernel) rfl rfl rfl (by decide +kernel)
set_option maxRecDepth 65536 in
theorem w_c7 : (Jvm.Cond.code ({ cls := "java/lang/StringUTF16", name := "compress", desc := "([CI[BII)I" } : Jvm.MethodName) jdk_52_method_21_code (7 : Nat) (Option.some Jvm.ClassFile.FieldType.int)).before args0 about1 = true := code_word (m := ⟨10, 3⟩) (meth := k10m3) (c := k10c3) (by decide +kernel) rfl rfl rfl (by decide +kernel)
set_option maxRecDepth 65536 in
theorem w_c8 : (Jvm.Cond.code ({ cls := "java/lang/StringUTF16", name := "coderFromArrayLen", desc := "([BI)B" } : Jvm.MethodName) jdk_52_method_15_code (2 : Nat) (Option.some Jvm.ClassFile.FieldType.byte)).before args0 about1 = true := code_word (m := ⟨10, 1⟩) (meth := k10m1) (c := k10c1) (by decide +kernel) rfl rfl rfl (by decide +kernel)
set_option maxRecDepth 65536 in
theorem w_c9 : (Jvm.Cond.code ({ cls := "com/example/tallywire/tallywire/wire/FieldType", name := "hasForm", desc := "(Ljava/lang/String;)Z" } : Jvm.MethodName) prog_40_method_7_code (3 : Nat) (Option.some Jvm.ClassFile.FieldType.boolean)).before args0 about1 = true := code_word (m := ⟨6, 1⟩) (meth := k6m1) (c := k6c1) (by decide +kernel) rfl rfl rfl (by decide +kernel)
set_option maxRecDepth 65536 in
theorem w_c10 : (Jvm.Cond.code ({ cls := "java/lang/String", name := "length", desc := "()I" } : Jvm.MethodName) jdk_42_method_54_code (1 : Nat) (Option.some Jvm.ClassFile.FieldType.int)).before args0 about1 = true := code_word (m := ⟨9, 2⟩) (meth := k9m2) (c := k9c2) (by decide +kernel) rfl rfl rfl (by decide +kernel)
set_option maxRecDepth 65536 in
theorem w_c11 : (Jvm.Cond.code ({ cls := "java/lang/String", name := "coder", desc := "()B" } : Jvm.MethodName) jdk_42_method_152_code (1 : Nat) (Option.some Jvm.ClassFile.FieldType.byte)).before args0 about1 = true := code_word (m := ⟨9, 5⟩) (meth := k9m5) (c := k9c5) (by decide +kernel) rfl rfl rfl (by decide +kernel)
set_option maxRecDepth 65536 in
theorem w_c12 : (Jvm.Cond.code ({ cls := "java/lang/Enum", name := "ordinal", desc := "()I" } : Jvm.MethodName) jdk_37_method_2_code (1 : Nat) (Option.some Jvm.ClassFile.FieldType.int)).before args0 about1 = true := code_word (m := ⟨5, 0⟩) (meth := k5m0) (c := k5c0) (by decide +kernel) rfl rfl rfl (by decide +kernel)
set_option maxRecDepth 65536 in
theorem w_c13 : (Jvm.Cond.code ({ cls := "com/example/tallywire/tallywire/wire/FieldType", name := "isCharacterList", desc := "(Ljava/lang/String;)Z" } : Jvm.MethodName) prog_40_method_14_code (2 : Nat) (Option.some Jvm.ClassFile.FieldType.boolean)).before args0 about1 = true := code_word (m := ⟨6, 2⟩) (meth := k6m2) (c := k6c2) (by decide +kernel) rfl rfl rfl (by decide +kernel)
set_option maxRecDepth 65536 in
theorem w_c14 : (Jvm.Cond.code ({ cls := "java/lang/String", name := "charAt", desc := "(I)C" } : Jvm.MethodName) jdk_42_method_56_code (2 : Nat) (Option.some Jvm.ClassFile.FieldType.char)).before args0 about1 = true := code_word (m := ⟨9, 3⟩) (meth := k9m3) (c := k9c3) (by decide +kernel) rfl rfl rfl (by decide +kernel)
set_option maxRecDepth 65536 in
theorem w_c15 : (Jvm.Cond.code ({ cls := "java/lang/String", name := "isLatin1", desc := "()Z" } : Jvm.MethodName) jdk_42_method_154_code (1 : Nat) (Option.some Jvm.ClassFile.FieldType.boolean)).before args0 about1 = true := code_word (m := ⟨9, 6⟩) (meth := k9m6) (c := k9c6) (by decide +kernel) rfl rfl rfl (by decide +kernel)
set_option maxRecDepth 65536 in
theorem w_c16 : (Jvm.Cond.code ({ cls := "java/lang/StringLatin1", name := "charAt", desc := "([BI)C" } : Jvm.MethodName) jdk_43_method_2_code (2 : Nat) (Option.some Jvm.ClassFile.FieldType.char)).before args0 about1 = true := code_word (m := ⟨11, 1⟩) (meth := k11m1) (c := k11c1) (by decide +kernel) rfl rfl rfl (by decide +kernel)
set_option maxRecDepth 65536 in
theorem w_c17 : (Jvm.Cond.code ({ cls := "java/lang/String", name := "checkIndex", desc := "(II)V" } : Jvm.MethodName) jdk_42_method_155_code (2 : Nat) (Option.none : Option Jvm.ClassFile.FieldType)).before args0 about1 = true := code_word (m := ⟨9, 7⟩) (meth := k9m7) (c := k9c7) (by decide +kernel) rfl rfl rfl (by decide +kernel)
set_option maxRecDepth 65536 in
theorem w_c18 : (Jvm.Cond.code ({ cls := "jdk/internal/util/Preconditions", name := "checkIndex", desc := "(IILjava/util/function/BiFunction;)I" } : Jvm.MethodName) jdk_41_method_11_code (3 : Nat) (Option.some Jvm.ClassFile.FieldType.int)).before args0 about1 = true := code_word (m := ⟨12, 1⟩) (meth := k12m1) (c := k12c1) (by decide +kernel) rfl rfl rfl (by decide +kernel)
def codes1 : List Jvm.Cond := [Jvm.Cond.code x code maxLocals ret, Jvm.Cond.code ({ cls := "com/example/tallywire/tallywire/wire/FieldType", name := "holdsSeveral", desc := "()Z" } : Jvm.MethodName) prog_40_method_6_code (1 : Nat) (Option.some Jvm.ClassFile.FieldType.boolean), Jvm.Cond.code ({ cls := "com/example/tallywire/tallywire/wire/FieldTypeHoldsSeveralPinLaw", name := "nonSpace", desc := "(I)C" } : Jvm.MethodName) method_2_code (2 : Nat) (Option.some Jvm.ClassFile.FieldType.char), Jvm.Cond.code ({ cls := "java/lang/String", name := "<init>", desc := "([C)V" } : Jvm.MethodName) jdk_42_method_3_code (2 : Nat) (Option.none : Option Jvm.ClassFile.FieldType), Jvm.Cond.code ({ cls := "java/lang/String", name := "<init>", desc := "([CIILjava/lang/Void;)V" } : Jvm.MethodName) jdk_42_method_149_code (6 : Nat) (Option.none : Option Jvm.ClassFile.FieldType), Jvm.Cond.code ({ cls := "java/lang/Object", name := "<init>", desc := "()V" } : Jvm.MethodName) object_method_1_code (1 : Nat) (Option.none : Option Jvm.ClassFile.FieldType), Jvm.Cond.code ({ cls := "java/lang/StringUTF16", name := "compress", desc := "([CII)[B" } : Jvm.MethodName) jdk_52_method_16_code (6 : Nat) (Option.some (Jvm.ClassFile.FieldType.array Jvm.ClassFile.FieldType.byte)), Jvm.Cond.code ({ cls := "java/lang/StringUTF16", name := "compress", desc := "([CI[BII)I" } : Jvm.MethodName) jdk_52_method_21_code (7 : Nat) (Option.some Jvm.ClassFile.FieldType.int), Jvm.Cond.code ({ cls := "java/lang/StringUTF16", name := "coderFromArrayLen", desc := "([BI)B" } : Jvm.MethodName) jdk_52_method_15_code (2 : Nat) (Option.some Jvm.ClassFile.FieldType.byte), Jvm.Cond.code ({ cls := "com/example/tallywire/tallywire/wire/FieldType", name := "hasForm", desc := "(Ljava/lang/String;)Z" } : Jvm.MethodName) prog_40_method_7_code (3 : Nat) (Option.some Jvm.ClassFile.FieldType.boolean), Jvm.Cond.code ({ cls := "java/lang/String", name := "length", desc := "()I" } : Jvm.MethodName) jdk_42_method_54_code (1 : Nat) (Option.some Jvm.ClassFile.FieldType.int), Jvm.Cond.code ({ cls := "java/lang/String", name := "coder", desc := "()B" } : Jvm.MethodName) jdk_42_method_152_code (1 : Nat) (Option.some Jvm.ClassFile.FieldType.byte), Jvm.Cond.code ({ cls := "java/lang/Enum", name := "ordinal", desc := "()I" } : Jvm.MethodName) jdk_37_method_2_code (1 : Nat) (Option.some Jvm.ClassFile.FieldType.int), Jvm.Cond.code ({ cls := "com/example/tallywire/tallywire/wire/FieldType", name := "isCharacterList", desc := "(Ljava/lang/String;)Z" } : Jvm.MethodName) prog_40_method_14_code (2 : Nat) (Option.some Jvm.ClassFile.FieldType.boolean), Jvm.Cond.code ({ cls := "java/lang/String", name := "charAt", desc := "(I)C" } : Jvm.MethodName) jdk_42_method_56_code (2 : Nat) (Option.some Jvm.ClassFile.FieldType.char), Jvm.Cond.code ({ cls := "java/lang/String", name := "isLatin1", desc := "()Z" } : Jvm.MethodName) jdk_42_method_154_code (1 : Nat) (Option.some Jvm.ClassFile.FieldType.boolean), Jvm.Cond.code ({ cls := "java/lang/StringLatin1", name := "charAt", desc := "([BI)C" } : Jvm.MethodName) jdk_43_method_2_code (2 : Nat) (Option.some Jvm.ClassFile.FieldType.char), Jvm.Cond.code ({ cls := "java/lang/String", name := "checkIndex", desc := "(II)V" } : Jvm.MethodName) jdk_42_method_155_code (2 : Nat) (Option.none : Option Jvm.ClassFile.FieldType), Jvm.Cond.code ({ cls := "jdk/internal/util/Preconditions", name := "checkIndex", desc := "(IILjava/util/function/BiFunction;)I" } : Jvm.MethodName) jdk_41_method_11_code (3 : Nat) (Option.some Jvm.ClassFile.FieldType.int)]
set_option maxRecDepth 65536 in
theorem codes_eq : words1.filter isCode = codes1 := rfl
theorem w_codes : ∀ c ∈ words1.filter isCode, c.before args0 about1 = true := by
  rw [codes_eq]
  intro c hc
  simp only [codes1, List.mem_cons, List.not_mem_nil, or_false] at hc
  rcases hc with rfl | rfl | rfl | rfl | rfl | rfl | rfl | rfl | rfl | rfl | rfl | rfl | rfl | rfl | rfl | rfl | rfl | rfl | rfl
  · exact w_c0
  · exact w_c1
  · exact w_c2
  · exact w_c3
  · exact w_c4
  · exact w_c5
  · exact w_c6
  · exact w_c7
  · exact w_c8
  · exact w_c9
  · exact w_c10
  · exact w_c11
  · exact w_c12
  · exact w_c13
  · exact w_c14
  · exact w_c15
  · exact w_c16
  · exact w_c17
  · exact w_c18
set_option maxRecDepth 65536 in
theorem w_t1 : (words1.take 24).all (fun c => isCode c || c.before args0 about1) = true := by decide +kernel
set_option maxRecDepth 65536 in
theorem w_t2 : ((words1.drop 24).take 24).all (fun c => isCode c || c.before args0 about1) = true := by decide +kernel
set_option maxRecDepth 65536 in
theorem w_t3 : (((words1.drop 24).drop 24).take 24).all (fun c => isCode c || c.before args0 about1) = true := by decide +kernel
set_option maxRecDepth 65536 in
theorem w_t4 : ((((words1.drop 24).drop 24).drop 24).take 24).all (fun c => isCode c || c.before args0 about1) = true := by decide +kernel
set_option maxRecDepth 65536 in
theorem w_t5 : (((((words1.drop 24).drop 24).drop 24).drop 24).take 24).all (fun c => isCode c || c.before args0 about1) = true := by decide +kernel
set_option maxRecDepth 65536 in
theorem w_t6 : ((((((words1.drop 24).drop 24).drop 24).drop 24).drop 24).take 24).all (fun c => isCode c || c.before args0 about1) = true := by decide +kernel
set_option maxRecDepth 65536 in
theorem w_t7 : ((((((words1.drop 24).drop 24).drop 24).drop 24).drop 24).drop 24).all (fun c => isCode c || c.before args0 about1) = true := by decide +kernel
theorem w_tables : (allAtoms (Jvm.Cond.code x code maxLocals ret :: tables_1)).before args0 about1 = true := by
  rw [allAtoms_all]
  show words1.all (fun c => c.before args0 about1) = true
  refine all_split ?_ w_codes
  rw [← List.take_append_drop 24 words1, List.all_append, w_t1, ← List.take_append_drop 24 (words1.drop 24), List.all_append, w_t2, ← List.take_append_drop 24 ((words1.drop 24).drop 24), List.all_append, w_t3, ← List.take_append_drop 24 (((words1.drop 24).drop 24).drop 24), List.all_append, w_t4, ← List.take_append_drop 24 ((((words1.drop 24).drop 24).drop 24).drop 24), List.all_append, w_t5, ← List.take_append_drop 24 (((((words1.drop 24).drop 24).drop 24).drop 24).drop 24), List.all_append, w_t6, w_t7]
  rfl
set_option maxRecDepth 65536 in
theorem w_rest : rest_1_c.before args0 about1 = true := by decide +kernel
set_option maxRecDepth 65536 in
theorem w_case : (Jvm.Cond.and given_1 narrow_1).before args0 about1 = true := by decide +kernel
theorem w_applies : (headSpec (Jvm.Cond.code x code maxLocals ret :: tables_1) room_1).applies x e0.platform about1 = true :=
  (Spec.applies_iff w_frames).mpr ⟨w_running, w_runnable, w_alone, w_named, w_hears, w_ripe, w_room, w_tables⟩
theorem atStart : AtStart classFile x code maxLocals ret World_1 tables_1 room_1 Calls_1 rest_1 Pre_1 launch0 p0 e0 about1 theMethod args0 below0 :=
  ⟨lists_1, trivial, launch0.admits_env _ _ _, launch0.least_env, fairChoices_fair.cas, fairChoices_fair.clock, w_frames, w_args, w_heap, w_applies, trivial, w_rest, w_case⟩
end start1
theorem witness_1 : WitnessClaimed_1 := ⟨start1.p0, start1.e0, start1.about1, start1.theMethod, start1.args0, start1.below0, start1.atStart⟩
end Jvm.Pilot.@@N@@
