import JvmDerived
import JvmDerived.Pilot.@@N@@Statement
import JvmDerived.Pilot.@@N@@Code
set_option linter.unusedVariables false
set_option linter.unusedSimpArgs false
namespace Jvm.RoadKit
open Sem ClassFile Op Lib Jvm.Stand Jvm.Free Jvm.LawKit
section New
variable {p : Program} {l : Launch} {e : Env} {R : Room} {s : State} {m : MethodId} {args : Array Value} {below : List Frame} {meth : Method} {c : Code} {T : State} {locs : List Loc} {cells slots : Nat}
theorem retI (X : Stand p l e R s m args below meth c T locs cells slots) (hx : p.tables.exec = Jvm.exec) {pc : Nat} {Ls : Array Slot} {z : Int32} {rest : List Value} (hret : meth.sig.returnType = some .int) (hd : decode c.code pc = .ok (.ireturn, 1)) {fs : List Frame}
    (hl : ∀ (f : JFrame) (acts : List Action), f.method = m → f.locked = none → f.entered = [] → (doReturn e (T.setTop f) acts (some (.int z))).1 = T.setFrames fs) : Steps p.tables e below (T.setTop (mkF m pc Ls (.int z :: rest))) (T.setFrames fs) :=
  retOut X hx hret rfl (Or.inl ⟨rfl, Or.inl rfl, _, rfl⟩) hd hl
end New
end Jvm.RoadKit
namespace Jvm.Pilot.@@N@@
open Jvm Jvm.ClassFile Sem Op Lib Jvm.Free Jvm.Stand Jvm.LawKit Jvm.RoadKit Bundle Jvm.Pilot.@@N@@.Jvm.D
abbrev own_m0 : MethodName := ⟨"java/lang/String", "equals", "(Ljava/lang/Object;)Z"⟩
abbrev own_m1 : MethodName := ⟨"java/lang/StringLatin1", "equals", "([B[B)Z"⟩
abbrev own_m2 : MethodName := ⟨"com/example/dongl/dongl/crypto/ProtocolVersion", "text", "()Ljava/lang/String;"⟩
abbrev own_m3 : MethodName := ⟨"java/lang/StringUTF16", "compress", "([CI[BII)I"⟩
abbrev own_m4 : MethodName := ⟨"java/lang/StringUTF16", "compress", "([CII)[B"⟩
abbrev own_m5 : MethodName := ⟨"java/lang/StringUTF16", "coderFromArrayLen", "([BI)B"⟩
abbrev own_m6 : MethodName := ⟨"java/lang/String", "<init>", "([CIILjava/lang/Void;)V"⟩
abbrev own_m7 : MethodName := ⟨"java/lang/String", "<init>", "([C)V"⟩
abbrev own_m8 : MethodName := ⟨"com/example/dongl/dongl/crypto/ProtocolVersion", "values", "()[Lcom/example/dongl/dongl/crypto/ProtocolVersion;"⟩
abbrev own_m9 : MethodName := ⟨"com/example/dongl/dongl/crypto/ProtocolVersion", "of", "(Ljava/lang/String;)Lcom/example/dongl/dongl/crypto/ProtocolVersion;"⟩
/-- what a body that writes nothing leaves: its value, no place written, the heap as it was -/
def PQ (w : Option Value) (h0 : Heap) (n0 : Nat) (v : Option Value) (h : Heap) (L : List Loc) : Prop := v = w ∧ Fr n0 L ∧ h = h0
def LQ (n0 : Nat) (v : Option Value) (h : Heap) (L : List Loc) : Prop := v = some (.int (1 : Int32)) ∧ Fr n0 L ∧ True
theorem own_pd0 : parseMethodDescriptor "([CI[BII)I" = some ⟨[(.array .char), .int, (.array .byte), .int, .int], some .int⟩ := by decide +kernel
theorem own_pd1 : parseMethodDescriptor "([CII)[B" = some ⟨[(.array .char), .int, .int], some (.array .byte)⟩ := by decide +kernel
theorem own_pd2 : parseMethodDescriptor "([BI)B" = some ⟨[(.array .byte), .int], some .byte⟩ := by decide +kernel
theorem own_pd3 : parseMethodDescriptor "([CIILjava/lang/Void;)V" = some ⟨[(.array .char), .int, .int, (.object "java/lang/Void")], none⟩ := by decide +kernel
theorem own_pd4 : parseMethodDescriptor "([C)V" = some ⟨[(.array .char)], none⟩ := by decide +kernel
theorem own_pd5 : parseMethodDescriptor "()[Lcom/example/dongl/dongl/crypto/ProtocolVersion;" = some ⟨[], some (.array (.object "com/example/dongl/dongl/crypto/ProtocolVersion"))⟩ := by decide +kernel
theorem own_pd6 : parseMethodDescriptor "([B[B)Z" = some ⟨[(.array .byte), (.array .byte)], some .boolean⟩ := by decide +kernel
theorem own_pd7 : parseMethodDescriptor "(Ljava/lang/Object;)Z" = some ⟨[(.object "java/lang/Object")], some .boolean⟩ := by decide +kernel
theorem own_pd8 : parseMethodDescriptor "(Ljava/lang/String;)Lcom/example/dongl/dongl/crypto/ProtocolVersion;" = some ⟨[(.object "java/lang/String")], some (.object "com/example/dongl/dongl/crypto/ProtocolVersion")⟩ := by decide +kernel
theorem own_pd9 : parseMethodDescriptor "()Ljava/lang/String;" = some ⟨[], some (.object "java/lang/String")⟩ := by decide +kernel
theorem own_k (p : Int32) : ∃ n, n < 4 ∧ (p &&& (3 : Int32)) = Int32.ofNat n := by
  have q := c_mask p 3 2 (by decide) (by decide)
  refine ⟨(p.toInt % 4).toNat, by omega, ?_⟩
  rw [← Int32.toInt_inj, q, Int32.toInt_ofNat_small (by omega)]
  omega
theorem own_eqv {s : State} {args : Array Value} {t u : Term} {w : Value} (hu : u.eval args s none [] s = some w) (h : (Cond.eq t u).value args s none s [] = some true) (hk : (match w with | .retAddr _ => false | .float _ => false | .double _ => false | _ => true) = true := by rfl) : t.eval args s none [] s = some w := by
  obtain ⟨x, y, e1, e2, -, -⟩ := cmp_v (Or.inl h)
  cases hu.symm.trans e2
  rw [e1]
  simp only [Cond.value, e1, hu] at h
  cases x <;> cases w <;> simp at h hk ⊢ <;> exact h
theorem own_fld {s : State} {args : Array Value} {t : Term} {C n d : String} {a : Addr} {v : Value} (ht : t.eval args s none [] s = some (.ref a)) (h : (Term.field t C n d).eval args s none [] s = some v) : Fld s s.heap a C n d v := Fld.start ((fld_at ht).symm.trans h)
theorem own_len {s : State} {args : Array Value} {t : Term} {ty : FieldType} {a : Addr} {n : Int32} (ht : t.eval args s none [] s = some (.ref a)) (ha : (Cond.arrayOf t ty).value args s none s [] = some true) (hl : (Cond.eq (.length t) (.int n)).value args s none s [] = some true) (hn : ¬ n < 0) :
    ∃ c : Cell, Arr s s.heap a c ty ∧ c.slots.size < 2 ^ 31 ∧ c.slots.size.toInt32 = n := by
  obtain ⟨c, A⟩ := Arr.start ht ha
  have e := own_eqv (Term.int_eval n) hl
  have A2 := A.fin (Vm.Alike.refl _)
  obtain ⟨x, c2, e1, e2, e3⟩ := Term.length_spec e
  cases ht.symm.trans e1
  cases A2.symm.trans e2
  have h31 := SBG.length_lt ht A2 e
  refine ⟨c, A, h31, ?_⟩
  have := len_f ht A2 h31
  rw [e] at this
  simpa using (Option.some.inj this).symm
theorem own_elem {s : State} {args : Array Value} {t : Term} {ty : FieldType} {a : Addr} {c : Cell} {j : Int32} {v : Value} (ht : t.eval args s none [] s = some (.ref a)) (A : Arr s s.heap a c ty) (h : (Term.elem t (.int j)).eval args s none [] s = some v) : c.slots[j.toNatClampNeg]? = some v := (elem_in h ht (Term.int_eval j) A.1).2
theorem own_all0 {s : State} {args : Array Value} {t : Term} {ty : FieldType} {a : Addr} {c : Cell} {k n : Int32} (ht : ∀ idx, t.eval args s none idx s = some (.ref a)) (A : Arr s s.heap a c ty) (h31 : c.slots.size < 2 ^ 31) (hn : c.slots.size.toInt32 = n)
    (h : (Cond.all t (.or (.lt (.index 0) (.int k)) (.eq (.elem t (.index 0)) (.int 0)))).value args s none s [] = some true) (j : Nat) (hj : j < n.toNatClampNeg) (hk : ¬ j.toInt32 < k) : c.slots[j]? = some (.int 0) := by
  have A2 := A.fin (Vm.Alike.refl _)
  have hsz : n.toNatClampNeg = c.slots.size := by rw [← hn]; simp only [Int32.toNatClampNeg, len_toInt h31]; rfl
  have hj2 : j < c.slots.size := hsz ▸ hj
  have q := Cond.all_elim (ht []) A2 h j hj2
  have e1 : (Term.index 0).eval args s none [j] s = some (.int j.toInt32) := rfl
  have l1 : (Cond.lt (.index 0) (.int k)).value args s none s [j] = some false := by
    simp [Cond.value, e1, Term.int_eval, hk]
  have q2 : (Cond.eq (.elem t (.index 0)) (.int 0)).value args s none s [j] = some true := by
    have q3 : (match (Cond.lt (.index 0) (.int k)).value args s none s [j] with | some false => (Cond.eq (.elem t (.index 0)) (.int 0)).value args s none s [j] | x => x) = some true := q
    rw [l1] at q3
    exact q3
  obtain ⟨x, y, e2, e3, -, -⟩ := cmp_v (Or.inl q2)
  cases (Term.int_eval (args := args) (first := s) (o := none) (idx := [j]) (s := s) 0).symm.trans e3
  have e4 : (Term.elem t (.index 0)).eval args s none [j] s = some (.int 0) := by
    simp only [Cond.value, e2, e3] at q2
    rw [e2]; cases x <;> simp at q2 ⊢; exact q2
  have e5 := elem_in e4 (ht [j]) e1 A.1
  have e6 : (Nat.toInt32 j).toNatClampNeg = j := by simp only [Int32.toNatClampNeg, len_toInt (Nat.lt_trans hj2 h31)]; rfl
  rw [e6] at e5
  exact e5.2
theorem own_csne {s : State} {args : Array Value} {t : Term} {v : Int32} (e : t.eval args s none [] s = some (.int v)) (h : (Cond.not (.eq t (.int 0))).value args s none s [] = some true) : ¬ (v = (0 : Int32)) := by
  have q := not_v h
  intro hv
  subst hv
  have q2 := Cond.eq_ints e (Term.int_eval (args := args) (first := s) (o := none) (idx := []) (s := s) 0)
  rw [q2] at q
  simp at q
theorem own_orref {s : State} {args : Array Value} {C f d : String} (h : (Cond.isRef (.static C f d)).value args s none s [] = some true) (hi : (Cond.initializedFor C f d).before args s = true ∨ ((Cond.initialized C).before args s = true ∧ (Cond.laysStatic C f d).before args s = true)) : (Sta s s.heap C f d .null) ∨ (∃ a, Sta s s.heap C f d (.ref a)) := by
  obtain ⟨x, e, hr⟩ := isR_v h
  rcases ref_cases hr with rfl | ⟨a, rfl⟩
  · exact Or.inl (Sta.start e hi)
  · exact Or.inr ⟨a, Sta.start e hi⟩
def own_St (Z : State) (A : Nat → Addr) (K : Nat → ClassId) (cs : Int32) : Prop := ((Sta Z Z.heap "com/example/dongl/dongl/crypto/ProtocolVersion" "V3_0" "Lcom/example/dongl/dongl/crypto/ProtocolVersion;" (.ref (A 0))) ∧ (Exa Z Z.heap (A 0) "com/example/dongl/dongl/crypto/ProtocolVersion") ∧ (Sta Z Z.heap "com/example/dongl/dongl/crypto/ProtocolVersion" "V3_1" "Lcom/example/dongl/dongl/crypto/ProtocolVersion;" (.ref (A 1))) ∧ (Exa Z Z.heap (A 1) "com/example/dongl/dongl/crypto/ProtocolVersion") ∧ (Sta Z Z.heap "com/example/dongl/dongl/crypto/ProtocolVersion" "V3_2" "Lcom/example/dongl/dongl/crypto/ProtocolVersion;" (.ref (A 2))) ∧ (Exa Z Z.heap (A 2) "com/example/dongl/dongl/crypto/ProtocolVersion") ∧ (Sta Z Z.heap "com/example/dongl/dongl/crypto/ProtocolVersion" "V3_3" "Lcom/example/dongl/dongl/crypto/ProtocolVersion;" (.ref (A 3))) ∧ (Exa Z Z.heap (A 3) "com/example/dongl/dongl/crypto/ProtocolVersion") ∧ True) ∧ ((Sta Z Z.heap "com/example/dongl/dongl/crypto/ProtocolVersion" "$VALUES" "[Lcom/example/dongl/dongl/crypto/ProtocolVersion;" (.ref (A 4))) ∧ (Exa Z Z.heap (A 4) "[Lcom/example/dongl/dongl/crypto/ProtocolVersion;") ∧ (Arv Z Z.heap (A 4) (K 0) (.object "com/example/dongl/dongl/crypto/ProtocolVersion") (4 : Int32) [(.ref (A 0)), (.ref (A 1)), (.ref (A 2)), (.ref (A 3))] .null) ∧ (Fld Z Z.heap (A 0) "com/example/dongl/dongl/crypto/ProtocolVersion" "text" "Ljava/lang/String;" (.ref (A 5))) ∧ (Exa Z Z.heap (A 5) "java/lang/String") ∧ (Fld Z Z.heap (A 1) "com/example/dongl/dongl/crypto/ProtocolVersion" "text" "Ljava/lang/String;" (.ref (A 6))) ∧ (Exa Z Z.heap (A 6) "java/lang/String") ∧ (Fld Z Z.heap (A 2) "com/example/dongl/dongl/crypto/ProtocolVersion" "text" "Ljava/lang/String;" (.ref (A 7))) ∧ True) ∧ ((Exa Z Z.heap (A 7) "java/lang/String") ∧ (Fld Z Z.heap (A 3) "com/example/dongl/dongl/crypto/ProtocolVersion" "text" "Ljava/lang/String;" (.ref (A 8))) ∧ (Exa Z Z.heap (A 8) "java/lang/String") ∧ (Fld Z Z.heap (A 5) "java/lang/String" "value" "[B" (.ref (A 9))) ∧ (Arv Z Z.heap (A 9) (K 1) .byte (3 : Int32) [(.int (51 : Int32)), (.int (46 : Int32)), (.int (48 : Int32))] (.int (0 : Int32))) ∧ (Fld Z Z.heap (A 6) "java/lang/String" "value" "[B" (.ref (A 10))) ∧ (Arv Z Z.heap (A 10) (K 2) .byte (3 : Int32) [(.int (51 : Int32)), (.int (46 : Int32)), (.int (49 : Int32))] (.int (0 : Int32))) ∧ (Fld Z Z.heap (A 7) "java/lang/String" "value" "[B" (.ref (A 11))) ∧ True) ∧ ((Arv Z Z.heap (A 11) (K 3) .byte (3 : Int32) [(.int (51 : Int32)), (.int (46 : Int32)), (.int (50 : Int32))] (.int (0 : Int32))) ∧ (Fld Z Z.heap (A 8) "java/lang/String" "value" "[B" (.ref (A 12))) ∧ (Arv Z Z.heap (A 12) (K 4) .byte (3 : Int32) [(.int (51 : Int32)), (.int (46 : Int32)), (.int (51 : Int32))] (.int (0 : Int32))) ∧ (Sta Z Z.heap "java/lang/String" "COMPACT_STRINGS" "Z" (.int cs)) ∧ (¬ (cs = (0 : Int32))) ∧ ((Sta Z Z.heap "jdk/internal/util/Preconditions" "SIOOBE_FORMATTER" "Ljava/util/function/BiFunction;" .null) ∨ (∃ a, Sta Z Z.heap "jdk/internal/util/Preconditions" "SIOOBE_FORMATTER" "Ljava/util/function/BiFunction;" (.ref a))) ∧ (Fld Z Z.heap (A 5) "java/lang/String" "coder" "B" (.int (0 : Int32))) ∧ (Fld Z Z.heap (A 6) "java/lang/String" "coder" "B" (.int (0 : Int32))) ∧ True) ∧ ((Fld Z Z.heap (A 7) "java/lang/String" "coder" "B" (.int (0 : Int32))) ∧ (Fld Z Z.heap (A 8) "java/lang/String" "coder" "B" (.int (0 : Int32))) ∧ True) ∧ True
def Q_rm4 (Z : State) (p1 : Int32) (A : Nat → Addr) (K : Nat → ClassId) (cs : Int32) (b3 : Addr) (b14 : Addr) (k14 : ClassId) (k3 : ClassId) (h0 : Heap) (n0 : Nat) (v : Option Value) (h : Heap) (L : List Loc) : Prop := v = (some (.int (3 : Int32))) ∧ Fr n0 L ∧ Keep h0 h [b14] ∧ (Arv Z h b14 k14 .byte (3 : Int32) [(.int (51 : Int32)), (.int (46 : Int32)), (.int (48 : Int32))] (.int (0 : Int32)))
theorem own_d_jdk_52_method_21_code_0 : decode jdk_52_method_21_code 0 = .ok (.iconst 0, 1) := by decide +kernel
theorem own_d_jdk_52_method_21_code_1 : decode jdk_52_method_21_code 1 = .ok (.istore 5, 2) := by decide +kernel
theorem own_d_jdk_52_method_21_code_3 : decode jdk_52_method_21_code 3 = .ok (.iload 5, 2) := by decide +kernel
theorem own_d_jdk_52_method_21_code_5 : decode jdk_52_method_21_code 5 = .ok (.iload 4, 2) := by decide +kernel
theorem own_d_jdk_52_method_21_code_7 : decode jdk_52_method_21_code 7 = .ok (.if_icmp .ge 37, 3) := by decide +kernel
theorem own_d_jdk_52_method_21_code_10 : decode jdk_52_method_21_code 10 = .ok (.aload_n 0, 1) := by decide +kernel
theorem own_d_jdk_52_method_21_code_11 : decode jdk_52_method_21_code 11 = .ok (.iload_n 1, 1) := by decide +kernel
theorem own_d_jdk_52_method_21_code_12 : decode jdk_52_method_21_code 12 = .ok (.caload, 1) := by decide +kernel
theorem own_d_jdk_52_method_21_code_13 : decode jdk_52_method_21_code 13 = .ok (.istore 6, 2) := by decide +kernel
theorem own_d_jdk_52_method_21_code_15 : decode jdk_52_method_21_code 15 = .ok (.iload 6, 2) := by decide +kernel
theorem own_d_jdk_52_method_21_code_17 : decode jdk_52_method_21_code 17 = .ok (.sipush 255, 3) := by decide +kernel
theorem own_d_jdk_52_method_21_code_20 : decode jdk_52_method_21_code 20 = .ok (.if_icmp .le 6, 3) := by decide +kernel
theorem own_d_jdk_52_method_21_code_26 : decode jdk_52_method_21_code 26 = .ok (.aload_n 2, 1) := by decide +kernel
theorem own_d_jdk_52_method_21_code_27 : decode jdk_52_method_21_code 27 = .ok (.iload_n 3, 1) := by decide +kernel
theorem own_d_jdk_52_method_21_code_28 : decode jdk_52_method_21_code 28 = .ok (.iload 6, 2) := by decide +kernel
theorem own_d_jdk_52_method_21_code_30 : decode jdk_52_method_21_code 30 = .ok (.i2b, 1) := by decide +kernel
theorem own_d_jdk_52_method_21_code_31 : decode jdk_52_method_21_code 31 = .ok (.bastore, 1) := by decide +kernel
theorem own_d_jdk_52_method_21_code_32 : decode jdk_52_method_21_code 32 = .ok (.iinc 1 1, 3) := by decide +kernel
theorem own_d_jdk_52_method_21_code_35 : decode jdk_52_method_21_code 35 = .ok (.iinc 3 1, 3) := by decide +kernel
theorem own_d_jdk_52_method_21_code_38 : decode jdk_52_method_21_code 38 = .ok (.iinc 5 1, 3) := by decide +kernel
theorem own_d_jdk_52_method_21_code_41 : decode jdk_52_method_21_code 41 = .ok (.goto (-38), 3) := by decide +kernel
theorem own_d_jdk_52_method_21_code_44 : decode jdk_52_method_21_code 44 = .ok (.iload 4, 2) := by decide +kernel
theorem own_d_jdk_52_method_21_code_46 : decode jdk_52_method_21_code 46 = .ok (.ireturn, 1) := by decide +kernel
theorem own_pn0 : plainName "java/lang/StringUTF16" = true := by first | (simp [plainName, overriddenIn]; done) | decide +kernel
theorem own_ef_rm4 (m : MethodId) (p1 : Int32) (A : Nat → Addr) (K : Nat → ClassId) (cs : Int32)  (b3 : Addr) (b14 : Addr) (k14 : ClassId) (k3 : ClassId) : entryFrame m #[(.ref b3), (.int (0 : Int32)), (.ref b14), (.int (0 : Int32)), (.int (3 : Int32))] 7 = mkF m 0 #[.val (.ref b3), .val (.int (0 : Int32)), .val (.ref b14), .val (.int (0 : Int32)), .val (.int (3 : Int32)), .unset, .unset] [] := by first | (simp [entryFrame, mkF, argsToLocals, Value.category, maxLocals]; done) | rfl
set_option maxRecDepth 65536 in
set_option maxHeartbeats 40000000 in
theorem rm4 (l : Launch) (Z : State) (a0 : Array Value) (hw : ∀ d ∈ tables_1, d.before a0 Z = true) (ws : List Jvm.Cond) (h0 : Heap) (n0 : Nat) (p1 : Int32) (A : Nat → Addr) (K : Nat → ClassId) (cs : Int32)  (b3 : Addr) (b14 : Addr) (k14 : ClassId) (k3 : ClassId) (EN : own_St Z A K cs) (OL0 : Old Z n0 h0) (G_A_b3 : Arv Z h0 b3 k3 .char (3 : Int32) [(.int (51 : Int32)), (.int (46 : Int32)), (.int (48 : Int32))] (.int (0 : Int32))) (G_A_b14 : Arv Z h0 b14 k14 .byte (3 : Int32) [] (.int (0 : Int32))) (ne_b3_b14 : b3 ≠ b14) (gn_b14 : n0 ≤ b14) :
    MetFree l own_m3 (head1 (Jvm.Cond.code own_m3 jdk_52_method_21_code 7 (some .int) :: ws) ({ frames := 0, cells := 0, slots := 0, locals := 0 } : Room)) (fun a U => a = #[(.ref b3), (.int (0 : Int32)), (.ref b14), (.int (0 : Int32)), (.int (3 : Int32))] ∧ Z.Warmed39 U.vm ∧ U.heap = h0) (fun _ _ _ _ _ => True) (fun _ U o U' => ∃ v L, o = .returned v ∧ Q_rm4 Z p1 A K cs b3 b14 k14 k3 h0 n0 v U'.heap L ∧ FrameEnd U o U' L ({ frames := 0, cells := 0, slots := 0, locals := 0 } : Room).cells ({ frames := 0, cells := 0, slots := 0, locals := 0 } : Room).slots) := by
  refine MetFree.of_bodySF (plainFor_of_name own_pn0) hisR ?_
  intro p e s m args below meth c s₁ Bd hml0 hP hK
  obtain ⟨rfl, hZ, hh⟩ := hP
  have hx := Bd.exec
  have hby := Bd.bytes
  have hml : c.maxLocals = 7 := hml0
  have hown : s.vm.findClass "java/lang/StringUTF16" = some m.cls := findClass_of_methodNamed Bd.named
  have hnm := (name_of_methodNamed Bd.named Bd.method).1
  have X0 : Stand p l e ({ frames := 0, cells := 0, slots := 0, locals := 0 } : Room) s m #[(.ref b3), (.int (0 : Int32)), (.ref b14), (.int (0 : Int32)), (.int (3 : Int32))] below meth c s₁ [] 0 0 := Stand.of_body Bd
  have e0 : s₁.heap = h0 := by rw [← hh, Bd.state]; rfl
  have N0 := Fr.nil n0
  have pre0 : ∀ t, Steps p.tables e below (s₁.setTop (mkF m 0 #[.val (.ref b3), .val (.int (0 : Int32)), .val (.ref b14), .val (.int (0 : Int32)), .val (.int (3 : Int32)), .unset, .unset] [])) t → Steps p.tables e below (s₁.setTop (entryFrame m #[(.ref b3), (.int (0 : Int32)), (.ref b14), (.int (0 : Int32)), (.int (3 : Int32))] 7)) t := fun t k => castTop (own_ef_rm4 m p1 A K cs b3 b14 k14 k3) k
  have KK0 : Keep h0 h0 [b14] := Keep.refl _ _
  obtain ⟨cl15, Ar15, q15, Sz15, Nn15, Hh15, Gg15⟩ := (id G_A_b3)
  have hin15 : ¬ ((0 : Int32) < 0 ∨ cl15.slots.size ≤ ((0 : Int32)).toNatClampNeg) := inb_of Sz15 ⟨by decide, by decide⟩
  have hat15 : cl15.slots[((0 : Int32)).toNatClampNeg]? = some (.int (51 : Int32)) := Has.at Hh15 hin15 rfl
  obtain ⟨cl16, Ar16, q16, Sz16, Nn16, Hh16, Gg16⟩ := (id (Arv.pad G_A_b14 (pad_rep [] (.int (0 : Int32)) 1)))
  have hin16 : ¬ ((0 : Int32) < 0 ∨ cl16.slots.size ≤ ((0 : Int32)).toNatClampNeg) := inb_of Sz16 ⟨by decide, by decide⟩
  obtain ⟨T17, h17, X17, e17, W17, st17⟩ := stB X0 hx hZ e0 Ar16 (j := (0 : Int32)) hin16 (g := (mkF m 31 #[.val (.ref b3), .val (.int (0 : Int32)), .val (.ref b14), .val (.int (0 : Int32)), .val (.int (3 : Int32)), .val (.int (0 : Int32)), .val (.int (51 : Int32))] [(.int (51 : Int32)), (.int (0 : Int32)), (.ref b14)])) rfl rfl (hb hby own_d_jdk_52_method_21_code_31)
  have NF17 := Fr.snoc X17 N0 gn_b14
  have OL17 : Old Z n0 h17 := OL0.wr W17 gn_b14
  have KK17 : Keep h0 h17 [b14] := KK0.wr W17 (Or.inl (List.mem_of_getElem? (i := 0) rfl))
  have V17 : Arv Z h17 b14 k14 .byte (3 : Int32) [(.int (51 : Int32))] (.int (0 : Int32)) := Arv.set Ar16 q16 Sz16 Nn16 Hh16 Gg16 (fits_nar_byte _) W17 0 (by decide) (by decide)
  have fx18 : Arv Z h17 b3 k3 .char (3 : Int32) [(.int (51 : Int32)), (.int (46 : Int32)), (.int (48 : Int32))] (.int (0 : Int32)) := (G_A_b3.other W17 ne_b3_b14)
  obtain ⟨cl19, Ar19, q19, Sz19, Nn19, Hh19, Gg19⟩ := (id fx18)
  have hin19 : ¬ ((1 : Int32) < 0 ∨ cl19.slots.size ≤ ((1 : Int32)).toNatClampNeg) := inb_of Sz19 ⟨by decide, by decide⟩
  have hat19 : cl19.slots[((1 : Int32)).toNatClampNeg]? = some (.int (46 : Int32)) := Has.at Hh19 hin19 rfl
  obtain ⟨cl20, Ar20, q20, Sz20, Nn20, Hh20, Gg20⟩ := (id (Arv.pad V17 (pad_rep [(.int (51 : Int32))] (.int (0 : Int32)) 1)))
  have hin20 : ¬ ((1 : Int32) < 0 ∨ cl20.slots.size ≤ ((1 : Int32)).toNatClampNeg) := inb_of Sz20 ⟨by decide, by decide⟩
  obtain ⟨T21, h21, X21, e21, W21, st21⟩ := stB X17 hx hZ e17 Ar20 (j := (1 : Int32)) hin20 (g := (mkF m 31 #[.val (.ref b3), .val (.int (1 : Int32)), .val (.ref b14), .val (.int (1 : Int32)), .val (.int (3 : Int32)), .val (.int (1 : Int32)), .val (.int (46 : Int32))] [(.int (46 : Int32)), (.int (1 : Int32)), (.ref b14)])) rfl rfl (hb hby own_d_jdk_52_method_21_code_31)
  have NF21 := Fr.snoc X21 NF17 gn_b14
  have OL21 : Old Z n0 h21 := OL17.wr W21 gn_b14
  have KK21 : Keep h0 h21 [b14] := KK17.wr W21 (Or.inl (List.mem_of_getElem? (i := 0) rfl))
  have V21 : Arv Z h21 b14 k14 .byte (3 : Int32) [(.int (51 : Int32)), (.int (46 : Int32))] (.int (0 : Int32)) := Arv.set Ar20 q20 Sz20 Nn20 Hh20 Gg20 (fits_nar_byte _) W21 1 (by decide) (by decide)
  have fx22 : Arv Z h21 b3 k3 .char (3 : Int32) [(.int (51 : Int32)), (.int (46 : Int32)), (.int (48 : Int32))] (.int (0 : Int32)) := (fx18.other W21 ne_b3_b14)
  obtain ⟨cl23, Ar23, q23, Sz23, Nn23, Hh23, Gg23⟩ := (id fx22)
  have hin23 : ¬ ((2 : Int32) < 0 ∨ cl23.slots.size ≤ ((2 : Int32)).toNatClampNeg) := inb_of Sz23 ⟨by decide, by decide⟩
  have hat23 : cl23.slots[((2 : Int32)).toNatClampNeg]? = some (.int (48 : Int32)) := Has.at Hh23 hin23 rfl
  obtain ⟨cl24, Ar24, q24, Sz24, Nn24, Hh24, Gg24⟩ := (id (Arv.pad V21 (pad_rep [(.int (51 : Int32)), (.int (46 : Int32))] (.int (0 : Int32)) 1)))
  have hin24 : ¬ ((2 : Int32) < 0 ∨ cl24.slots.size ≤ ((2 : Int32)).toNatClampNeg) := inb_of Sz24 ⟨by decide, by decide⟩
  obtain ⟨T25, h25, X25, e25, W25, st25⟩ := stB X21 hx hZ e21 Ar24 (j := (2 : Int32)) hin24 (g := (mkF m 31 #[.val (.ref b3), .val (.int (2 : Int32)), .val (.ref b14), .val (.int (2 : Int32)), .val (.int (3 : Int32)), .val (.int (2 : Int32)), .val (.int (48 : Int32))] [(.int (48 : Int32)), (.int (2 : Int32)), (.ref b14)])) rfl rfl (hb hby own_d_jdk_52_method_21_code_31)
  have NF25 := Fr.snoc X25 NF21 gn_b14
  have OL25 : Old Z n0 h25 := OL21.wr W25 gn_b14
  have KK25 : Keep h0 h25 [b14] := KK21.wr W25 (Or.inl (List.mem_of_getElem? (i := 0) rfl))
  have V25 : Arv Z h25 b14 k14 .byte (3 : Int32) [(.int (51 : Int32)), (.int (46 : Int32)), (.int (48 : Int32))] (.int (0 : Int32)) := Arv.set Ar24 q24 Sz24 Nn24 Hh24 Gg24 (fits_nar_byte _) W25 2 (by decide) (by decide)
  obtain ⟨fs, hr, hrun, hended, hW, hsame⟩ := X25.leave (v := some (.int (3 : Int32))) (fun h => by rw [Bd.returns] at h; cases h)
  refine ⟨_, _, pre0 _ ?_, hrun, hended, _, _, rfl, ?_, ⟨_, rfl⟩, hW, hsame.mono (by decide) (by decide)⟩
  · show Steps p.tables e below (s₁.setTop (mkF m 0 #[.val (.ref b3), .val (.int (0 : Int32)), .val (.ref b14), .val (.int (0 : Int32)), .val (.int (3 : Int32)), .unset, .unset] [])) _
    refine XS.iconst X0.here hx rfl (hb hby own_d_jdk_52_method_21_code_0) ?_
    show Steps p.tables e below (s₁.setTop (mkF m 1 #[.val (.ref b3), .val (.int (0 : Int32)), .val (.ref b14), .val (.int (0 : Int32)), .val (.int (3 : Int32)), .unset, .unset] [(.int (0 : Int32))])) _
    refine XS.istore X0.here hx rfl (hb hby own_d_jdk_52_method_21_code_1) rfl (l' := #[.val (.ref b3), .val (.int (0 : Int32)), .val (.ref b14), .val (.int (0 : Int32)), .val (.int (3 : Int32)), .val (.int (0 : Int32)), .unset]) rfl ?_
    show Steps p.tables e below (s₁.setTop (mkF m 3 #[.val (.ref b3), .val (.int (0 : Int32)), .val (.ref b14), .val (.int (0 : Int32)), .val (.int (3 : Int32)), .val (.int (0 : Int32)), .unset] [])) _
    refine XS.iload X0.here hx rfl (hb hby own_d_jdk_52_method_21_code_3) rfl ?_
    show Steps p.tables e below (s₁.setTop (mkF m 5 #[.val (.ref b3), .val (.int (0 : Int32)), .val (.ref b14), .val (.int (0 : Int32)), .val (.int (3 : Int32)), .val (.int (0 : Int32)), .unset] [(.int (0 : Int32))])) _
    refine XS.iload X0.here hx rfl (hb hby own_d_jdk_52_method_21_code_5) rfl ?_
    show Steps p.tables e below (s₁.setTop (mkF m 7 #[.val (.ref b3), .val (.int (0 : Int32)), .val (.ref b14), .val (.int (0 : Int32)), .val (.int (3 : Int32)), .val (.int (0 : Int32)), .unset] [(.int (3 : Int32)), (.int (0 : Int32))])) _
    refine XS.icmpNo X0.here hx rfl (hb hby own_d_jdk_52_method_21_code_7) rfl (tlt (by decide : (0 : Int32) < (3 : Int32))).2.1 ?_
    show Steps p.tables e below (s₁.setTop (mkF m 10 #[.val (.ref b3), .val (.int (0 : Int32)), .val (.ref b14), .val (.int (0 : Int32)), .val (.int (3 : Int32)), .val (.int (0 : Int32)), .unset] [])) _
    refine XS.aloadN X0.here hx rfl (hb hby own_d_jdk_52_method_21_code_10) rfl rfl ?_
    show Steps p.tables e below (s₁.setTop (mkF m 11 #[.val (.ref b3), .val (.int (0 : Int32)), .val (.ref b14), .val (.int (0 : Int32)), .val (.int (3 : Int32)), .val (.int (0 : Int32)), .unset] [(.ref b3)])) _
    refine XS.iloadN X0.here hx rfl (hb hby own_d_jdk_52_method_21_code_11) rfl ?_
    show Steps p.tables e below (s₁.setTop (mkF m 12 #[.val (.ref b3), .val (.int (0 : Int32)), .val (.ref b14), .val (.int (0 : Int32)), .val (.int (3 : Int32)), .val (.int (0 : Int32)), .unset] [(.int (0 : Int32)), (.ref b3)])) _
    refine X0.caload hx (j := (0 : Int32)) (v := (.int (51 : Int32))) (by rw [e0]; exact Ar15.1) (State.isArrayOf_alike hZ.alike Ar15.2.1) Ar15.2.2 hin15 hat15 (g := (mkF m 12 #[.val (.ref b3), .val (.int (0 : Int32)), .val (.ref b14), .val (.int (0 : Int32)), .val (.int (3 : Int32)), .val (.int (0 : Int32)), .unset] [(.int (0 : Int32)), (.ref b3)])) rfl rfl (hb hby own_d_jdk_52_method_21_code_12) _ ?_
    show Steps p.tables e below (s₁.setTop (mkF m 13 #[.val (.ref b3), .val (.int (0 : Int32)), .val (.ref b14), .val (.int (0 : Int32)), .val (.int (3 : Int32)), .val (.int (0 : Int32)), .unset] [(.int (51 : Int32))])) _
    refine XS.istore X0.here hx rfl (hb hby own_d_jdk_52_method_21_code_13) rfl (l' := #[.val (.ref b3), .val (.int (0 : Int32)), .val (.ref b14), .val (.int (0 : Int32)), .val (.int (3 : Int32)), .val (.int (0 : Int32)), .val (.int (51 : Int32))]) rfl ?_
    show Steps p.tables e below (s₁.setTop (mkF m 15 #[.val (.ref b3), .val (.int (0 : Int32)), .val (.ref b14), .val (.int (0 : Int32)), .val (.int (3 : Int32)), .val (.int (0 : Int32)), .val (.int (51 : Int32))] [])) _
    refine XS.iload X0.here hx rfl (hb hby own_d_jdk_52_method_21_code_15) rfl ?_
    show Steps p.tables e below (s₁.setTop (mkF m 17 #[.val (.ref b3), .val (.int (0 : Int32)), .val (.ref b14), .val (.int (0 : Int32)), .val (.int (3 : Int32)), .val (.int (0 : Int32)), .val (.int (51 : Int32))] [(.int (51 : Int32))])) _
    refine XS.sipush X0.here hx rfl (hb hby own_d_jdk_52_method_21_code_17) ?_
    show Steps p.tables e below (s₁.setTop (mkF m 20 #[.val (.ref b3), .val (.int (0 : Int32)), .val (.ref b14), .val (.int (0 : Int32)), .val (.int (3 : Int32)), .val (.int (0 : Int32)), .val (.int (51 : Int32))] [(.int (255 : Int32)), (.int (51 : Int32))])) _
    refine XS.icmpYes X0.here hx rfl (pc0 := 20) (pc' := 26) rfl (hb hby own_d_jdk_52_method_21_code_20) rfl (flt (by decide : ¬ ((255 : Int32) < (51 : Int32)))).2.2.2 (by decide) (by decide) ?_
    show Steps p.tables e below (s₁.setTop (mkF m 26 #[.val (.ref b3), .val (.int (0 : Int32)), .val (.ref b14), .val (.int (0 : Int32)), .val (.int (3 : Int32)), .val (.int (0 : Int32)), .val (.int (51 : Int32))] [])) _
    refine XS.aloadN X0.here hx rfl (hb hby own_d_jdk_52_method_21_code_26) rfl rfl ?_
    show Steps p.tables e below (s₁.setTop (mkF m 27 #[.val (.ref b3), .val (.int (0 : Int32)), .val (.ref b14), .val (.int (0 : Int32)), .val (.int (3 : Int32)), .val (.int (0 : Int32)), .val (.int (51 : Int32))] [(.ref b14)])) _
    refine XS.iloadN X0.here hx rfl (hb hby own_d_jdk_52_method_21_code_27) rfl ?_
    show Steps p.tables e below (s₁.setTop (mkF m 28 #[.val (.ref b3), .val (.int (0 : Int32)), .val (.ref b14), .val (.int (0 : Int32)), .val (.int (3 : Int32)), .val (.int (0 : Int32)), .val (.int (51 : Int32))] [(.int (0 : Int32)), (.ref b14)])) _
    refine XS.iload X0.here hx rfl (hb hby own_d_jdk_52_method_21_code_28) rfl ?_
    show Steps p.tables e below (s₁.setTop (mkF m 30 #[.val (.ref b3), .val (.int (0 : Int32)), .val (.ref b14), .val (.int (0 : Int32)), .val (.int (3 : Int32)), .val (.int (0 : Int32)), .val (.int (51 : Int32))] [(.int (51 : Int32)), (.int (0 : Int32)), (.ref b14)])) _
    refine XS.i2b X0.here hx rfl (hb hby own_d_jdk_52_method_21_code_30) rfl ?_
    show Steps p.tables e below (s₁.setTop (mkF m 31 #[.val (.ref b3), .val (.int (0 : Int32)), .val (.ref b14), .val (.int (0 : Int32)), .val (.int (3 : Int32)), .val (.int (0 : Int32)), .val (.int (51 : Int32))] [(.int (51 : Int32)), (.int (0 : Int32)), (.ref b14)])) _
    refine st17 _ ?_
    show Steps p.tables e below (T17.setTop (mkF m 32 #[.val (.ref b3), .val (.int (0 : Int32)), .val (.ref b14), .val (.int (0 : Int32)), .val (.int (3 : Int32)), .val (.int (0 : Int32)), .val (.int (51 : Int32))] [])) _
    refine XS.iinc X17.here hx rfl (hb hby own_d_jdk_52_method_21_code_32) rfl (l' := #[.val (.ref b3), .val (.int (1 : Int32)), .val (.ref b14), .val (.int (0 : Int32)), .val (.int (3 : Int32)), .val (.int (0 : Int32)), .val (.int (51 : Int32))]) rfl ?_
    show Steps p.tables e below (T17.setTop (mkF m 35 #[.val (.ref b3), .val (.int (1 : Int32)), .val (.ref b14), .val (.int (0 : Int32)), .val (.int (3 : Int32)), .val (.int (0 : Int32)), .val (.int (51 : Int32))] [])) _
    refine XS.iinc X17.here hx rfl (hb hby own_d_jdk_52_method_21_code_35) rfl (l' := #[.val (.ref b3), .val (.int (1 : Int32)), .val (.ref b14), .val (.int (1 : Int32)), .val (.int (3 : Int32)), .val (.int (0 : Int32)), .val (.int (51 : Int32))]) rfl ?_
    show Steps p.tables e below (T17.setTop (mkF m 38 #[.val (.ref b3), .val (.int (1 : Int32)), .val (.ref b14), .val (.int (1 : Int32)), .val (.int (3 : Int32)), .val (.int (0 : Int32)), .val (.int (51 : Int32))] [])) _
    refine XS.iinc X17.here hx rfl (hb hby own_d_jdk_52_method_21_code_38) rfl (l' := #[.val (.ref b3), .val (.int (1 : Int32)), .val (.ref b14), .val (.int (1 : Int32)), .val (.int (3 : Int32)), .val (.int (1 : Int32)), .val (.int (51 : Int32))]) rfl ?_
    show Steps p.tables e below (T17.setTop (mkF m 41 #[.val (.ref b3), .val (.int (1 : Int32)), .val (.ref b14), .val (.int (1 : Int32)), .val (.int (3 : Int32)), .val (.int (1 : Int32)), .val (.int (51 : Int32))] [])) _
    refine XS.goto X17.here hx rfl (pc0 := 41) (pc' := 3) rfl (hb hby own_d_jdk_52_method_21_code_41) (by decide) (by decide) ?_
    show Steps p.tables e below (T17.setTop (mkF m 3 #[.val (.ref b3), .val (.int (1 : Int32)), .val (.ref b14), .val (.int (1 : Int32)), .val (.int (3 : Int32)), .val (.int (1 : Int32)), .val (.int (51 : Int32))] [])) _
    refine XS.iload X17.here hx rfl (hb hby own_d_jdk_52_method_21_code_3) rfl ?_
    show Steps p.tables e below (T17.setTop (mkF m 5 #[.val (.ref b3), .val (.int (1 : Int32)), .val (.ref b14), .val (.int (1 : Int32)), .val (.int (3 : Int32)), .val (.int (1 : Int32)), .val (.int (51 : Int32))] [(.int (1 : Int32))])) _
    refine XS.iload X17.here hx rfl (hb hby own_d_jdk_52_method_21_code_5) rfl ?_
    show Steps p.tables e below (T17.setTop (mkF m 7 #[.val (.ref b3), .val (.int (1 : Int32)), .val (.ref b14), .val (.int (1 : Int32)), .val (.int (3 : Int32)), .val (.int (1 : Int32)), .val (.int (51 : Int32))] [(.int (3 : Int32)), (.int (1 : Int32))])) _
    refine XS.icmpNo X17.here hx rfl (hb hby own_d_jdk_52_method_21_code_7) rfl (tlt (by decide : (1 : Int32) < (3 : Int32))).2.1 ?_
    show Steps p.tables e below (T17.setTop (mkF m 10 #[.val (.ref b3), .val (.int (1 : Int32)), .val (.ref b14), .val (.int (1 : Int32)), .val (.int (3 : Int32)), .val (.int (1 : Int32)), .val (.int (51 : Int32))] [])) _
    refine XS.aloadN X17.here hx rfl (hb hby own_d_jdk_52_method_21_code_10) rfl rfl ?_
    show Steps p.tables e below (T17.setTop (mkF m 11 #[.val (.ref b3), .val (.int (1 : Int32)), .val (.ref b14), .val (.int (1 : Int32)), .val (.int (3 : Int32)), .val (.int (1 : Int32)), .val (.int (51 : Int32))] [(.ref b3)])) _
    refine XS.iloadN X17.here hx rfl (hb hby own_d_jdk_52_method_21_code_11) rfl ?_
    show Steps p.tables e below (T17.setTop (mkF m 12 #[.val (.ref b3), .val (.int (1 : Int32)), .val (.ref b14), .val (.int (1 : Int32)), .val (.int (3 : Int32)), .val (.int (1 : Int32)), .val (.int (51 : Int32))] [(.int (1 : Int32)), (.ref b3)])) _
    refine X17.caload hx (j := (1 : Int32)) (v := (.int (46 : Int32))) (by rw [e17]; exact Ar19.1) (State.isArrayOf_alike hZ.alike Ar19.2.1) Ar19.2.2 hin19 hat19 (g := (mkF m 12 #[.val (.ref b3), .val (.int (1 : Int32)), .val (.ref b14), .val (.int (1 : Int32)), .val (.int (3 : Int32)), .val (.int (1 : Int32)), .val (.int (51 : Int32))] [(.int (1 : Int32)), (.ref b3)])) rfl rfl (hb hby own_d_jdk_52_method_21_code_12) _ ?_
    show Steps p.tables e below (T17.setTop (mkF m 13 #[.val (.ref b3), .val (.int (1 : Int32)), .val (.ref b14), .val (.int (1 : Int32)), .val (.int (3 : Int32)), .val (.int (1 : Int32)), .val (.int (51 : Int32))] [(.int (46 : Int32))])) _
    refine XS.istore X17.here hx rfl (hb hby own_d_jdk_52_method_21_code_13) rfl (l' := #[.val (.ref b3), .val (.int (1 : Int32)), .val (.ref b14), .val (.int (1 : Int32)), .val (.int (3 : Int32)), .val (.int (1 : Int32)), .val (.int (46 : Int32))]) rfl ?_
    show Steps p.tables e below (T17.setTop (mkF m 15 #[.val (.ref b3), .val (.int (1 : Int32)), .val (.ref b14), .val (.int (1 : Int32)), .val (.int (3 : Int32)), .val (.int (1 : Int32)), .val (.int (46 : Int32))] [])) _
    refine XS.iload X17.here hx rfl (hb hby own_d_jdk_52_method_21_code_15) rfl ?_
    show Steps p.tables e below (T17.setTop (mkF m 17 #[.val (.ref b3), .val (.int (1 : Int32)), .val (.ref b14), .val (.int (1 : Int32)), .val (.int (3 : Int32)), .val (.int (1 : Int32)), .val (.int (46 : Int32))] [(.int (46 : Int32))])) _
    refine XS.sipush X17.here hx rfl (hb hby own_d_jdk_52_method_21_code_17) ?_
    show Steps p.tables e below (T17.setTop (mkF m 20 #[.val (.ref b3), .val (.int (1 : Int32)), .val (.ref b14), .val (.int (1 : Int32)), .val (.int (3 : Int32)), .val (.int (1 : Int32)), .val (.int (46 : Int32))] [(.int (255 : Int32)), (.int (46 : Int32))])) _
    refine XS.icmpYes X17.here hx rfl (pc0 := 20) (pc' := 26) rfl (hb hby own_d_jdk_52_method_21_code_20) rfl (flt (by decide : ¬ ((255 : Int32) < (46 : Int32)))).2.2.2 (by decide) (by decide) ?_
    show Steps p.tables e below (T17.setTop (mkF m 26 #[.val (.ref b3), .val (.int (1 : Int32)), .val (.ref b14), .val (.int (1 : Int32)), .val (.int (3 : Int32)), .val (.int (1 : Int32)), .val (.int (46 : Int32))] [])) _
    refine XS.aloadN X17.here hx rfl (hb hby own_d_jdk_52_method_21_code_26) rfl rfl ?_
    show Steps p.tables e below (T17.setTop (mkF m 27 #[.val (.ref b3), .val (.int (1 : Int32)), .val (.ref b14), .val (.int (1 : Int32)), .val (.int (3 : Int32)), .val (.int (1 : Int32)), .val (.int (46 : Int32))] [(.ref b14)])) _
    refine XS.iloadN X17.here hx rfl (hb hby own_d_jdk_52_method_21_code_27) rfl ?_
    show Steps p.tables e below (T17.setTop (mkF m 28 #[.val (.ref b3), .val (.int (1 : Int32)), .val (.ref b14), .val (.int (1 : Int32)), .val (.int (3 : Int32)), .val (.int (1 : Int32)), .val (.int (46 : Int32))] [(.int (1 : Int32)), (.ref b14)])) _
    refine XS.iload X17.here hx rfl (hb hby own_d_jdk_52_method_21_code_28) rfl ?_
    show Steps p.tables e below (T17.setTop (mkF m 30 #[.val (.ref b3), .val (.int (1 : Int32)), .val (.ref b14), .val (.int (1 : Int32)), .val (.int (3 : Int32)), .val (.int (1 : Int32)), .val (.int (46 : Int32))] [(.int (46 : Int32)), (.int (1 : Int32)), (.ref b14)])) _
    refine XS.i2b X17.here hx rfl (hb hby own_d_jdk_52_method_21_code_30) rfl ?_
    show Steps p.tables e below (T17.setTop (mkF m 31 #[.val (.ref b3), .val (.int (1 : Int32)), .val (.ref b14), .val (.int (1 : Int32)), .val (.int (3 : Int32)), .val (.int (1 : Int32)), .val (.int (46 : Int32))] [(.int (46 : Int32)), (.int (1 : Int32)), (.ref b14)])) _
    refine st21 _ ?_
    show Steps p.tables e below (T21.setTop (mkF m 32 #[.val (.ref b3), .val (.int (1 : Int32)), .val (.ref b14), .val (.int (1 : Int32)), .val (.int (3 : Int32)), .val (.int (1 : Int32)), .val (.int (46 : Int32))] [])) _
    refine XS.iinc X21.here hx rfl (hb hby own_d_jdk_52_method_21_code_32) rfl (l' := #[.val (.ref b3), .val (.int (2 : Int32)), .val (.ref b14), .val (.int (1 : Int32)), .val (.int (3 : Int32)), .val (.int (1 : Int32)), .val (.int (46 : Int32))]) rfl ?_
    show Steps p.tables e below (T21.setTop (mkF m 35 #[.val (.ref b3), .val (.int (2 : Int32)), .val (.ref b14), .val (.int (1 : Int32)), .val (.int (3 : Int32)), .val (.int (1 : Int32)), .val (.int (46 : Int32))] [])) _
    refine XS.iinc X21.here hx rfl (hb hby own_d_jdk_52_method_21_code_35) rfl (l' := #[.val (.ref b3), .val (.int (2 : Int32)), .val (.ref b14), .val (.int (2 : Int32)), .val (.int (3 : Int32)), .val (.int (1 : Int32)), .val (.int (46 : Int32))]) rfl ?_
    show Steps p.tables e below (T21.setTop (mkF m 38 #[.val (.ref b3), .val (.int (2 : Int32)), .val (.ref b14), .val (.int (2 : Int32)), .val (.int (3 : Int32)), .val (.int (1 : Int32)), .val (.int (46 : Int32))] [])) _
    refine XS.iinc X21.here hx rfl (hb hby own_d_jdk_52_method_21_code_38) rfl (l' := #[.val (.ref b3), .val (.int (2 : Int32)), .val (.ref b14), .val (.int (2 : Int32)), .val (.int (3 : Int32)), .val (.int (2 : Int32)), .val (.int (46 : Int32))]) rfl ?_
    show Steps p.tables e below (T21.setTop (mkF m 41 #[.val (.ref b3), .val (.int (2 : Int32)), .val (.ref b14), .val (.int (2 : Int32)), .val (.int (3 : Int32)), .val (.int (2 : Int32)), .val (.int (46 : Int32))] [])) _
    refine XS.goto X21.here hx rfl (pc0 := 41) (pc' := 3) rfl (hb hby own_d_jdk_52_method_21_code_41) (by decide) (by decide) ?_
    show Steps p.tables e below (T21.setTop (mkF m 3 #[.val (.ref b3), .val (.int (2 : Int32)), .val (.ref b14), .val (.int (2 : Int32)), .val (.int (3 : Int32)), .val (.int (2 : Int32)), .val (.int (46 : Int32))] [])) _
    refine XS.iload X21.here hx rfl (hb hby own_d_jdk_52_method_21_code_3) rfl ?_
    show Steps p.tables e below (T21.setTop (mkF m 5 #[.val (.ref b3), .val (.int (2 : Int32)), .val (.ref b14), .val (.int (2 : Int32)), .val (.int (3 : Int32)), .val (.int (2 : Int32)), .val (.int (46 : Int32))] [(.int (2 : Int32))])) _
    refine XS.iload X21.here hx rfl (hb hby own_d_jdk_52_method_21_code_5) rfl ?_
    show Steps p.tables e below (T21.setTop (mkF m 7 #[.val (.ref b3), .val (.int (2 : Int32)), .val (.ref b14), .val (.int (2 : Int32)), .val (.int (3 : Int32)), .val (.int (2 : Int32)), .val (.int (46 : Int32))] [(.int (3 : Int32)), (.int (2 : Int32))])) _
    refine XS.icmpNo X21.here hx rfl (hb hby own_d_jdk_52_method_21_code_7) rfl (tlt (by decide : (2 : Int32) < (3 : Int32))).2.1 ?_
    show Steps p.tables e below (T21.setTop (mkF m 10 #[.val (.ref b3), .val (.int (2 : Int32)), .val (.ref b14), .val (.int (2 : Int32)), .val (.int (3 : Int32)), .val (.int (2 : Int32)), .val (.int (46 : Int32))] [])) _
    refine XS.aloadN X21.here hx rfl (hb hby own_d_jdk_52_method_21_code_10) rfl rfl ?_
    show Steps p.tables e below (T21.setTop (mkF m 11 #[.val (.ref b3), .val (.int (2 : Int32)), .val (.ref b14), .val (.int (2 : Int32)), .val (.int (3 : Int32)), .val (.int (2 : Int32)), .val (.int (46 : Int32))] [(.ref b3)])) _
    refine XS.iloadN X21.here hx rfl (hb hby own_d_jdk_52_method_21_code_11) rfl ?_
    show Steps p.tables e below (T21.setTop (mkF m 12 #[.val (.ref b3), .val (.int (2 : Int32)), .val (.ref b14), .val (.int (2 : Int32)), .val (.int (3 : Int32)), .val (.int (2 : Int32)), .val (.int (46 : Int32))] [(.int (2 : Int32)), (.ref b3)])) _
    refine X21.caload hx (j := (2 : Int32)) (v := (.int (48 : Int32))) (by rw [e21]; exact Ar23.1) (State.isArrayOf_alike hZ.alike Ar23.2.1) Ar23.2.2 hin23 hat23 (g := (mkF m 12 #[.val (.ref b3), .val (.int (2 : Int32)), .val (.ref b14), .val (.int (2 : Int32)), .val (.int (3 : Int32)), .val (.int (2 : Int32)), .val (.int (46 : Int32))] [(.int (2 : Int32)), (.ref b3)])) rfl rfl (hb hby own_d_jdk_52_method_21_code_12) _ ?_
    show Steps p.tables e below (T21.setTop (mkF m 13 #[.val (.ref b3), .val (.int (2 : Int32)), .val (.ref b14), .val (.int (2 : Int32)), .val (.int (3 : Int32)), .val (.int (2 : Int32)), .val (.int (46 : Int32))] [(.int (48 : Int32))])) _
    refine XS.istore X21.here hx rfl (hb hby own_d_jdk_52_method_21_code_13) rfl (l' := #[.val (.ref b3), .val (.int (2 : Int32)), .val (.ref b14), .val (.int (2 : Int32)), .val (.int (3 : Int32)), .val (.int (2 : Int32)), .val (.int (48 : Int32))]) rfl ?_
    show Steps p.tables e below (T21.setTop (mkF m 15 #[.val (.ref b3), .val (.int (2 : Int32)), .val (.ref b14), .val (.int (2 : Int32)), .val (.int (3 : Int32)), .val (.int (2 : Int32)), .val (.int (48 : Int32))] [])) _
    refine XS.iload X21.here hx rfl (hb hby own_d_jdk_52_method_21_code_15) rfl ?_
    show Steps p.tables e below (T21.setTop (mkF m 17 #[.val (.ref b3), .val (.int (2 : Int32)), .val (.ref b14), .val (.int (2 : Int32)), .val (.int (3 : Int32)), .val (.int (2 : Int32)), .val (.int (48 : Int32))] [(.int (48 : Int32))])) _
    refine XS.sipush X21.here hx rfl (hb hby own_d_jdk_52_method_21_code_17) ?_
    show Steps p.tables e below (T21.setTop (mkF m 20 #[.val (.ref b3), .val (.int (2 : Int32)), .val (.ref b14), .val (.int (2 : Int32)), .val (.int (3 : Int32)), .val (.int (2 : Int32)), .val (.int (48 : Int32))] [(.int (255 : Int32)), (.int (48 : Int32))])) _
    refine XS.icmpYes X21.here hx rfl (pc0 := 20) (pc' := 26) rfl (hb hby own_d_jdk_52_method_21_code_20) rfl (flt (by decide : ¬ ((255 : Int32) < (48 : Int32)))).2.2.2 (by decide) (by decide) ?_
    show Steps p.tables e below (T21.setTop (mkF m 26 #[.val (.ref b3), .val (.int (2 : Int32)), .val (.ref b14), .val (.int (2 : Int32)), .val (.int (3 : Int32)), .val (.int (2 : Int32)), .val (.int (48 : Int32))] [])) _
    refine XS.aloadN X21.here hx rfl (hb hby own_d_jdk_52_method_21_code_26) rfl rfl ?_
    show Steps p.tables e below (T21.setTop (mkF m 27 #[.val (.ref b3), .val (.int (2 : Int32)), .val (.ref b14), .val (.int (2 : Int32)), .val (.int (3 : Int32)), .val (.int (2 : Int32)), .val (.int (48 : Int32))] [(.ref b14)])) _
    refine XS.iloadN X21.here hx rfl (hb hby own_d_jdk_52_method_21_code_27) rfl ?_
    show Steps p.tables e below (T21.setTop (mkF m 28 #[.val (.ref b3), .val (.int (2 : Int32)), .val (.ref b14), .val (.int (2 : Int32)), .val (.int (3 : Int32)), .val (.int (2 : Int32)), .val (.int (48 : Int32))] [(.int (2 : Int32)), (.ref b14)])) _
    refine XS.iload X21.here hx rfl (hb hby own_d_jdk_52_method_21_code_28) rfl ?_
    show Steps p.tables e below (T21.setTop (mkF m 30 #[.val (.ref b3), .val (.int (2 : Int32)), .val (.ref b14), .val (.int (2 : Int32)), .val (.int (3 : Int32)), .val (.int (2 : Int32)), .val (.int (48 : Int32))] [(.int (48 : Int32)), (.int (2 : Int32)), (.ref b14)])) _
    refine XS.i2b X21.here hx rfl (hb hby own_d_jdk_52_method_21_code_30) rfl ?_
    show Steps p.tables e below (T21.setTop (mkF m 31 #[.val (.ref b3), .val (.int (2 : Int32)), .val (.ref b14), .val (.int (2 : Int32)), .val (.int (3 : Int32)), .val (.int (2 : Int32)), .val (.int (48 : Int32))] [(.int (48 : Int32)), (.int (2 : Int32)), (.ref b14)])) _
    refine st25 _ ?_
    show Steps p.tables e below (T25.setTop (mkF m 32 #[.val (.ref b3), .val (.int (2 : Int32)), .val (.ref b14), .val (.int (2 : Int32)), .val (.int (3 : Int32)), .val (.int (2 : Int32)), .val (.int (48 : Int32))] [])) _
    refine XS.iinc X25.here hx rfl (hb hby own_d_jdk_52_method_21_code_32) rfl (l' := #[.val (.ref b3), .val (.int (3 : Int32)), .val (.ref b14), .val (.int (2 : Int32)), .val (.int (3 : Int32)), .val (.int (2 : Int32)), .val (.int (48 : Int32))]) rfl ?_
    show Steps p.tables e below (T25.setTop (mkF m 35 #[.val (.ref b3), .val (.int (3 : Int32)), .val (.ref b14), .val (.int (2 : Int32)), .val (.int (3 : Int32)), .val (.int (2 : Int32)), .val (.int (48 : Int32))] [])) _
    refine XS.iinc X25.here hx rfl (hb hby own_d_jdk_52_method_21_code_35) rfl (l' := #[.val (.ref b3), .val (.int (3 : Int32)), .val (.ref b14), .val (.int (3 : Int32)), .val (.int (3 : Int32)), .val (.int (2 : Int32)), .val (.int (48 : Int32))]) rfl ?_
    show Steps p.tables e below (T25.setTop (mkF m 38 #[.val (.ref b3), .val (.int (3 : Int32)), .val (.ref b14), .val (.int (3 : Int32)), .val (.int (3 : Int32)), .val (.int (2 : Int32)), .val (.int (48 : Int32))] [])) _
    refine XS.iinc X25.here hx rfl (hb hby own_d_jdk_52_method_21_code_38) rfl (l' := #[.val (.ref b3), .val (.int (3 : Int32)), .val (.ref b14), .val (.int (3 : Int32)), .val (.int (3 : Int32)), .val (.int (3 : Int32)), .val (.int (48 : Int32))]) rfl ?_
    show Steps p.tables e below (T25.setTop (mkF m 41 #[.val (.ref b3), .val (.int (3 : Int32)), .val (.ref b14), .val (.int (3 : Int32)), .val (.int (3 : Int32)), .val (.int (3 : Int32)), .val (.int (48 : Int32))] [])) _
    refine XS.goto X25.here hx rfl (pc0 := 41) (pc' := 3) rfl (hb hby own_d_jdk_52_method_21_code_41) (by decide) (by decide) ?_
    show Steps p.tables e below (T25.setTop (mkF m 3 #[.val (.ref b3), .val (.int (3 : Int32)), .val (.ref b14), .val (.int (3 : Int32)), .val (.int (3 : Int32)), .val (.int (3 : Int32)), .val (.int (48 : Int32))] [])) _
    refine XS.iload X25.here hx rfl (hb hby own_d_jdk_52_method_21_code_3) rfl ?_
    show Steps p.tables e below (T25.setTop (mkF m 5 #[.val (.ref b3), .val (.int (3 : Int32)), .val (.ref b14), .val (.int (3 : Int32)), .val (.int (3 : Int32)), .val (.int (3 : Int32)), .val (.int (48 : Int32))] [(.int (3 : Int32))])) _
    refine XS.iload X25.here hx rfl (hb hby own_d_jdk_52_method_21_code_5) rfl ?_
    show Steps p.tables e below (T25.setTop (mkF m 7 #[.val (.ref b3), .val (.int (3 : Int32)), .val (.ref b14), .val (.int (3 : Int32)), .val (.int (3 : Int32)), .val (.int (3 : Int32)), .val (.int (48 : Int32))] [(.int (3 : Int32)), (.int (3 : Int32))])) _
    refine XS.icmpYes X25.here hx rfl (pc0 := 7) (pc' := 44) rfl (hb hby own_d_jdk_52_method_21_code_7) rfl (flt (by decide : ¬ ((3 : Int32) < (3 : Int32)))).2.1 (by decide) (by decide) ?_
    show Steps p.tables e below (T25.setTop (mkF m 44 #[.val (.ref b3), .val (.int (3 : Int32)), .val (.ref b14), .val (.int (3 : Int32)), .val (.int (3 : Int32)), .val (.int (3 : Int32)), .val (.int (48 : Int32))] [])) _
    refine XS.iload X25.here hx rfl (hb hby own_d_jdk_52_method_21_code_44) rfl ?_
    show Steps p.tables e below (T25.setTop (mkF m 46 #[.val (.ref b3), .val (.int (3 : Int32)), .val (.ref b14), .val (.int (3 : Int32)), .val (.int (3 : Int32)), .val (.int (3 : Int32)), .val (.int (48 : Int32))] [(.int (3 : Int32))])) _
    exact retI X25 hx Bd.returns (hb hby own_d_jdk_52_method_21_code_46) hr
  · show Q_rm4 Z p1 A K cs b3 b14 k14 k3 h0 n0 _ T25.heap _
    rw [e25]
    exact ⟨rfl, NF25, KK25, V25⟩
def Q_rm3 (Z : State) (p1 : Int32) (A : Nat → Addr) (K : Nat → ClassId) (cs : Int32) (b3 : Addr) (b10 : Addr) (k3 : ClassId) (h0 : Heap) (n0 : Nat) (v : Option Value) (h : Heap) (L : List Loc) : Prop := ∃ b14 : Addr, ∃ k14 : ClassId, v = (some (.ref b14)) ∧ Fr n0 L ∧ Keep h0 h [] ∧ (n0 ≤ b14 ∧ h0.size ≤ b14) ∧ (Arv Z h b14 k14 .byte (3 : Int32) [(.int (51 : Int32)), (.int (46 : Int32)), (.int (48 : Int32))] (.int (0 : Int32)))
theorem own_d_jdk_52_method_16_code_0 : decode jdk_52_method_16_code 0 = .ok (.iload_n 2, 1) := by decide +kernel
theorem own_d_jdk_52_method_16_code_1 : decode jdk_52_method_16_code 1 = .ok (.newarray .byte, 2) := by decide +kernel
theorem own_d_jdk_52_method_16_code_3 : decode jdk_52_method_16_code 3 = .ok (.astore_n 3, 1) := by decide +kernel
theorem own_d_jdk_52_method_16_code_4 : decode jdk_52_method_16_code 4 = .ok (.aload_n 0, 1) := by decide +kernel
theorem own_d_jdk_52_method_16_code_5 : decode jdk_52_method_16_code 5 = .ok (.iload_n 1, 1) := by decide +kernel
theorem own_d_jdk_52_method_16_code_6 : decode jdk_52_method_16_code 6 = .ok (.aload_n 3, 1) := by decide +kernel
theorem own_d_jdk_52_method_16_code_7 : decode jdk_52_method_16_code 7 = .ok (.iconst 0, 1) := by decide +kernel
theorem own_d_jdk_52_method_16_code_8 : decode jdk_52_method_16_code 8 = .ok (.iload_n 2, 1) := by decide +kernel
theorem own_d_jdk_52_method_16_code_9 : decode jdk_52_method_16_code 9 = .ok (.invokestatic 115, 3) := by decide +kernel
theorem own_d_jdk_52_method_16_code_12 : decode jdk_52_method_16_code 12 = .ok (.istore 4, 2) := by decide +kernel
theorem own_d_jdk_52_method_16_code_14 : decode jdk_52_method_16_code 14 = .ok (.iload 4, 2) := by decide +kernel
theorem own_d_jdk_52_method_16_code_16 : decode jdk_52_method_16_code 16 = .ok (.iload_n 2, 1) := by decide +kernel
theorem own_d_jdk_52_method_16_code_17 : decode jdk_52_method_16_code 17 = .ok (.if_icmp .eq 40, 3) := by decide +kernel
theorem own_d_jdk_52_method_16_code_57 : decode jdk_52_method_16_code 57 = .ok (.aload_n 3, 1) := by decide +kernel
theorem own_d_jdk_52_method_16_code_58 : decode jdk_52_method_16_code 58 = .ok (.areturn, 1) := by decide +kernel
theorem own_ef_rm3 (m : MethodId) (p1 : Int32) (A : Nat → Addr) (K : Nat → ClassId) (cs : Int32)  (b3 : Addr) (b10 : Addr) (k3 : ClassId) : entryFrame m #[(.ref b3), (.int (0 : Int32)), (.int (3 : Int32))] 6 = mkF m 0 #[.val (.ref b3), .val (.int (0 : Int32)), .val (.int (3 : Int32)), .unset, .unset, .unset] [] := by first | (simp [entryFrame, mkF, argsToLocals, Value.category, maxLocals]; done) | rfl
set_option maxRecDepth 65536 in
set_option maxHeartbeats 40000000 in
theorem rm3 (l : Launch) (Z : State) (a0 : Array Value) (hw : ∀ d ∈ tables_1, d.before a0 Z = true) (ws : List Jvm.Cond) (h0 : Heap) (n0 : Nat) (p1 : Int32) (A : Nat → Addr) (K : Nat → ClassId) (cs : Int32)  (b3 : Addr) (b10 : Addr) (k3 : ClassId) (EN : own_St Z A K cs) (OL0 : Old Z n0 h0) (G_A_b3 : Arv Z h0 b3 k3 .char (3 : Int32) [(.int (51 : Int32)), (.int (46 : Int32)), (.int (48 : Int32))] (.int (0 : Int32))) (G_E_b10 : Exa Z h0 b10 "java/lang/String") :
    MetFree l own_m4 (head1 (Jvm.Cond.code own_m4 jdk_52_method_16_code 6 (some (.array .byte)) :: ws) ({ frames := 1, cells := 1, slots := 3, locals := 18 } : Room)) (fun a U => a = #[(.ref b3), (.int (0 : Int32)), (.int (3 : Int32))] ∧ Z.Warmed39 U.vm ∧ U.heap = h0) (fun _ _ _ _ _ => True) (fun _ U o U' => ∃ v L, o = .returned v ∧ Q_rm3 Z p1 A K cs b3 b10 k3 h0 n0 v U'.heap L ∧ FrameEnd U o U' L ({ frames := 1, cells := 1, slots := 3, locals := 18 } : Room).cells ({ frames := 1, cells := 1, slots := 3, locals := 18 } : Room).slots) := by
  refine MetFree.of_bodySF (plainFor_of_name own_pn0) hisR ?_
  intro p e s m args below meth c s₁ Bd hml0 hP hK
  obtain ⟨rfl, hZ, hh⟩ := hP
  have hx := Bd.exec
  have hby := Bd.bytes
  have hml : c.maxLocals = 6 := hml0
  have hown : s.vm.findClass "java/lang/StringUTF16" = some m.cls := findClass_of_methodNamed Bd.named
  have hnm := (name_of_methodNamed Bd.named Bd.method).1
  have X0 : Stand p l e ({ frames := 1, cells := 1, slots := 3, locals := 18 } : Room) s m #[(.ref b3), (.int (0 : Int32)), (.int (3 : Int32))] below meth c s₁ [] 0 0 := Stand.of_body Bd
  have e0 : s₁.heap = h0 := by rw [← hh, Bd.state]; rfl
  have N0 := Fr.nil n0
  have pre0 : ∀ t, Steps p.tables e below (s₁.setTop (mkF m 0 #[.val (.ref b3), .val (.int (0 : Int32)), .val (.int (3 : Int32)), .unset, .unset, .unset] [])) t → Steps p.tables e below (s₁.setTop (entryFrame m #[(.ref b3), (.int (0 : Int32)), (.int (3 : Int32))] 6)) t := fun t k => castTop (own_ef_rm3 m p1 A K cs b3 b10 k3) k
  have KK0 : Keep h0 h0 [] := Keep.refl _ _
  obtain ⟨T14, h14, k14, X14, e14, E14, A14, st14⟩ := newP X0 hx hZ (hw _ (List.mem_of_getElem? (i := 19) rfl)) e0 (g := (mkF m 1 #[.val (.ref b3), .val (.int (0 : Int32)), .val (.int (3 : Int32)), .unset, .unset, .unset] [(.int (3 : Int32))])) rfl (hb hby own_d_jdk_52_method_16_code_1) rfl (by decide) (cap := 3) (by decide) (by decide) (by decide) (by decide)
  obtain ⟨b14, g14⟩ : ∃ z, z = h0.size := ⟨_, rfl⟩
  rw [← g14] at A14 st14
  have gn_b14 : n0 ≤ b14 := Nat.le_trans (OL0.1 ▸ OL0.2.1) (Nat.le_of_eq g14.symm)
  have sz_b14 : h0.size ≤ b14 := Nat.le_trans KK0.1 (Nat.le_of_eq g14.symm)
  have lt_b3_b14 : b3 < b14 := Nat.lt_of_lt_of_le G_A_b3.lt (Nat.le_of_eq g14.symm)
  have lt_b10_b14 : b10 < b14 := Nat.lt_of_lt_of_le G_E_b10.lt (Nat.le_of_eq g14.symm)
  have OL14 : Old Z n0 h14 := OL0.ext E14
  have KK14 : Keep h0 h14 [] := KK0.ext E14
  have V14 : Arv Z h14 b14 k14 .byte (3 : Int32) [] (.int (0 : Int32)) := Arv.new A14 (by decide)
  have fx26 : Arv Z h14 b3 k3 .char (3 : Int32) [(.int (51 : Int32)), (.int (46 : Int32)), (.int (48 : Int32))] (.int (0 : Int32)) := (G_A_b3.ext E14)
  obtain ⟨_, _, ⟨T27, L27, k27, n27⟩, -, X27, ⟨Lc27, hQ27, l27, y27, z27⟩, st27⟩ := Jvm.LawKit.callS X14 hx (y := own_m3) hown (mvT hZ (hw _ (List.mem_of_getElem? (i := 20) rfl))) (mvT hZ (hw _ (List.mem_of_getElem? (i := 21) rfl))) (mvT hZ (hw _ (List.mem_of_getElem? (i := 17) rfl))) (mvT hZ (hw _ (List.mem_of_getElem? (i := 22) rfl))) (by decide) (backOf (W := 0) (rm4 l Z a0 hw [] h14 n0 p1 A K cs b3 b14 k14 k3 EN OL14 fx26 V14 (Nat.ne_of_lt lt_b3_b14) gn_b14) hZ (hw _ (List.mem_of_getElem? (i := 22) rfl)) (hw _ (List.mem_of_getElem? (i := 17) rfl)) (by decide) (by decide)) (g := (mkF m 9 #[.val (.ref b3), .val (.int (0 : Int32)), .val (.int (3 : Int32)), .val (.ref b14), .unset, .unset] [(.int (3 : Int32)), (.int (0 : Int32)), (.ref b14), (.int (0 : Int32)), (.ref b3)])) rfl (by rw [hml]; rfl) (argsL := [(.ref b3), (.int (0 : Int32)), (.ref b14), (.int (0 : Int32)), (.int (3 : Int32))]) (rest := []) (lenOf own_pd0 rfl) rfl (by show 2 * 0 + _ ≤ _; exact Nat.le_of_eq rfl) (hb hby own_d_jdk_52_method_16_code_9) (fun _ _ => ⟨rfl, e14, (by decide : 1 + 0 ≤ _), (by decide : 3 + 0 ≤ _)⟩)
  dsimp only [Pt.U, Pt.locs, Pt.cells, Pt.slots] at X27 l27 y27 z27 st27 hQ27
  subst l27 y27 z27
  obtain ⟨rfl, N27q, K27c, f27_0⟩ := hQ27
  have N27 := Fr.app N0 N27q
  have OL27 : Old Z n0 T27.heap := OL14.keep K27c (allS gn_b14 all0)
  have KK27 : Keep h0 T27.heap [] := KK14.trans K27c (allS (Or.inr sz_b14) all0)
  obtain ⟨fs, hr, hrun, hended, hW, hsame⟩ := X27.leave (v := some (.ref b14)) (fun h => by rw [Bd.returns] at h; cases h)
  refine ⟨_, _, pre0 _ ?_, hrun, hended, _, _, rfl, ?_, ⟨_, rfl⟩, hW, hsame.mono (by decide) (by decide)⟩
  · show Steps p.tables e below (s₁.setTop (mkF m 0 #[.val (.ref b3), .val (.int (0 : Int32)), .val (.int (3 : Int32)), .unset, .unset, .unset] [])) _
    refine XS.iloadN X0.here hx rfl (hb hby own_d_jdk_52_method_16_code_0) rfl ?_
    show Steps p.tables e below (s₁.setTop (mkF m 1 #[.val (.ref b3), .val (.int (0 : Int32)), .val (.int (3 : Int32)), .unset, .unset, .unset] [(.int (3 : Int32))])) _
    refine st14 _ ?_
    show Steps p.tables e below (T14.setTop (mkF m 3 #[.val (.ref b3), .val (.int (0 : Int32)), .val (.int (3 : Int32)), .unset, .unset, .unset] [(.ref b14)])) _
    refine XS.astoreN X14.here hx rfl (hb hby own_d_jdk_52_method_16_code_3) rfl rfl (l' := #[.val (.ref b3), .val (.int (0 : Int32)), .val (.int (3 : Int32)), .val (.ref b14), .unset, .unset]) rfl ?_
    show Steps p.tables e below (T14.setTop (mkF m 4 #[.val (.ref b3), .val (.int (0 : Int32)), .val (.int (3 : Int32)), .val (.ref b14), .unset, .unset] [])) _
    refine XS.aloadN X14.here hx rfl (hb hby own_d_jdk_52_method_16_code_4) rfl rfl ?_
    show Steps p.tables e below (T14.setTop (mkF m 5 #[.val (.ref b3), .val (.int (0 : Int32)), .val (.int (3 : Int32)), .val (.ref b14), .unset, .unset] [(.ref b3)])) _
    refine XS.iloadN X14.here hx rfl (hb hby own_d_jdk_52_method_16_code_5) rfl ?_
    show Steps p.tables e below (T14.setTop (mkF m 6 #[.val (.ref b3), .val (.int (0 : Int32)), .val (.int (3 : Int32)), .val (.ref b14), .unset, .unset] [(.int (0 : Int32)), (.ref b3)])) _
    refine XS.aloadN X14.here hx rfl (hb hby own_d_jdk_52_method_16_code_6) rfl rfl ?_
    show Steps p.tables e below (T14.setTop (mkF m 7 #[.val (.ref b3), .val (.int (0 : Int32)), .val (.int (3 : Int32)), .val (.ref b14), .unset, .unset] [(.ref b14), (.int (0 : Int32)), (.ref b3)])) _
    refine XS.iconst X14.here hx rfl (hb hby own_d_jdk_52_method_16_code_7) ?_
    show Steps p.tables e below (T14.setTop (mkF m 8 #[.val (.ref b3), .val (.int (0 : Int32)), .val (.int (3 : Int32)), .val (.ref b14), .unset, .unset] [(.int (0 : Int32)), (.ref b14), (.int (0 : Int32)), (.ref b3)])) _
    refine XS.iloadN X14.here hx rfl (hb hby own_d_jdk_52_method_16_code_8) rfl ?_
    show Steps p.tables e below (T14.setTop (mkF m 9 #[.val (.ref b3), .val (.int (0 : Int32)), .val (.int (3 : Int32)), .val (.ref b14), .unset, .unset] [(.int (3 : Int32)), (.int (0 : Int32)), (.ref b14), (.int (0 : Int32)), (.ref b3)])) _
    refine st27 _ ?_
    show Steps p.tables e below (T27.setTop (mkF m 12 #[.val (.ref b3), .val (.int (0 : Int32)), .val (.int (3 : Int32)), .val (.ref b14), .unset, .unset] [(.int (3 : Int32))])) _
    refine XS.istore X27.here hx rfl (hb hby own_d_jdk_52_method_16_code_12) rfl (l' := #[.val (.ref b3), .val (.int (0 : Int32)), .val (.int (3 : Int32)), .val (.ref b14), .val (.int (3 : Int32)), .unset]) rfl ?_
    show Steps p.tables e below (T27.setTop (mkF m 14 #[.val (.ref b3), .val (.int (0 : Int32)), .val (.int (3 : Int32)), .val (.ref b14), .val (.int (3 : Int32)), .unset] [])) _
    refine XS.iload X27.here hx rfl (hb hby own_d_jdk_52_method_16_code_14) rfl ?_
    show Steps p.tables e below (T27.setTop (mkF m 16 #[.val (.ref b3), .val (.int (0 : Int32)), .val (.int (3 : Int32)), .val (.ref b14), .val (.int (3 : Int32)), .unset] [(.int (3 : Int32))])) _
    refine XS.iloadN X27.here hx rfl (hb hby own_d_jdk_52_method_16_code_16) rfl ?_
    show Steps p.tables e below (T27.setTop (mkF m 17 #[.val (.ref b3), .val (.int (0 : Int32)), .val (.int (3 : Int32)), .val (.ref b14), .val (.int (3 : Int32)), .unset] [(.int (3 : Int32)), (.int (3 : Int32))])) _
    refine XS.icmpYes X27.here hx rfl (pc0 := 17) (pc' := 57) rfl (hb hby own_d_jdk_52_method_16_code_17) rfl (teq (by decide : (3 : Int32) = (3 : Int32))).1 (by decide) (by decide) ?_
    show Steps p.tables e below (T27.setTop (mkF m 57 #[.val (.ref b3), .val (.int (0 : Int32)), .val (.int (3 : Int32)), .val (.ref b14), .val (.int (3 : Int32)), .unset] [])) _
    refine XS.aloadN X27.here hx rfl (hb hby own_d_jdk_52_method_16_code_57) rfl rfl ?_
    show Steps p.tables e below (T27.setTop (mkF m 58 #[.val (.ref b3), .val (.int (0 : Int32)), .val (.int (3 : Int32)), .val (.ref b14), .val (.int (3 : Int32)), .unset] [(.ref b14)])) _
    exact retOut X27 hx Bd.returns rfl (Or.inr (Or.inr (Or.inr (Or.inr ⟨rfl, rfl, rfl⟩)))) (hb hby own_d_jdk_52_method_16_code_58) hr
  · show Q_rm3 Z p1 A K cs b3 b10 k3 h0 n0 _ T27.heap _
    exact ⟨b14, k14, rfl, N27, KK27, ⟨gn_b14, sz_b14⟩, f27_0⟩
theorem own_d_jdk_52_method_15_code_0 : decode jdk_52_method_15_code 0 = .ok (.iload_n 1, 1) := by decide +kernel
theorem own_d_jdk_52_method_15_code_1 : decode jdk_52_method_15_code 1 = .ok (.aload_n 0, 1) := by decide +kernel
theorem own_d_jdk_52_method_15_code_2 : decode jdk_52_method_15_code 2 = .ok (.arraylength, 1) := by decide +kernel
theorem own_d_jdk_52_method_15_code_3 : decode jdk_52_method_15_code 3 = .ok (.isub, 1) := by decide +kernel
theorem own_d_jdk_52_method_15_code_4 : decode jdk_52_method_15_code 4 = .ok (.bipush 31, 2) := by decide +kernel
theorem own_d_jdk_52_method_15_code_6 : decode jdk_52_method_15_code 6 = .ok (.iushr, 1) := by decide +kernel
theorem own_d_jdk_52_method_15_code_7 : decode jdk_52_method_15_code 7 = .ok (.i2b, 1) := by decide +kernel
theorem own_d_jdk_52_method_15_code_8 : decode jdk_52_method_15_code 8 = .ok (.ireturn, 1) := by decide +kernel
theorem own_ef_rm5 (m : MethodId) (p1 : Int32) (A : Nat → Addr) (K : Nat → ClassId) (cs : Int32)  (b28_b14 : Addr) (k28_k14 : ClassId) : entryFrame m #[(.ref b28_b14), (.int (3 : Int32))] 2 = mkF m 0 #[.val (.ref b28_b14), .val (.int (3 : Int32))] [] := by first | (simp [entryFrame, mkF, argsToLocals, Value.category, maxLocals]; done) | rfl
set_option maxRecDepth 65536 in
set_option maxHeartbeats 40000000 in
theorem rm5 (l : Launch) (Z : State) (a0 : Array Value) (hw : ∀ d ∈ tables_1, d.before a0 Z = true) (ws : List Jvm.Cond) (h0 : Heap) (n0 : Nat) (p1 : Int32) (A : Nat → Addr) (K : Nat → ClassId) (cs : Int32)  (b28_b14 : Addr) (k28_k14 : ClassId) (EN : own_St Z A K cs) (OL0 : Old Z n0 h0) (G_A_b28_b14 : Arv Z h0 b28_b14 k28_k14 .byte (3 : Int32) [(.int (51 : Int32)), (.int (46 : Int32)), (.int (48 : Int32))] (.int (0 : Int32))) :
    MetFree l own_m5 (head1 (Jvm.Cond.code own_m5 jdk_52_method_15_code 2 (some .byte) :: ws) ({ frames := 0, cells := 0, slots := 0, locals := 0 } : Room)) (fun a U => a = #[(.ref b28_b14), (.int (3 : Int32))] ∧ Z.Warmed39 U.vm ∧ U.heap = h0) (fun _ _ _ _ _ => True) (fun _ U o U' => ∃ v L, o = .returned v ∧ (PQ (some (.int (0 : Int32))) h0 n0) v U'.heap L ∧ FrameEnd U o U' L ({ frames := 0, cells := 0, slots := 0, locals := 0 } : Room).cells ({ frames := 0, cells := 0, slots := 0, locals := 0 } : Room).slots) := by
  refine MetFree.of_bodySF (plainFor_of_name own_pn0) hisR ?_
  intro p e s m args below meth c s₁ Bd hml0 hP hK
  obtain ⟨rfl, hZ, hh⟩ := hP
  have hx := Bd.exec
  have hby := Bd.bytes
  have hml : c.maxLocals = 2 := hml0
  have hown : s.vm.findClass "java/lang/StringUTF16" = some m.cls := findClass_of_methodNamed Bd.named
  have hnm := (name_of_methodNamed Bd.named Bd.method).1
  have X0 : Stand p l e ({ frames := 0, cells := 0, slots := 0, locals := 0 } : Room) s m #[(.ref b28_b14), (.int (3 : Int32))] below meth c s₁ [] 0 0 := Stand.of_body Bd
  have e0 : s₁.heap = h0 := by rw [← hh, Bd.state]; rfl
  have N0 := Fr.nil n0
  have pre0 : ∀ t, Steps p.tables e below (s₁.setTop (mkF m 0 #[.val (.ref b28_b14), .val (.int (3 : Int32))] [])) t → Steps p.tables e below (s₁.setTop (entryFrame m #[(.ref b28_b14), (.int (3 : Int32))] 2)) t := fun t k => castTop (own_ef_rm5 m p1 A K cs b28_b14 k28_k14) k
  have KK0 : Keep h0 h0 [] := Keep.refl _ _
  obtain ⟨cl29, Ar29, -, Sz29, Nn29, -, -⟩ := (id G_A_b28_b14)
  obtain ⟨fs, hr, hrun, hended, hW, hsame⟩ := X0.leave (v := some (.int (0 : Int32))) (fun h => by rw [Bd.returns] at h; cases h)
  refine ⟨_, _, pre0 _ ?_, hrun, hended, _, _, rfl, ?_, ⟨_, rfl⟩, hW, hsame.mono (by decide) (by decide)⟩
  · show Steps p.tables e below (s₁.setTop (mkF m 0 #[.val (.ref b28_b14), .val (.int (3 : Int32))] [])) _
    refine XS.iloadN X0.here hx rfl (hb hby own_d_jdk_52_method_15_code_0) rfl ?_
    show Steps p.tables e below (s₁.setTop (mkF m 1 #[.val (.ref b28_b14), .val (.int (3 : Int32))] [(.int (3 : Int32))])) _
    refine XS.aloadN X0.here hx rfl (hb hby own_d_jdk_52_method_15_code_1) rfl rfl ?_
    show Steps p.tables e below (s₁.setTop (mkF m 2 #[.val (.ref b28_b14), .val (.int (3 : Int32))] [(.ref b28_b14), (.int (3 : Int32))])) _
    refine X0.arraylength hx (by rw [e0]; exact Ar29.1) (State.isArrayOf_alike hZ.alike Ar29.2.1) (g := (mkF m 2 #[.val (.ref b28_b14), .val (.int (3 : Int32))] [(.ref b28_b14), (.int (3 : Int32))])) rfl rfl (hb hby own_d_jdk_52_method_15_code_2) _ ?_
    rw [len_of Sz29 Nn29]
    show Steps p.tables e below (s₁.setTop (mkF m 3 #[.val (.ref b28_b14), .val (.int (3 : Int32))] [(.int (3 : Int32)), (.int (3 : Int32))])) _
    refine XS.isub X0.here hx rfl (hb hby own_d_jdk_52_method_15_code_3) rfl ?_
    show Steps p.tables e below (s₁.setTop (mkF m 4 #[.val (.ref b28_b14), .val (.int (3 : Int32))] [(.int (0 : Int32))])) _
    refine XS.bipush X0.here hx rfl (hb hby own_d_jdk_52_method_15_code_4) ?_
    show Steps p.tables e below (s₁.setTop (mkF m 6 #[.val (.ref b28_b14), .val (.int (3 : Int32))] [(.int (31 : Int32)), (.int (0 : Int32))])) _
    refine XS.iushr X0.here hx rfl (hb hby own_d_jdk_52_method_15_code_6) rfl ?_
    show Steps p.tables e below (s₁.setTop (mkF m 7 #[.val (.ref b28_b14), .val (.int (3 : Int32))] [(.int (0 : Int32))])) _
    refine XS.i2b X0.here hx rfl (hb hby own_d_jdk_52_method_15_code_7) rfl ?_
    show Steps p.tables e below (s₁.setTop (mkF m 8 #[.val (.ref b28_b14), .val (.int (3 : Int32))] [(.int (0 : Int32))])) _
    exact retN X0 hx (t := .byte) Bd.returns (by simp) (hb hby own_d_jdk_52_method_15_code_8) hr
  · show PQ (some (.int (0 : Int32))) h0 n0 _ s₁.heap _
    rw [e0]
    exact ⟨rfl, N0, rfl⟩
def Q_rm2 (Z : State) (p1 : Int32) (A : Nat → Addr) (K : Nat → ClassId) (cs : Int32) (b3 : Addr) (b10 : Addr) (k3 : ClassId) (h0 : Heap) (n0 : Nat) (v : Option Value) (h : Heap) (L : List Loc) : Prop := ∃ b28_b14 : Addr, ∃ k28_k14 : ClassId, v = none ∧ Fr n0 L ∧ Keep h0 h [b10] ∧ (n0 ≤ b28_b14 ∧ h0.size ≤ b28_b14) ∧ (Exa Z h b10 "java/lang/String") ∧ (Fld Z h b10 "java/lang/String" "coder" "B" (.int (0 : Int32))) ∧ (Fld Z h b10 "java/lang/String" "value" "[B" (.ref b28_b14)) ∧ (Arv Z h b28_b14 k28_k14 .byte (3 : Int32) [(.int (51 : Int32)), (.int (46 : Int32)), (.int (48 : Int32))] (.int (0 : Int32)))
theorem own_d_jdk_42_method_149_code_0 : decode jdk_42_method_149_code 0 = .ok (.aload_n 0, 1) := by decide +kernel
theorem own_d_jdk_42_method_149_code_1 : decode jdk_42_method_149_code 1 = .ok (.invokespecial 1, 3) := by decide +kernel
theorem own_d_jdk_42_method_149_code_4 : decode jdk_42_method_149_code 4 = .ok (.iload_n 3, 1) := by decide +kernel
theorem own_d_jdk_42_method_149_code_5 : decode jdk_42_method_149_code 5 = .ok (.ifCond .ne 22, 3) := by decide +kernel
theorem own_d_jdk_42_method_149_code_27 : decode jdk_42_method_149_code 27 = .ok (.getstatic 38, 3) := by decide +kernel
theorem own_d_jdk_42_method_149_code_30 : decode jdk_42_method_149_code 30 = .ok (.ifCond .eq 28, 3) := by decide +kernel
theorem own_d_jdk_42_method_149_code_33 : decode jdk_42_method_149_code 33 = .ok (.aload_n 1, 1) := by decide +kernel
theorem own_d_jdk_42_method_149_code_34 : decode jdk_42_method_149_code 34 = .ok (.iload_n 2, 1) := by decide +kernel
theorem own_d_jdk_42_method_149_code_35 : decode jdk_42_method_149_code 35 = .ok (.iload_n 3, 1) := by decide +kernel
theorem own_d_jdk_42_method_149_code_36 : decode jdk_42_method_149_code 36 = .ok (.invokestatic 177, 3) := by decide +kernel
theorem own_d_jdk_42_method_149_code_39 : decode jdk_42_method_149_code 39 = .ok (.astore 5, 2) := by decide +kernel
theorem own_d_jdk_42_method_149_code_41 : decode jdk_42_method_149_code 41 = .ok (.aload_n 0, 1) := by decide +kernel
theorem own_d_jdk_42_method_149_code_42 : decode jdk_42_method_149_code 42 = .ok (.aload 5, 2) := by decide +kernel
theorem own_d_jdk_42_method_149_code_44 : decode jdk_42_method_149_code 44 = .ok (.iload_n 3, 1) := by decide +kernel
theorem own_d_jdk_42_method_149_code_45 : decode jdk_42_method_149_code 45 = .ok (.invokestatic 47, 3) := by decide +kernel
theorem own_d_jdk_42_method_149_code_48 : decode jdk_42_method_149_code 48 = .ok (.putfield 15, 3) := by decide +kernel
theorem own_d_jdk_42_method_149_code_51 : decode jdk_42_method_149_code 51 = .ok (.aload_n 0, 1) := by decide +kernel
theorem own_d_jdk_42_method_149_code_52 : decode jdk_42_method_149_code 52 = .ok (.aload 5, 2) := by decide +kernel
theorem own_d_jdk_42_method_149_code_54 : decode jdk_42_method_149_code 54 = .ok (.putfield 9, 3) := by decide +kernel
theorem own_d_jdk_42_method_149_code_57 : decode jdk_42_method_149_code 57 = .ok (.return_, 1) := by decide +kernel
theorem own_pn1 : plainName "java/lang/String" = true := by first | (simp [plainName, overriddenIn]; done) | decide +kernel
theorem own_ef_rm2 (m : MethodId) (p1 : Int32) (A : Nat → Addr) (K : Nat → ClassId) (cs : Int32)  (b3 : Addr) (b10 : Addr) (k3 : ClassId) : entryFrame m #[(.ref b10), (.ref b3), (.int (0 : Int32)), (.int (3 : Int32)), .null] 6 = mkF m 0 #[.val (.ref b10), .val (.ref b3), .val (.int (0 : Int32)), .val (.int (3 : Int32)), .val .null, .unset] [] := by first | (simp [entryFrame, mkF, argsToLocals, Value.category, maxLocals]; done) | rfl
set_option maxRecDepth 65536 in
set_option maxHeartbeats 40000000 in
theorem rm2 (l : Launch) (Z : State) (a0 : Array Value) (hw : ∀ d ∈ tables_1, d.before a0 Z = true) (ws : List Jvm.Cond) (h0 : Heap) (n0 : Nat) (p1 : Int32) (A : Nat → Addr) (K : Nat → ClassId) (cs : Int32)  (b3 : Addr) (b10 : Addr) (k3 : ClassId) (EN : own_St Z A K cs) (OL0 : Old Z n0 h0) (G_A_b3 : Arv Z h0 b3 k3 .char (3 : Int32) [(.int (51 : Int32)), (.int (46 : Int32)), (.int (48 : Int32))] (.int (0 : Int32))) (G_E_b10 : Exa Z h0 b10 "java/lang/String") (G_F_b10_java_lang_String_coder : Fld Z h0 b10 "java/lang/String" "coder" "B" (.int (0 : Int32))) (G_F_b10_java_lang_String_value : Fld Z h0 b10 "java/lang/String" "value" "[B" .null) (gn_b10 : n0 ≤ b10) :
    MetFree l own_m6 (head1 (Jvm.Cond.code own_m6 jdk_42_method_149_code 6 none :: ws) ({ frames := 2, cells := 1, slots := 3, locals := 35 } : Room)) (fun a U => a = #[(.ref b10), (.ref b3), (.int (0 : Int32)), (.int (3 : Int32)), .null] ∧ Z.Warmed39 U.vm ∧ U.heap = h0) (fun _ _ _ _ _ => True) (fun _ U o U' => ∃ v L, o = .returned v ∧ Q_rm2 Z p1 A K cs b3 b10 k3 h0 n0 v U'.heap L ∧ FrameEnd U o U' L ({ frames := 2, cells := 1, slots := 3, locals := 35 } : Room).cells ({ frames := 2, cells := 1, slots := 3, locals := 35 } : Room).slots) := by
  refine MetFree.of_bodySF (plainFor_of_name own_pn1) hisR ?_
  intro p e s m args below meth c s₁ Bd hml0 hP hK
  obtain ⟨rfl, hZ, hh⟩ := hP
  have hx := Bd.exec
  have hby := Bd.bytes
  have hml : c.maxLocals = 6 := hml0
  have hown : s.vm.findClass "java/lang/String" = some m.cls := findClass_of_methodNamed Bd.named
  have hnm := (name_of_methodNamed Bd.named Bd.method).1
  have X0 : Stand p l e ({ frames := 2, cells := 1, slots := 3, locals := 35 } : Room) s m #[(.ref b10), (.ref b3), (.int (0 : Int32)), (.int (3 : Int32)), .null] below meth c s₁ [] 0 0 := Stand.of_body Bd
  have e0 : s₁.heap = h0 := by rw [← hh, Bd.state]; rfl
  have N0 := Fr.nil n0
  have pre0 : ∀ t, Steps p.tables e below (s₁.setTop (mkF m 0 #[.val (.ref b10), .val (.ref b3), .val (.int (0 : Int32)), .val (.int (3 : Int32)), .val .null, .unset] [])) t → Steps p.tables e below (s₁.setTop (entryFrame m #[(.ref b10), (.ref b3), (.int (0 : Int32)), (.int (3 : Int32)), .null] 6)) t := fun t k => castTop (own_ef_rm2 m p1 A K cs b3 b10 k3) k
  have KK0 : Keep h0 h0 [b10] := Keep.refl _ _
  obtain ⟨T12, X12, e12, st12⟩ := initO X0 hx hZ hown (hw _ (List.mem_of_getElem? (i := 11) rfl)) (hw _ (List.mem_of_getElem? (i := 12) rfl)) (hw _ (List.mem_of_getElem? (i := 13) rfl)) e0 (g := (mkF m 1 #[.val (.ref b10), .val (.ref b3), .val (.int (0 : Int32)), .val (.int (3 : Int32)), .val .null, .unset] [(.ref b10)])) rfl (by rw [hml]; rfl) rfl (hb hby own_d_jdk_42_method_149_code_1) (by decide) (W := 0) (by show 2 * 0 + _ ≤ _; exact Nat.le_of_eq rfl) (by decide)
  obtain ⟨T13, X13, e13, st13⟩ := getS2 X12 hx hZ hown (host := "") (Or.inl (hw _ (List.mem_of_getElem? (i := 14) rfl))) Via.refl e12 (EN.2.2.2.1.2.2.2.1.ext OL0.2) (g := (mkF m 27 #[.val (.ref b10), .val (.ref b3), .val (.int (0 : Int32)), .val (.int (3 : Int32)), .val .null, .unset] [])) rfl (hb hby own_d_jdk_42_method_149_code_27)
  obtain ⟨_, _, ⟨T28, L28, k28, n28⟩, -, X28, ⟨Lc28, hQ28, l28, y28, z28⟩, st28⟩ := Jvm.LawKit.callS X13 hx (y := own_m4) hown (mvT hZ (hw _ (List.mem_of_getElem? (i := 15) rfl))) (mvT hZ (hw _ (List.mem_of_getElem? (i := 16) rfl))) (mvT hZ (hw _ (List.mem_of_getElem? (i := 17) rfl))) (mvT hZ (hw _ (List.mem_of_getElem? (i := 18) rfl))) (by decide) (backOf (W := 0) (rm3 l Z a0 hw [] h0 n0 p1 A K cs b3 b10 k3 EN OL0 G_A_b3 G_E_b10) hZ (hw _ (List.mem_of_getElem? (i := 18) rfl)) (hw _ (List.mem_of_getElem? (i := 17) rfl)) (by decide) (by decide)) (g := (mkF m 36 #[.val (.ref b10), .val (.ref b3), .val (.int (0 : Int32)), .val (.int (3 : Int32)), .val .null, .unset] [(.int (3 : Int32)), (.int (0 : Int32)), (.ref b3)])) rfl (by rw [hml]; rfl) (argsL := [(.ref b3), (.int (0 : Int32)), (.int (3 : Int32))]) (rest := []) (lenOf own_pd1 rfl) rfl (by show 2 * 0 + _ ≤ _; exact Nat.le_of_eq rfl) (hb hby own_d_jdk_42_method_149_code_36) (fun _ _ => ⟨rfl, e13, (by decide : 0 + 1 ≤ _), (by decide : 0 + 3 ≤ _)⟩)
  dsimp only [Pt.U, Pt.locs, Pt.cells, Pt.slots] at X28 l28 y28 z28 st28 hQ28
  subst l28 y28 z28
  obtain ⟨b28_b14, k28_k14, rfl, N28q, K28c, ⟨gn_b28_b14, szc_b28_b14⟩, f28_0⟩ := hQ28
  have N28 := Fr.app N0 N28q
  have lt_b3_b28_b14 : b3 < b28_b14 := Nat.lt_of_lt_of_le G_A_b3.lt szc_b28_b14
  have lt_b10_b28_b14 : b10 < b28_b14 := Nat.lt_of_lt_of_le G_E_b10.lt szc_b28_b14
  have sz_b28_b14 : h0.size ≤ b28_b14 := Nat.le_trans KK0.1 szc_b28_b14
  have OL28 : Old Z n0 T28.heap := OL0.keep K28c all0
  have KK28 : Keep h0 T28.heap [b10] := KK0.trans K28c all0
  obtain ⟨_, _, ⟨T30, L30, k30, n30⟩, -, X30, ⟨Lc30, hQ30, l30, y30, z30⟩, st30⟩ := Jvm.LawKit.callS X28 hx (y := own_m5) hown (mvT hZ (hw _ (List.mem_of_getElem? (i := 23) rfl))) (mvT hZ (hw _ (List.mem_of_getElem? (i := 24) rfl))) (mvT hZ (hw _ (List.mem_of_getElem? (i := 17) rfl))) (mvT hZ (hw _ (List.mem_of_getElem? (i := 25) rfl))) (by decide) (backOf (W := 1) (rm5 l Z a0 hw [] T28.heap n0 p1 A K cs b28_b14 k28_k14 EN OL28 f28_0) hZ (hw _ (List.mem_of_getElem? (i := 25) rfl)) (hw _ (List.mem_of_getElem? (i := 17) rfl)) (by decide) (by decide)) (g := (mkF m 45 #[.val (.ref b10), .val (.ref b3), .val (.int (0 : Int32)), .val (.int (3 : Int32)), .val .null, .val (.ref b28_b14)] [(.int (3 : Int32)), (.ref b28_b14), (.ref b10)])) rfl (by rw [hml]; rfl) (argsL := [(.ref b28_b14), (.int (3 : Int32))]) (rest := [(.ref b10)]) (lenOf own_pd2 rfl) rfl (by show 2 * 0 + _ ≤ _; exact Nat.le_of_eq rfl) (hb hby own_d_jdk_42_method_149_code_45) (fun _ _ => ⟨rfl, rfl, (by decide : 1 + 0 ≤ _), (by decide : 3 + 0 ≤ _)⟩)
  dsimp only [Pt.U, Pt.locs, Pt.cells, Pt.slots] at X30 l30 y30 z30 st30 hQ30
  subst l30 y30 z30
  obtain ⟨rfl, N30q, e30⟩ := hQ30
  have N30 := Fr.app N28 N30q
  have fx31 : Fld Z T28.heap b10 "java/lang/String" "coder" "B" (.int (0 : Int32)) := (G_F_b10_java_lang_String_coder.keep K28c nin0)
  have fx32 : Exa Z T28.heap b10 "java/lang/String" := (G_E_b10.keep K28c)
  obtain ⟨T33, h33, X33, e33, W33, st33⟩ := putFN X30 hx hZ hown (hw _ (List.mem_of_getElem? (i := 26) rfl)) Via.refl e30 fx31 fx32 (Or.inr ⟨(hw _ (List.mem_of_getElem? (i := 27) rfl)), rfl, hnm⟩) (hw _ (List.mem_of_getElem? (i := 2) rfl)) (ty := .byte) (v' := (.int (0 : Int32))) (by decide) rfl (by decide) (g := (mkF m 48 #[.val (.ref b10), .val (.ref b3), .val (.int (0 : Int32)), .val (.int (3 : Int32)), .val .null, .val (.ref b28_b14)] [(.int (0 : Int32)), (.ref b10)])) rfl rfl (hb hby own_d_jdk_42_method_149_code_48)
  have NF33 := Fr.snoc X33 N30 gn_b10
  have OL33 : Old Z n0 h33 := OL28.wr W33 gn_b10
  have KK33 : Keep h0 h33 [b10] := KK28.wr W33 (Or.inl (List.mem_of_getElem? (i := 0) rfl))
  have Fw33 : Fld Z h33 b10 "java/lang/String" "coder" "B" (.int (0 : Int32)) := fx31.same W33
  have fx34 : Fld Z h33 b10 "java/lang/String" "value" "[B" .null := ((G_F_b10_java_lang_String_value.keep K28c nin0).other W33 (Or.inr (slot_ne (Or.inr (hw _ (List.mem_of_getElem? (i := 29) rfl))) (Or.inr (hw _ (List.mem_of_getElem? (i := 27) rfl))) (by decide) (t := (.array .byte)) (t' := .byte) (by decide) (by decide))))
  have fx35 : Exa Z h33 b10 "java/lang/String" := (fx32.wr W33)
  obtain ⟨T36, h36, X36, e36, W36, st36⟩ := putF X33 hx hZ hown (host := "") (Or.inl (hw _ (List.mem_of_getElem? (i := 28) rfl))) Via.refl e33 fx34 fx35 (Or.inr ⟨(hw _ (List.mem_of_getElem? (i := 29) rfl)), rfl, hnm⟩) (hw _ (List.mem_of_getElem? (i := 2) rfl)) (ty := (.array .byte)) (by decide) rfl rfl (g := (mkF m 54 #[.val (.ref b10), .val (.ref b3), .val (.int (0 : Int32)), .val (.int (3 : Int32)), .val .null, .val (.ref b28_b14)] [(.ref b28_b14), (.ref b10)])) rfl rfl (hb hby own_d_jdk_42_method_149_code_54)
  have NF36 := Fr.snoc X36 NF33 gn_b10
  have OL36 : Old Z n0 h36 := OL33.wr W36 gn_b10
  have KK36 : Keep h0 h36 [b10] := KK33.wr W36 (Or.inl (List.mem_of_getElem? (i := 0) rfl))
  have Fw36 : Fld Z h36 b10 "java/lang/String" "value" "[B" (.ref b28_b14) := fx34.same W36
  have fx37 : Exa Z h36 b10 "java/lang/String" := (fx35.wr W36)
  have fx38 : Fld Z h36 b10 "java/lang/String" "coder" "B" (.int (0 : Int32)) := (Fw33.other W36 (Or.inr (slot_ne (Or.inr (hw _ (List.mem_of_getElem? (i := 27) rfl))) (Or.inr (hw _ (List.mem_of_getElem? (i := 29) rfl))) (by decide) (t := .byte) (t' := (.array .byte)) (by decide) (by decide))))
  have fx39 : Arv Z h36 b28_b14 k28_k14 .byte (3 : Int32) [(.int (51 : Int32)), (.int (46 : Int32)), (.int (48 : Int32))] (.int (0 : Int32)) := ((f28_0.other W33 (Ne.symm (Nat.ne_of_lt lt_b10_b28_b14))).other W36 (Ne.symm (Nat.ne_of_lt lt_b10_b28_b14)))
  obtain ⟨fs, hr, hrun, hended, hW, hsame⟩ := X36.leave (v := none) (fun _ => rfl)
  refine ⟨_, _, pre0 _ ?_, hrun, hended, _, _, rfl, ?_, ⟨_, rfl⟩, hW, hsame.mono (by decide) (by decide)⟩
  · show Steps p.tables e below (s₁.setTop (mkF m 0 #[.val (.ref b10), .val (.ref b3), .val (.int (0 : Int32)), .val (.int (3 : Int32)), .val .null, .unset] [])) _
    refine XS.aloadN X0.here hx rfl (hb hby own_d_jdk_42_method_149_code_0) rfl rfl ?_
    show Steps p.tables e below (s₁.setTop (mkF m 1 #[.val (.ref b10), .val (.ref b3), .val (.int (0 : Int32)), .val (.int (3 : Int32)), .val .null, .unset] [(.ref b10)])) _
    refine st12 _ ?_
    show Steps p.tables e below (T12.setTop (mkF m 4 #[.val (.ref b10), .val (.ref b3), .val (.int (0 : Int32)), .val (.int (3 : Int32)), .val .null, .unset] [])) _
    refine XS.iloadN X12.here hx rfl (hb hby own_d_jdk_42_method_149_code_4) rfl ?_
    show Steps p.tables e below (T12.setTop (mkF m 5 #[.val (.ref b10), .val (.ref b3), .val (.int (0 : Int32)), .val (.int (3 : Int32)), .val .null, .unset] [(.int (3 : Int32))])) _
    refine XS.ifYes X12.here hx rfl (pc0 := 5) (pc' := 27) rfl (hb hby own_d_jdk_42_method_149_code_5) rfl ((if0 _ _).trans (feq (by decide : ¬ ((3 : Int32) = (0 : Int32)))).2) (by decide) (by decide) ?_
    show Steps p.tables e below (T12.setTop (mkF m 27 #[.val (.ref b10), .val (.ref b3), .val (.int (0 : Int32)), .val (.int (3 : Int32)), .val .null, .unset] [])) _
    refine st13 _ ?_
    show Steps p.tables e below (T13.setTop (mkF m 30 #[.val (.ref b10), .val (.ref b3), .val (.int (0 : Int32)), .val (.int (3 : Int32)), .val .null, .unset] [(.int cs)])) _
    refine XS.ifNo X13.here hx rfl (hb hby own_d_jdk_42_method_149_code_30) rfl ((if0 _ _).trans (feq EN.2.2.2.1.2.2.2.2.1).1) ?_
    show Steps p.tables e below (T13.setTop (mkF m 33 #[.val (.ref b10), .val (.ref b3), .val (.int (0 : Int32)), .val (.int (3 : Int32)), .val .null, .unset] [])) _
    refine XS.aloadN X13.here hx rfl (hb hby own_d_jdk_42_method_149_code_33) rfl rfl ?_
    show Steps p.tables e below (T13.setTop (mkF m 34 #[.val (.ref b10), .val (.ref b3), .val (.int (0 : Int32)), .val (.int (3 : Int32)), .val .null, .unset] [(.ref b3)])) _
    refine XS.iloadN X13.here hx rfl (hb hby own_d_jdk_42_method_149_code_34) rfl ?_
    show Steps p.tables e below (T13.setTop (mkF m 35 #[.val (.ref b10), .val (.ref b3), .val (.int (0 : Int32)), .val (.int (3 : Int32)), .val .null, .unset] [(.int (0 : Int32)), (.ref b3)])) _
    refine XS.iloadN X13.here hx rfl (hb hby own_d_jdk_42_method_149_code_35) rfl ?_
    show Steps p.tables e below (T13.setTop (mkF m 36 #[.val (.ref b10), .val (.ref b3), .val (.int (0 : Int32)), .val (.int (3 : Int32)), .val .null, .unset] [(.int (3 : Int32)), (.int (0 : Int32)), (.ref b3)])) _
    refine st28 _ ?_
    show Steps p.tables e below (T28.setTop (mkF m 39 #[.val (.ref b10), .val (.ref b3), .val (.int (0 : Int32)), .val (.int (3 : Int32)), .val .null, .unset] [(.ref b28_b14)])) _
    refine XS.astore X28.here hx rfl (hb hby own_d_jdk_42_method_149_code_39) rfl rfl (l' := #[.val (.ref b10), .val (.ref b3), .val (.int (0 : Int32)), .val (.int (3 : Int32)), .val .null, .val (.ref b28_b14)]) rfl ?_
    show Steps p.tables e below (T28.setTop (mkF m 41 #[.val (.ref b10), .val (.ref b3), .val (.int (0 : Int32)), .val (.int (3 : Int32)), .val .null, .val (.ref b28_b14)] [])) _
    refine XS.aloadN X28.here hx rfl (hb hby own_d_jdk_42_method_149_code_41) rfl rfl ?_
    show Steps p.tables e below (T28.setTop (mkF m 42 #[.val (.ref b10), .val (.ref b3), .val (.int (0 : Int32)), .val (.int (3 : Int32)), .val .null, .val (.ref b28_b14)] [(.ref b10)])) _
    refine XS.aload X28.here hx rfl (hb hby own_d_jdk_42_method_149_code_42) rfl rfl ?_
    show Steps p.tables e below (T28.setTop (mkF m 44 #[.val (.ref b10), .val (.ref b3), .val (.int (0 : Int32)), .val (.int (3 : Int32)), .val .null, .val (.ref b28_b14)] [(.ref b28_b14), (.ref b10)])) _
    refine XS.iloadN X28.here hx rfl (hb hby own_d_jdk_42_method_149_code_44) rfl ?_
    show Steps p.tables e below (T28.setTop (mkF m 45 #[.val (.ref b10), .val (.ref b3), .val (.int (0 : Int32)), .val (.int (3 : Int32)), .val .null, .val (.ref b28_b14)] [(.int (3 : Int32)), (.ref b28_b14), (.ref b10)])) _
    refine st30 _ ?_
    show Steps p.tables e below (T30.setTop (mkF m 48 #[.val (.ref b10), .val (.ref b3), .val (.int (0 : Int32)), .val (.int (3 : Int32)), .val .null, .val (.ref b28_b14)] [(.int (0 : Int32)), (.ref b10)])) _
    refine st33 _ ?_
    show Steps p.tables e below (T33.setTop (mkF m 51 #[.val (.ref b10), .val (.ref b3), .val (.int (0 : Int32)), .val (.int (3 : Int32)), .val .null, .val (.ref b28_b14)] [])) _
    refine XS.aloadN X33.here hx rfl (hb hby own_d_jdk_42_method_149_code_51) rfl rfl ?_
    show Steps p.tables e below (T33.setTop (mkF m 52 #[.val (.ref b10), .val (.ref b3), .val (.int (0 : Int32)), .val (.int (3 : Int32)), .val .null, .val (.ref b28_b14)] [(.ref b10)])) _
    refine XS.aload X33.here hx rfl (hb hby own_d_jdk_42_method_149_code_52) rfl rfl ?_
    show Steps p.tables e below (T33.setTop (mkF m 54 #[.val (.ref b10), .val (.ref b3), .val (.int (0 : Int32)), .val (.int (3 : Int32)), .val .null, .val (.ref b28_b14)] [(.ref b28_b14), (.ref b10)])) _
    refine st36 _ ?_
    show Steps p.tables e below (T36.setTop (mkF m 57 #[.val (.ref b10), .val (.ref b3), .val (.int (0 : Int32)), .val (.int (3 : Int32)), .val .null, .val (.ref b28_b14)] [])) _
    exact X36.returnOut hx Bd.returns (hb hby own_d_jdk_42_method_149_code_57) hr
  · show Q_rm2 Z p1 A K cs b3 b10 k3 h0 n0 _ T36.heap _
    rw [e36]
    exact ⟨b28_b14, k28_k14, rfl, NF36, KK36, ⟨gn_b28_b14, sz_b28_b14⟩, fx37, fx38, Fw36, fx39⟩
def Q_rm1 (Z : State) (p1 : Int32) (A : Nat → Addr) (K : Nat → ClassId) (cs : Int32) (b3 : Addr) (b10 : Addr) (k3 : ClassId) (h0 : Heap) (n0 : Nat) (v : Option Value) (h : Heap) (L : List Loc) : Prop := ∃ b40_b28_b14 : Addr, ∃ k40_k28_k14 : ClassId, v = none ∧ Fr n0 L ∧ Keep h0 h [b10] ∧ (n0 ≤ b40_b28_b14 ∧ h0.size ≤ b40_b28_b14) ∧ (Exa Z h b10 "java/lang/String") ∧ (Fld Z h b10 "java/lang/String" "coder" "B" (.int (0 : Int32))) ∧ (Fld Z h b10 "java/lang/String" "value" "[B" (.ref b40_b28_b14)) ∧ (Arv Z h b40_b28_b14 k40_k28_k14 .byte (3 : Int32) [(.int (51 : Int32)), (.int (46 : Int32)), (.int (48 : Int32))] (.int (0 : Int32)))
theorem own_d_jdk_42_method_3_code_0 : decode jdk_42_method_3_code 0 = .ok (.aload_n 0, 1) := by decide +kernel
theorem own_d_jdk_42_method_3_code_1 : decode jdk_42_method_3_code 1 = .ok (.aload_n 1, 1) := by decide +kernel
theorem own_d_jdk_42_method_3_code_2 : decode jdk_42_method_3_code 2 = .ok (.iconst 0, 1) := by decide +kernel
theorem own_d_jdk_42_method_3_code_3 : decode jdk_42_method_3_code 3 = .ok (.aload_n 1, 1) := by decide +kernel
theorem own_d_jdk_42_method_3_code_4 : decode jdk_42_method_3_code 4 = .ok (.arraylength, 1) := by decide +kernel
theorem own_d_jdk_42_method_3_code_5 : decode jdk_42_method_3_code 5 = .ok (.aconst_null, 1) := by decide +kernel
theorem own_d_jdk_42_method_3_code_6 : decode jdk_42_method_3_code 6 = .ok (.invokespecial 27, 3) := by decide +kernel
theorem own_d_jdk_42_method_3_code_9 : decode jdk_42_method_3_code 9 = .ok (.return_, 1) := by decide +kernel
theorem own_ef_rm1 (m : MethodId) (p1 : Int32) (A : Nat → Addr) (K : Nat → ClassId) (cs : Int32)  (b3 : Addr) (b10 : Addr) (k3 : ClassId) : entryFrame m #[(.ref b10), (.ref b3)] 2 = mkF m 0 #[.val (.ref b10), .val (.ref b3)] [] := by first | (simp [entryFrame, mkF, argsToLocals, Value.category, maxLocals]; done) | rfl
set_option maxRecDepth 65536 in
set_option maxHeartbeats 40000000 in
theorem rm1 (l : Launch) (Z : State) (a0 : Array Value) (hw : ∀ d ∈ tables_1, d.before a0 Z = true) (ws : List Jvm.Cond) (h0 : Heap) (n0 : Nat) (p1 : Int32) (A : Nat → Addr) (K : Nat → ClassId) (cs : Int32)  (b3 : Addr) (b10 : Addr) (k3 : ClassId) (EN : own_St Z A K cs) (OL0 : Old Z n0 h0) (G_A_b3 : Arv Z h0 b3 k3 .char (3 : Int32) [(.int (51 : Int32)), (.int (46 : Int32)), (.int (48 : Int32))] (.int (0 : Int32))) (G_E_b10 : Exa Z h0 b10 "java/lang/String") (G_F_b10_java_lang_String_coder : Fld Z h0 b10 "java/lang/String" "coder" "B" (.int (0 : Int32))) (G_F_b10_java_lang_String_value : Fld Z h0 b10 "java/lang/String" "value" "[B" .null) (gn_b10 : n0 ≤ b10) :
    MetFree l own_m7 (head1 (Jvm.Cond.code own_m7 jdk_42_method_3_code 2 none :: ws) ({ frames := 3, cells := 1, slots := 3, locals := 52 } : Room)) (fun a U => a = #[(.ref b10), (.ref b3)] ∧ Z.Warmed39 U.vm ∧ U.heap = h0) (fun _ _ _ _ _ => True) (fun _ U o U' => ∃ v L, o = .returned v ∧ Q_rm1 Z p1 A K cs b3 b10 k3 h0 n0 v U'.heap L ∧ FrameEnd U o U' L ({ frames := 3, cells := 1, slots := 3, locals := 52 } : Room).cells ({ frames := 3, cells := 1, slots := 3, locals := 52 } : Room).slots) := by
  refine MetFree.of_bodySF (plainFor_of_name own_pn1) hisR ?_
  intro p e s m args below meth c s₁ Bd hml0 hP hK
  obtain ⟨rfl, hZ, hh⟩ := hP
  have hx := Bd.exec
  have hby := Bd.bytes
  have hml : c.maxLocals = 2 := hml0
  have hown : s.vm.findClass "java/lang/String" = some m.cls := findClass_of_methodNamed Bd.named
  have hnm := (name_of_methodNamed Bd.named Bd.method).1
  have X0 : Stand p l e ({ frames := 3, cells := 1, slots := 3, locals := 52 } : Room) s m #[(.ref b10), (.ref b3)] below meth c s₁ [] 0 0 := Stand.of_body Bd
  have e0 : s₁.heap = h0 := by rw [← hh, Bd.state]; rfl
  have N0 := Fr.nil n0
  have pre0 : ∀ t, Steps p.tables e below (s₁.setTop (mkF m 0 #[.val (.ref b10), .val (.ref b3)] [])) t → Steps p.tables e below (s₁.setTop (entryFrame m #[(.ref b10), (.ref b3)] 2)) t := fun t k => castTop (own_ef_rm1 m p1 A K cs b3 b10 k3) k
  have KK0 : Keep h0 h0 [b10] := Keep.refl _ _
  obtain ⟨cl11, Ar11, -, Sz11, Nn11, -, -⟩ := (id G_A_b3)
  obtain ⟨_, _, ⟨T40, L40, k40, n40⟩, -, X40, ⟨Lc40, hQ40, l40, y40, z40⟩, st40⟩ := X0.specialBack hx (y := own_m6) rfl hown (mvT hZ (hw _ (List.mem_of_getElem? (i := 7) rfl))) (mvT hZ (hw _ (List.mem_of_getElem? (i := 8) rfl))) (mvT hZ (hw _ (List.mem_of_getElem? (i := 10) rfl))) (by decide) (backOf (W := 0) (rm2 l Z a0 hw [] h0 n0 p1 A K cs b3 b10 k3 EN OL0 G_A_b3 G_E_b10 G_F_b10_java_lang_String_coder G_F_b10_java_lang_String_value gn_b10) hZ (hw _ (List.mem_of_getElem? (i := 10) rfl)) (hw _ (List.mem_of_getElem? (i := 3) rfl)) (by decide) (by decide)) (g := (mkF m 6 #[.val (.ref b10), .val (.ref b3)] [.null, (.int (3 : Int32)), (.int (0 : Int32)), (.ref b3), (.ref b10)])) rfl (by rw [hml]; rfl) (Steps.refl _) (a := b10) (argsL := [(.ref b3), (.int (0 : Int32)), (.int (3 : Int32)), .null]) (rest := []) (lenOf own_pd3 rfl) rfl (by show 2 * 0 + _ ≤ _; exact Nat.le_of_eq rfl) (hb hby own_d_jdk_42_method_3_code_6) (fun _ _ => ⟨rfl, e0, (by decide : 0 + 1 ≤ _), (by decide : 0 + 3 ≤ _)⟩)
  dsimp only [Pt.U, Pt.locs, Pt.cells, Pt.slots] at X40 l40 y40 z40 st40 hQ40
  subst l40 y40 z40
  obtain ⟨b40_b28_b14, k40_k28_k14, rfl, N40q, K40c, ⟨gn_b40_b28_b14, szc_b40_b28_b14⟩, f40_0, f40_1, f40_2, f40_3⟩ := hQ40
  have N40 := Fr.app N0 N40q
  have lt_b3_b40_b28_b14 : b3 < b40_b28_b14 := Nat.lt_of_lt_of_le G_A_b3.lt szc_b40_b28_b14
  have lt_b10_b40_b28_b14 : b10 < b40_b28_b14 := Nat.lt_of_lt_of_le G_E_b10.lt szc_b40_b28_b14
  have sz_b40_b28_b14 : h0.size ≤ b40_b28_b14 := Nat.le_trans KK0.1 szc_b40_b28_b14
  have OL40 : Old Z n0 T40.heap := OL0.keep K40c (allS gn_b10 all0)
  have KK40 : Keep h0 T40.heap [b10] := KK0.trans K40c (allS (Or.inl (List.mem_of_getElem? (i := 0) rfl)) all0)
  obtain ⟨fs, hr, hrun, hended, hW, hsame⟩ := X40.leave (v := none) (fun _ => rfl)
  refine ⟨_, _, pre0 _ ?_, hrun, hended, _, _, rfl, ?_, ⟨_, rfl⟩, hW, hsame.mono (by decide) (by decide)⟩
  · show Steps p.tables e below (s₁.setTop (mkF m 0 #[.val (.ref b10), .val (.ref b3)] [])) _
    refine XS.aloadN X0.here hx rfl (hb hby own_d_jdk_42_method_3_code_0) rfl rfl ?_
    show Steps p.tables e below (s₁.setTop (mkF m 1 #[.val (.ref b10), .val (.ref b3)] [(.ref b10)])) _
    refine XS.aloadN X0.here hx rfl (hb hby own_d_jdk_42_method_3_code_1) rfl rfl ?_
    show Steps p.tables e below (s₁.setTop (mkF m 2 #[.val (.ref b10), .val (.ref b3)] [(.ref b3), (.ref b10)])) _
    refine XS.iconst X0.here hx rfl (hb hby own_d_jdk_42_method_3_code_2) ?_
    show Steps p.tables e below (s₁.setTop (mkF m 3 #[.val (.ref b10), .val (.ref b3)] [(.int (0 : Int32)), (.ref b3), (.ref b10)])) _
    refine XS.aloadN X0.here hx rfl (hb hby own_d_jdk_42_method_3_code_3) rfl rfl ?_
    show Steps p.tables e below (s₁.setTop (mkF m 4 #[.val (.ref b10), .val (.ref b3)] [(.ref b3), (.int (0 : Int32)), (.ref b3), (.ref b10)])) _
    refine X0.arraylength hx (by rw [e0]; exact Ar11.1) (State.isArrayOf_alike hZ.alike Ar11.2.1) (g := (mkF m 4 #[.val (.ref b10), .val (.ref b3)] [(.ref b3), (.int (0 : Int32)), (.ref b3), (.ref b10)])) rfl rfl (hb hby own_d_jdk_42_method_3_code_4) _ ?_
    rw [len_of Sz11 Nn11]
    show Steps p.tables e below (s₁.setTop (mkF m 5 #[.val (.ref b10), .val (.ref b3)] [(.int (3 : Int32)), (.int (0 : Int32)), (.ref b3), (.ref b10)])) _
    refine XS.aconstNull X0.here hx rfl (hb hby own_d_jdk_42_method_3_code_5) ?_
    show Steps p.tables e below (s₁.setTop (mkF m 6 #[.val (.ref b10), .val (.ref b3)] [.null, (.int (3 : Int32)), (.int (0 : Int32)), (.ref b3), (.ref b10)])) _
    refine st40.trans ?_
    show Steps p.tables e below (T40.setTop (mkF m 9 #[.val (.ref b10), .val (.ref b3)] [])) _
    exact X40.returnOut hx Bd.returns (hb hby own_d_jdk_42_method_3_code_9) hr
  · show Q_rm1 Z p1 A K cs b3 b10 k3 h0 n0 _ T40.heap _
    exact ⟨b40_b28_b14, k40_k28_k14, rfl, N40, KK40, ⟨gn_b40_b28_b14, sz_b40_b28_b14⟩, f40_0, f40_1, f40_2, f40_3⟩
def Q_rm7 (Z : State) (p1 : Int32) (A : Nat → Addr) (K : Nat → ClassId) (cs : Int32) (b3 : Addr) (b10 : Addr) (b42_b40_b28_b14 : Addr) (k3 : ClassId) (k42_k40_k28_k14 : ClassId) (h0 : Heap) (n0 : Nat) (v : Option Value) (h : Heap) (L : List Loc) : Prop := ∃ b45 : Addr, v = (some (.ref b45)) ∧ Fr n0 L ∧ Keep h0 h [] ∧ (n0 ≤ b45 ∧ h0.size ≤ b45) ∧ (Arv Z h b45 (K 0) (.object "com/example/dongl/dongl/crypto/ProtocolVersion") (4 : Int32) [(.ref (A 0)), (.ref (A 1)), (.ref (A 2)), (.ref (A 3))] .null) ∧ (Exa Z h b45 "[Lcom/example/dongl/dongl/crypto/ProtocolVersion;")
theorem own_d_prog_26_method_1_code_0 : decode prog_26_method_1_code 0 = .ok (.getstatic 16, 3) := by decide +kernel
theorem own_d_prog_26_method_1_code_3 : decode prog_26_method_1_code 3 = .ok (.invokevirtual 20, 3) := by decide +kernel
theorem own_d_prog_26_method_1_code_6 : decode prog_26_method_1_code 6 = .ok (.checkcast 21, 3) := by decide +kernel
theorem own_d_prog_26_method_1_code_9 : decode prog_26_method_1_code 9 = .ok (.areturn, 1) := by decide +kernel
theorem own_pn2 : plainName "com/example/dongl/dongl/crypto/ProtocolVersion" = true := by first | (simp [plainName, overriddenIn]; done) | decide +kernel
theorem own_ef_rm7 (m : MethodId) (p1 : Int32) (A : Nat → Addr) (K : Nat → ClassId) (cs : Int32)  (b3 : Addr) (b10 : Addr) (b42_b40_b28_b14 : Addr) (k3 : ClassId) (k42_k40_k28_k14 : ClassId) : entryFrame m #[] 0 = mkF m 0 #[] [] := by first | (simp [entryFrame, mkF, argsToLocals, Value.category, maxLocals]; done) | rfl
set_option maxRecDepth 65536 in
set_option maxHeartbeats 40000000 in
theorem rm7 (l : Launch) (Z : State) (a0 : Array Value) (hw : ∀ d ∈ tables_1, d.before a0 Z = true) (ws : List Jvm.Cond) (h0 : Heap) (n0 : Nat) (p1 : Int32) (A : Nat → Addr) (K : Nat → ClassId) (cs : Int32)  (b3 : Addr) (b10 : Addr) (b42_b40_b28_b14 : Addr) (k3 : ClassId) (k42_k40_k28_k14 : ClassId) (EN : own_St Z A K cs) (OL0 : Old Z n0 h0) (G_A_b3 : Arv Z h0 b3 k3 .char (3 : Int32) [(.int (51 : Int32)), (.int (46 : Int32)), (.int (48 : Int32))] (.int (0 : Int32))) (G_E_b10 : Exa Z h0 b10 "java/lang/String") (G_A_b42_b40_b28_b14 : Arv Z h0 b42_b40_b28_b14 k42_k40_k28_k14 .byte (3 : Int32) [(.int (51 : Int32)), (.int (46 : Int32)), (.int (48 : Int32))] (.int (0 : Int32))) :
    MetFree l own_m8 (head1 (Jvm.Cond.code own_m8 prog_26_method_1_code 0 (some (.array (.object "com/example/dongl/dongl/crypto/ProtocolVersion"))) :: ws) ({ frames := 1, cells := 1, slots := 4, locals := 14 } : Room)) (fun a U => a = #[] ∧ Z.Warmed39 U.vm ∧ U.heap = h0) (fun _ _ _ _ _ => True) (fun _ U o U' => ∃ v L, o = .returned v ∧ Q_rm7 Z p1 A K cs b3 b10 b42_b40_b28_b14 k3 k42_k40_k28_k14 h0 n0 v U'.heap L ∧ FrameEnd U o U' L ({ frames := 1, cells := 1, slots := 4, locals := 14 } : Room).cells ({ frames := 1, cells := 1, slots := 4, locals := 14 } : Room).slots) := by
  refine MetFree.of_bodySF (plainFor_of_name own_pn2) hisR ?_
  intro p e s m args below meth c s₁ Bd hml0 hP hK
  obtain ⟨rfl, hZ, hh⟩ := hP
  have hx := Bd.exec
  have hby := Bd.bytes
  have hml : c.maxLocals = 0 := hml0
  have hown : s.vm.findClass "com/example/dongl/dongl/crypto/ProtocolVersion" = some m.cls := findClass_of_methodNamed Bd.named
  have hnm := (name_of_methodNamed Bd.named Bd.method).1
  have X0 : Stand p l e ({ frames := 1, cells := 1, slots := 4, locals := 14 } : Room) s m #[] below meth c s₁ [] 0 0 := Stand.of_body Bd
  have e0 : s₁.heap = h0 := by rw [← hh, Bd.state]; rfl
  have N0 := Fr.nil n0
  have pre0 : ∀ t, Steps p.tables e below (s₁.setTop (mkF m 0 #[] [])) t → Steps p.tables e below (s₁.setTop (entryFrame m #[] 0)) t := fun t k => castTop (own_ef_rm7 m p1 A K cs b3 b10 b42_b40_b28_b14 k3 k42_k40_k28_k14) k
  have KK0 : Keep h0 h0 [] := Keep.refl _ _
  obtain ⟨T44, X44, e44, st44⟩ := getS2 X0 hx hZ hown (host := "") (Or.inl (hw _ (List.mem_of_getElem? (i := 39) rfl))) Via.refl e0 (EN.2.1.1.ext OL0.2) (g := (mkF m 0 #[] [])) rfl (hb hby own_d_prog_26_method_1_code_0)
  obtain ⟨T45, h45, X45, e45, E45, V45, A45, st45⟩ := cloneH X44 hx hZ hown (hw _ (List.mem_of_getElem? (i := 41) rfl)) (hw _ (List.mem_of_getElem? (i := 42) rfl)) (hw _ (List.mem_of_getElem? (i := 46) rfl)) (hw _ (List.mem_of_getElem? (i := 44) rfl)) (hw _ (List.mem_of_getElem? (i := 45) rfl)) (hw _ (List.mem_of_getElem? (i := 47) rfl)) e44 (Arv.arh (EN.2.1.2.2.1.ext OL0.2)) (EN.2.1.2.1.ext OL0.2) (g := (mkF m 3 #[] [(.ref (A 4))])) rfl (by rw [hml]; rfl) rfl (hb hby own_d_prog_26_method_1_code_3) (by decide) (W := 0) (cap := 4) (by show 2 * 0 + _ ≤ _; exact Nat.le_of_eq rfl) (by decide) (by decide) (by decide) (by decide)
  obtain ⟨b45, g45⟩ : ∃ z, z = h0.size := ⟨_, rfl⟩
  rw [← g45] at V45 A45 st45
  have gn_b45 : n0 ≤ b45 := Nat.le_trans (OL0.1 ▸ OL0.2.1) (Nat.le_of_eq g45.symm)
  have sz_b45 : h0.size ≤ b45 := Nat.le_trans KK0.1 (Nat.le_of_eq g45.symm)
  have lt_b3_b45 : b3 < b45 := Nat.lt_of_lt_of_le G_A_b3.lt (Nat.le_of_eq g45.symm)
  have lt_b10_b45 : b10 < b45 := Nat.lt_of_lt_of_le G_E_b10.lt (Nat.le_of_eq g45.symm)
  have lt_b42_b40_b28_b14_b45 : b42_b40_b28_b14 < b45 := Nat.lt_of_lt_of_le G_A_b42_b40_b28_b14.lt (Nat.le_of_eq g45.symm)
  have OL45 : Old Z n0 h45 := OL0.ext E45
  have KK45 : Keep h0 h45 [] := KK0.ext E45
  have Vv45 : Arv Z h45 b45 (K 0) (.object "com/example/dongl/dongl/crypto/ProtocolVersion") (4 : Int32) [(.ref (A 0)), (.ref (A 1)), (.ref (A 2)), (.ref (A 3))] .null := V45
  obtain ⟨T46, X46, e46, st46⟩ := castY X45 hx hZ hown (hw _ (List.mem_of_getElem? (i := 52) rfl)) e45 (Ins.self A45) (g := (mkF m 6 #[] [(.ref b45)])) rfl rfl (hb hby own_d_prog_26_method_1_code_6)
  obtain ⟨fs, hr, hrun, hended, hW, hsame⟩ := X46.leave (v := some (.ref b45)) (fun h => by rw [Bd.returns] at h; cases h)
  refine ⟨_, _, pre0 _ ?_, hrun, hended, _, _, rfl, ?_, ⟨_, rfl⟩, hW, hsame.mono (by decide) (by decide)⟩
  · show Steps p.tables e below (s₁.setTop (mkF m 0 #[] [])) _
    refine st44 _ ?_
    show Steps p.tables e below (T44.setTop (mkF m 3 #[] [(.ref (A 4))])) _
    refine st45 _ ?_
    show Steps p.tables e below (T45.setTop (mkF m 6 #[] [(.ref b45)])) _
    refine st46 _ ?_
    show Steps p.tables e below (T46.setTop (mkF m 9 #[] [(.ref b45)])) _
    exact retOut X46 hx Bd.returns rfl (Or.inr (Or.inr (Or.inr (Or.inr ⟨rfl, rfl, rfl⟩)))) (hb hby own_d_prog_26_method_1_code_9) hr
  · show Q_rm7 Z p1 A K cs b3 b10 b42_b40_b28_b14 k3 k42_k40_k28_k14 h0 n0 _ T46.heap _
    rw [e46]
    exact ⟨b45, rfl, N0, KK45, ⟨gn_b45, sz_b45⟩, Vv45, A45⟩
theorem own_d_jdk_43_method_13_code_0 : decode jdk_43_method_13_code 0 = .ok (.aload_n 0, 1) := by decide +kernel
theorem own_d_jdk_43_method_13_code_1 : decode jdk_43_method_13_code 1 = .ok (.arraylength, 1) := by decide +kernel
theorem own_d_jdk_43_method_13_code_2 : decode jdk_43_method_13_code 2 = .ok (.aload_n 1, 1) := by decide +kernel
theorem own_d_jdk_43_method_13_code_3 : decode jdk_43_method_13_code 3 = .ok (.arraylength, 1) := by decide +kernel
theorem own_d_jdk_43_method_13_code_4 : decode jdk_43_method_13_code 4 = .ok (.if_icmp .ne 30, 3) := by decide +kernel
theorem own_d_jdk_43_method_13_code_7 : decode jdk_43_method_13_code 7 = .ok (.iconst 0, 1) := by decide +kernel
theorem own_d_jdk_43_method_13_code_8 : decode jdk_43_method_13_code 8 = .ok (.istore_n 2, 1) := by decide +kernel
theorem own_d_jdk_43_method_13_code_9 : decode jdk_43_method_13_code 9 = .ok (.iload_n 2, 1) := by decide +kernel
theorem own_d_jdk_43_method_13_code_10 : decode jdk_43_method_13_code 10 = .ok (.aload_n 0, 1) := by decide +kernel
theorem own_d_jdk_43_method_13_code_11 : decode jdk_43_method_13_code 11 = .ok (.arraylength, 1) := by decide +kernel
theorem own_d_jdk_43_method_13_code_12 : decode jdk_43_method_13_code 12 = .ok (.if_icmp .ge 20, 3) := by decide +kernel
theorem own_d_jdk_43_method_13_code_15 : decode jdk_43_method_13_code 15 = .ok (.aload_n 0, 1) := by decide +kernel
theorem own_d_jdk_43_method_13_code_16 : decode jdk_43_method_13_code 16 = .ok (.iload_n 2, 1) := by decide +kernel
theorem own_d_jdk_43_method_13_code_17 : decode jdk_43_method_13_code 17 = .ok (.baload, 1) := by decide +kernel
theorem own_d_jdk_43_method_13_code_18 : decode jdk_43_method_13_code 18 = .ok (.aload_n 1, 1) := by decide +kernel
theorem own_d_jdk_43_method_13_code_19 : decode jdk_43_method_13_code 19 = .ok (.iload_n 2, 1) := by decide +kernel
theorem own_d_jdk_43_method_13_code_20 : decode jdk_43_method_13_code 20 = .ok (.baload, 1) := by decide +kernel
theorem own_d_jdk_43_method_13_code_21 : decode jdk_43_method_13_code 21 = .ok (.if_icmp .eq 5, 3) := by decide +kernel
theorem own_d_jdk_43_method_13_code_26 : decode jdk_43_method_13_code 26 = .ok (.iinc 2 1, 3) := by decide +kernel
theorem own_d_jdk_43_method_13_code_29 : decode jdk_43_method_13_code 29 = .ok (.goto (-20), 3) := by decide +kernel
theorem own_d_jdk_43_method_13_code_32 : decode jdk_43_method_13_code 32 = .ok (.iconst 1, 1) := by decide +kernel
theorem own_d_jdk_43_method_13_code_33 : decode jdk_43_method_13_code 33 = .ok (.ireturn, 1) := by decide +kernel
theorem own_pn3 : plainName "java/lang/StringLatin1" = true := by first | (simp [plainName, overriddenIn]; done) | decide +kernel
theorem own_ef_rm9 (m : MethodId) (p1 : Int32) (A : Nat → Addr) (K : Nat → ClassId) (cs : Int32)  (b42_b40_b28_b14 : Addr) (k42_k40_k28_k14 : ClassId) : entryFrame m #[(.ref (A 9)), (.ref b42_b40_b28_b14)] 3 = mkF m 0 #[.val (.ref (A 9)), .val (.ref b42_b40_b28_b14), .unset] [] := by first | (simp [entryFrame, mkF, argsToLocals, Value.category, maxLocals]; done) | rfl
set_option maxRecDepth 65536 in
set_option maxHeartbeats 40000000 in
theorem rm9 (l : Launch) (Z : State) (a0 : Array Value) (hw : ∀ d ∈ tables_1, d.before a0 Z = true) (ws : List Jvm.Cond) (h0 : Heap) (n0 : Nat) (p1 : Int32) (A : Nat → Addr) (K : Nat → ClassId) (cs : Int32)  (b42_b40_b28_b14 : Addr) (k42_k40_k28_k14 : ClassId) (EN : own_St Z A K cs) (OL0 : Old Z n0 h0) (G_A_b42_b40_b28_b14 : Arv Z h0 b42_b40_b28_b14 k42_k40_k28_k14 .byte (3 : Int32) [(.int (51 : Int32)), (.int (46 : Int32)), (.int (48 : Int32))] (.int (0 : Int32))) :
    MetFree l own_m1 (head1 (Jvm.Cond.code own_m1 jdk_43_method_13_code 3 (some .boolean) :: ws) ({ frames := 0, cells := 0, slots := 0, locals := 0 } : Room)) (fun a U => a = #[(.ref (A 9)), (.ref b42_b40_b28_b14)] ∧ Z.Warmed39 U.vm ∧ U.heap = h0) (fun _ _ _ _ _ => True) (fun _ U o U' => ∃ v L, o = .returned v ∧ (PQ (some (.int (1 : Int32))) h0 n0) v U'.heap L ∧ FrameEnd U o U' L ({ frames := 0, cells := 0, slots := 0, locals := 0 } : Room).cells ({ frames := 0, cells := 0, slots := 0, locals := 0 } : Room).slots) := by
  refine MetFree.of_bodySF (plainFor_of_name own_pn3) hisR ?_
  intro p e s m args below meth c s₁ Bd hml0 hP hK
  obtain ⟨rfl, hZ, hh⟩ := hP
  have hx := Bd.exec
  have hby := Bd.bytes
  have hml : c.maxLocals = 3 := hml0
  have hown : s.vm.findClass "java/lang/StringLatin1" = some m.cls := findClass_of_methodNamed Bd.named
  have hnm := (name_of_methodNamed Bd.named Bd.method).1
  have X0 : Stand p l e ({ frames := 0, cells := 0, slots := 0, locals := 0 } : Room) s m #[(.ref (A 9)), (.ref b42_b40_b28_b14)] below meth c s₁ [] 0 0 := Stand.of_body Bd
  have e0 : s₁.heap = h0 := by rw [← hh, Bd.state]; rfl
  have N0 := Fr.nil n0
  have pre0 : ∀ t, Steps p.tables e below (s₁.setTop (mkF m 0 #[.val (.ref (A 9)), .val (.ref b42_b40_b28_b14), .unset] [])) t → Steps p.tables e below (s₁.setTop (entryFrame m #[(.ref (A 9)), (.ref b42_b40_b28_b14)] 3)) t := fun t k => castTop (own_ef_rm9 m p1 A K cs b42_b40_b28_b14 k42_k40_k28_k14) k
  have KK0 : Keep h0 h0 [] := Keep.refl _ _
  obtain ⟨cl58, Ar58, -, Sz58, Nn58, -, -⟩ := (id (EN.2.2.1.2.2.2.2.1.ext OL0.2))
  obtain ⟨cl59, Ar59, -, Sz59, Nn59, -, -⟩ := (id G_A_b42_b40_b28_b14)
  obtain ⟨cl60, Ar60, -, Sz60, Nn60, -, -⟩ := (id (EN.2.2.1.2.2.2.2.1.ext OL0.2))
  obtain ⟨cl61, Ar61, q61, Sz61, Nn61, Hh61, Gg61⟩ := (id (EN.2.2.1.2.2.2.2.1.ext OL0.2))
  have hin61 : ¬ ((0 : Int32) < 0 ∨ cl61.slots.size ≤ ((0 : Int32)).toNatClampNeg) := inb_of Sz61 ⟨by decide, by decide⟩
  have hat61 : cl61.slots[((0 : Int32)).toNatClampNeg]? = some (.int (51 : Int32)) := Has.at Hh61 hin61 rfl
  obtain ⟨cl62, Ar62, q62, Sz62, Nn62, Hh62, Gg62⟩ := (id G_A_b42_b40_b28_b14)
  have hin62 : ¬ ((0 : Int32) < 0 ∨ cl62.slots.size ≤ ((0 : Int32)).toNatClampNeg) := inb_of Sz62 ⟨by decide, by decide⟩
  have hat62 : cl62.slots[((0 : Int32)).toNatClampNeg]? = some (.int (51 : Int32)) := Has.at Hh62 hin62 rfl
  obtain ⟨cl63, Ar63, -, Sz63, Nn63, -, -⟩ := (id (EN.2.2.1.2.2.2.2.1.ext OL0.2))
  obtain ⟨cl64, Ar64, q64, Sz64, Nn64, Hh64, Gg64⟩ := (id (EN.2.2.1.2.2.2.2.1.ext OL0.2))
  have hin64 : ¬ ((1 : Int32) < 0 ∨ cl64.slots.size ≤ ((1 : Int32)).toNatClampNeg) := inb_of Sz64 ⟨by decide, by decide⟩
  have hat64 : cl64.slots[((1 : Int32)).toNatClampNeg]? = some (.int (46 : Int32)) := Has.at Hh64 hin64 rfl
  obtain ⟨cl65, Ar65, q65, Sz65, Nn65, Hh65, Gg65⟩ := (id G_A_b42_b40_b28_b14)
  have hin65 : ¬ ((1 : Int32) < 0 ∨ cl65.slots.size ≤ ((1 : Int32)).toNatClampNeg) := inb_of Sz65 ⟨by decide, by decide⟩
  have hat65 : cl65.slots[((1 : Int32)).toNatClampNeg]? = some (.int (46 : Int32)) := Has.at Hh65 hin65 rfl
  obtain ⟨cl66, Ar66, -, Sz66, Nn66, -, -⟩ := (id (EN.2.2.1.2.2.2.2.1.ext OL0.2))
  obtain ⟨cl67, Ar67, q67, Sz67, Nn67, Hh67, Gg67⟩ := (id (EN.2.2.1.2.2.2.2.1.ext OL0.2))
  have hin67 : ¬ ((2 : Int32) < 0 ∨ cl67.slots.size ≤ ((2 : Int32)).toNatClampNeg) := inb_of Sz67 ⟨by decide, by decide⟩
  have hat67 : cl67.slots[((2 : Int32)).toNatClampNeg]? = some (.int (48 : Int32)) := Has.at Hh67 hin67 rfl
  obtain ⟨cl68, Ar68, q68, Sz68, Nn68, Hh68, Gg68⟩ := (id G_A_b42_b40_b28_b14)
  have hin68 : ¬ ((2 : Int32) < 0 ∨ cl68.slots.size ≤ ((2 : Int32)).toNatClampNeg) := inb_of Sz68 ⟨by decide, by decide⟩
  have hat68 : cl68.slots[((2 : Int32)).toNatClampNeg]? = some (.int (48 : Int32)) := Has.at Hh68 hin68 rfl
  obtain ⟨cl69, Ar69, -, Sz69, Nn69, -, -⟩ := (id (EN.2.2.1.2.2.2.2.1.ext OL0.2))
  obtain ⟨fs, hr, hrun, hended, hW, hsame⟩ := X0.leave (v := some (.int (1 : Int32))) (fun h => by rw [Bd.returns] at h; cases h)
  refine ⟨_, _, pre0 _ ?_, hrun, hended, _, _, rfl, ?_, ⟨_, rfl⟩, hW, hsame.mono (by decide) (by decide)⟩
  · show Steps p.tables e below (s₁.setTop (mkF m 0 #[.val (.ref (A 9)), .val (.ref b42_b40_b28_b14), .unset] [])) _
    refine XS.aloadN X0.here hx rfl (hb hby own_d_jdk_43_method_13_code_0) rfl rfl ?_
    show Steps p.tables e below (s₁.setTop (mkF m 1 #[.val (.ref (A 9)), .val (.ref b42_b40_b28_b14), .unset] [(.ref (A 9))])) _
    refine X0.arraylength hx (by rw [e0]; exact Ar58.1) (State.isArrayOf_alike hZ.alike Ar58.2.1) (g := (mkF m 1 #[.val (.ref (A 9)), .val (.ref b42_b40_b28_b14), .unset] [(.ref (A 9))])) rfl rfl (hb hby own_d_jdk_43_method_13_code_1) _ ?_
    rw [len_of Sz58 Nn58]
    show Steps p.tables e below (s₁.setTop (mkF m 2 #[.val (.ref (A 9)), .val (.ref b42_b40_b28_b14), .unset] [(.int (3 : Int32))])) _
    refine XS.aloadN X0.here hx rfl (hb hby own_d_jdk_43_method_13_code_2) rfl rfl ?_
    show Steps p.tables e below (s₁.setTop (mkF m 3 #[.val (.ref (A 9)), .val (.ref b42_b40_b28_b14), .unset] [(.ref b42_b40_b28_b14), (.int (3 : Int32))])) _
    refine X0.arraylength hx (by rw [e0]; exact Ar59.1) (State.isArrayOf_alike hZ.alike Ar59.2.1) (g := (mkF m 3 #[.val (.ref (A 9)), .val (.ref b42_b40_b28_b14), .unset] [(.ref b42_b40_b28_b14), (.int (3 : Int32))])) rfl rfl (hb hby own_d_jdk_43_method_13_code_3) _ ?_
    rw [len_of Sz59 Nn59]
    show Steps p.tables e below (s₁.setTop (mkF m 4 #[.val (.ref (A 9)), .val (.ref b42_b40_b28_b14), .unset] [(.int (3 : Int32)), (.int (3 : Int32))])) _
    refine XS.icmpNo X0.here hx rfl (hb hby own_d_jdk_43_method_13_code_4) rfl (teq (by decide : (3 : Int32) = (3 : Int32))).2 ?_
    show Steps p.tables e below (s₁.setTop (mkF m 7 #[.val (.ref (A 9)), .val (.ref b42_b40_b28_b14), .unset] [])) _
    refine XS.iconst X0.here hx rfl (hb hby own_d_jdk_43_method_13_code_7) ?_
    show Steps p.tables e below (s₁.setTop (mkF m 8 #[.val (.ref (A 9)), .val (.ref b42_b40_b28_b14), .unset] [(.int (0 : Int32))])) _
    refine XS.istoreN X0.here hx rfl (hb hby own_d_jdk_43_method_13_code_8) rfl (l' := #[.val (.ref (A 9)), .val (.ref b42_b40_b28_b14), .val (.int (0 : Int32))]) rfl ?_
    show Steps p.tables e below (s₁.setTop (mkF m 9 #[.val (.ref (A 9)), .val (.ref b42_b40_b28_b14), .val (.int (0 : Int32))] [])) _
    refine XS.iloadN X0.here hx rfl (hb hby own_d_jdk_43_method_13_code_9) rfl ?_
    show Steps p.tables e below (s₁.setTop (mkF m 10 #[.val (.ref (A 9)), .val (.ref b42_b40_b28_b14), .val (.int (0 : Int32))] [(.int (0 : Int32))])) _
    refine XS.aloadN X0.here hx rfl (hb hby own_d_jdk_43_method_13_code_10) rfl rfl ?_
    show Steps p.tables e below (s₁.setTop (mkF m 11 #[.val (.ref (A 9)), .val (.ref b42_b40_b28_b14), .val (.int (0 : Int32))] [(.ref (A 9)), (.int (0 : Int32))])) _
    refine X0.arraylength hx (by rw [e0]; exact Ar60.1) (State.isArrayOf_alike hZ.alike Ar60.2.1) (g := (mkF m 11 #[.val (.ref (A 9)), .val (.ref b42_b40_b28_b14), .val (.int (0 : Int32))] [(.ref (A 9)), (.int (0 : Int32))])) rfl rfl (hb hby own_d_jdk_43_method_13_code_11) _ ?_
    rw [len_of Sz60 Nn60]
    show Steps p.tables e below (s₁.setTop (mkF m 12 #[.val (.ref (A 9)), .val (.ref b42_b40_b28_b14), .val (.int (0 : Int32))] [(.int (3 : Int32)), (.int (0 : Int32))])) _
    refine XS.icmpNo X0.here hx rfl (hb hby own_d_jdk_43_method_13_code_12) rfl (tlt (by decide : (0 : Int32) < (3 : Int32))).2.1 ?_
    show Steps p.tables e below (s₁.setTop (mkF m 15 #[.val (.ref (A 9)), .val (.ref b42_b40_b28_b14), .val (.int (0 : Int32))] [])) _
    refine XS.aloadN X0.here hx rfl (hb hby own_d_jdk_43_method_13_code_15) rfl rfl ?_
    show Steps p.tables e below (s₁.setTop (mkF m 16 #[.val (.ref (A 9)), .val (.ref b42_b40_b28_b14), .val (.int (0 : Int32))] [(.ref (A 9))])) _
    refine XS.iloadN X0.here hx rfl (hb hby own_d_jdk_43_method_13_code_16) rfl ?_
    show Steps p.tables e below (s₁.setTop (mkF m 17 #[.val (.ref (A 9)), .val (.ref b42_b40_b28_b14), .val (.int (0 : Int32))] [(.int (0 : Int32)), (.ref (A 9))])) _
    refine X0.baloadBytes hx (j := (0 : Int32)) (v := (.int (51 : Int32))) (by rw [e0]; exact Ar61.1) (State.isArrayOf_alike hZ.alike Ar61.2.1) Ar61.2.2 hin61 hat61 (g := (mkF m 17 #[.val (.ref (A 9)), .val (.ref b42_b40_b28_b14), .val (.int (0 : Int32))] [(.int (0 : Int32)), (.ref (A 9))])) rfl rfl (hb hby own_d_jdk_43_method_13_code_17) _ ?_
    show Steps p.tables e below (s₁.setTop (mkF m 18 #[.val (.ref (A 9)), .val (.ref b42_b40_b28_b14), .val (.int (0 : Int32))] [(.int (51 : Int32))])) _
    refine XS.aloadN X0.here hx rfl (hb hby own_d_jdk_43_method_13_code_18) rfl rfl ?_
    show Steps p.tables e below (s₁.setTop (mkF m 19 #[.val (.ref (A 9)), .val (.ref b42_b40_b28_b14), .val (.int (0 : Int32))] [(.ref b42_b40_b28_b14), (.int (51 : Int32))])) _
    refine XS.iloadN X0.here hx rfl (hb hby own_d_jdk_43_method_13_code_19) rfl ?_
    show Steps p.tables e below (s₁.setTop (mkF m 20 #[.val (.ref (A 9)), .val (.ref b42_b40_b28_b14), .val (.int (0 : Int32))] [(.int (0 : Int32)), (.ref b42_b40_b28_b14), (.int (51 : Int32))])) _
    refine X0.baloadBytes hx (j := (0 : Int32)) (v := (.int (51 : Int32))) (by rw [e0]; exact Ar62.1) (State.isArrayOf_alike hZ.alike Ar62.2.1) Ar62.2.2 hin62 hat62 (g := (mkF m 20 #[.val (.ref (A 9)), .val (.ref b42_b40_b28_b14), .val (.int (0 : Int32))] [(.int (0 : Int32)), (.ref b42_b40_b28_b14), (.int (51 : Int32))])) rfl rfl (hb hby own_d_jdk_43_method_13_code_20) _ ?_
    show Steps p.tables e below (s₁.setTop (mkF m 21 #[.val (.ref (A 9)), .val (.ref b42_b40_b28_b14), .val (.int (0 : Int32))] [(.int (51 : Int32)), (.int (51 : Int32))])) _
    refine XS.icmpYes X0.here hx rfl (pc0 := 21) (pc' := 26) rfl (hb hby own_d_jdk_43_method_13_code_21) rfl (teq (by decide : (51 : Int32) = (51 : Int32))).1 (by decide) (by decide) ?_
    show Steps p.tables e below (s₁.setTop (mkF m 26 #[.val (.ref (A 9)), .val (.ref b42_b40_b28_b14), .val (.int (0 : Int32))] [])) _
    refine XS.iinc X0.here hx rfl (hb hby own_d_jdk_43_method_13_code_26) rfl (l' := #[.val (.ref (A 9)), .val (.ref b42_b40_b28_b14), .val (.int (1 : Int32))]) rfl ?_
    show Steps p.tables e below (s₁.setTop (mkF m 29 #[.val (.ref (A 9)), .val (.ref b42_b40_b28_b14), .val (.int (1 : Int32))] [])) _
    refine XS.goto X0.here hx rfl (pc0 := 29) (pc' := 9) rfl (hb hby own_d_jdk_43_method_13_code_29) (by decide) (by decide) ?_
    show Steps p.tables e below (s₁.setTop (mkF m 9 #[.val (.ref (A 9)), .val (.ref b42_b40_b28_b14), .val (.int (1 : Int32))] [])) _
    refine XS.iloadN X0.here hx rfl (hb hby own_d_jdk_43_method_13_code_9) rfl ?_
    show Steps p.tables e below (s₁.setTop (mkF m 10 #[.val (.ref (A 9)), .val (.ref b42_b40_b28_b14), .val (.int (1 : Int32))] [(.int (1 : Int32))])) _
    refine XS.aloadN X0.here hx rfl (hb hby own_d_jdk_43_method_13_code_10) rfl rfl ?_
    show Steps p.tables e below (s₁.setTop (mkF m 11 #[.val (.ref (A 9)), .val (.ref b42_b40_b28_b14), .val (.int (1 : Int32))] [(.ref (A 9)), (.int (1 : Int32))])) _
    refine X0.arraylength hx (by rw [e0]; exact Ar63.1) (State.isArrayOf_alike hZ.alike Ar63.2.1) (g := (mkF m 11 #[.val (.ref (A 9)), .val (.ref b42_b40_b28_b14), .val (.int (1 : Int32))] [(.ref (A 9)), (.int (1 : Int32))])) rfl rfl (hb hby own_d_jdk_43_method_13_code_11) _ ?_
    rw [len_of Sz63 Nn63]
    show Steps p.tables e below (s₁.setTop (mkF m 12 #[.val (.ref (A 9)), .val (.ref b42_b40_b28_b14), .val (.int (1 : Int32))] [(.int (3 : Int32)), (.int (1 : Int32))])) _
    refine XS.icmpNo X0.here hx rfl (hb hby own_d_jdk_43_method_13_code_12) rfl (tlt (by decide : (1 : Int32) < (3 : Int32))).2.1 ?_
    show Steps p.tables e below (s₁.setTop (mkF m 15 #[.val (.ref (A 9)), .val (.ref b42_b40_b28_b14), .val (.int (1 : Int32))] [])) _
    refine XS.aloadN X0.here hx rfl (hb hby own_d_jdk_43_method_13_code_15) rfl rfl ?_
    show Steps p.tables e below (s₁.setTop (mkF m 16 #[.val (.ref (A 9)), .val (.ref b42_b40_b28_b14), .val (.int (1 : Int32))] [(.ref (A 9))])) _
    refine XS.iloadN X0.here hx rfl (hb hby own_d_jdk_43_method_13_code_16) rfl ?_
    show Steps p.tables e below (s₁.setTop (mkF m 17 #[.val (.ref (A 9)), .val (.ref b42_b40_b28_b14), .val (.int (1 : Int32))] [(.int (1 : Int32)), (.ref (A 9))])) _
    refine X0.baloadBytes hx (j := (1 : Int32)) (v := (.int (46 : Int32))) (by rw [e0]; exact Ar64.1) (State.isArrayOf_alike hZ.alike Ar64.2.1) Ar64.2.2 hin64 hat64 (g := (mkF m 17 #[.val (.ref (A 9)), .val (.ref b42_b40_b28_b14), .val (.int (1 : Int32))] [(.int (1 : Int32)), (.ref (A 9))])) rfl rfl (hb hby own_d_jdk_43_method_13_code_17) _ ?_
    show Steps p.tables e below (s₁.setTop (mkF m 18 #[.val (.ref (A 9)), .val (.ref b42_b40_b28_b14), .val (.int (1 : Int32))] [(.int (46 : Int32))])) _
    refine XS.aloadN X0.here hx rfl (hb hby own_d_jdk_43_method_13_code_18) rfl rfl ?_
    show Steps p.tables e below (s₁.setTop (mkF m 19 #[.val (.ref (A 9)), .val (.ref b42_b40_b28_b14), .val (.int (1 : Int32))] [(.ref b42_b40_b28_b14), (.int (46 : Int32))])) _
    refine XS.iloadN X0.here hx rfl (hb hby own_d_jdk_43_method_13_code_19) rfl ?_
    show Steps p.tables e below (s₁.setTop (mkF m 20 #[.val (.ref (A 9)), .val (.ref b42_b40_b28_b14), .val (.int (1 : Int32))] [(.int (1 : Int32)), (.ref b42_b40_b28_b14), (.int (46 : Int32))])) _
    refine X0.baloadBytes hx (j := (1 : Int32)) (v := (.int (46 : Int32))) (by rw [e0]; exact Ar65.1) (State.isArrayOf_alike hZ.alike Ar65.2.1) Ar65.2.2 hin65 hat65 (g := (mkF m 20 #[.val (.ref (A 9)), .val (.ref b42_b40_b28_b14), .val (.int (1 : Int32))] [(.int (1 : Int32)), (.ref b42_b40_b28_b14), (.int (46 : Int32))])) rfl rfl (hb hby own_d_jdk_43_method_13_code_20) _ ?_
    show Steps p.tables e below (s₁.setTop (mkF m 21 #[.val (.ref (A 9)), .val (.ref b42_b40_b28_b14), .val (.int (1 : Int32))] [(.int (46 : Int32)), (.int (46 : Int32))])) _
    refine XS.icmpYes X0.here hx rfl (pc0 := 21) (pc' := 26) rfl (hb hby own_d_jdk_43_method_13_code_21) rfl (teq (by decide : (46 : Int32) = (46 : Int32))).1 (by decide) (by decide) ?_
    show Steps p.tables e below (s₁.setTop (mkF m 26 #[.val (.ref (A 9)), .val (.ref b42_b40_b28_b14), .val (.int (1 : Int32))] [])) _
    refine XS.iinc X0.here hx rfl (hb hby own_d_jdk_43_method_13_code_26) rfl (l' := #[.val (.ref (A 9)), .val (.ref b42_b40_b28_b14), .val (.int (2 : Int32))]) rfl ?_
    show Steps p.tables e below (s₁.setTop (mkF m 29 #[.val (.ref (A 9)), .val (.ref b42_b40_b28_b14), .val (.int (2 : Int32))] [])) _
    refine XS.goto X0.here hx rfl (pc0 := 29) (pc' := 9) rfl (hb hby own_d_jdk_43_method_13_code_29) (by decide) (by decide) ?_
    show Steps p.tables e below (s₁.setTop (mkF m 9 #[.val (.ref (A 9)), .val (.ref b42_b40_b28_b14), .val (.int (2 : Int32))] [])) _
    refine XS.iloadN X0.here hx rfl (hb hby own_d_jdk_43_method_13_code_9) rfl ?_
    show Steps p.tables e below (s₁.setTop (mkF m 10 #[.val (.ref (A 9)), .val (.ref b42_b40_b28_b14), .val (.int (2 : Int32))] [(.int (2 : Int32))])) _
    refine XS.aloadN X0.here hx rfl (hb hby own_d_jdk_43_method_13_code_10) rfl rfl ?_
    show Steps p.tables e below (s₁.setTop (mkF m 11 #[.val (.ref (A 9)), .val (.ref b42_b40_b28_b14), .val (.int (2 : Int32))] [(.ref (A 9)), (.int (2 : Int32))])) _
    refine X0.arraylength hx (by rw [e0]; exact Ar66.1) (State.isArrayOf_alike hZ.alike Ar66.2.1) (g := (mkF m 11 #[.val (.ref (A 9)), .val (.ref b42_b40_b28_b14), .val (.int (2 : Int32))] [(.ref (A 9)), (.int (2 : Int32))])) rfl rfl (hb hby own_d_jdk_43_method_13_code_11) _ ?_
    rw [len_of Sz66 Nn66]
    show Steps p.tables e below (s₁.setTop (mkF m 12 #[.val (.ref (A 9)), .val (.ref b42_b40_b28_b14), .val (.int (2 : Int32))] [(.int (3 : Int32)), (.int (2 : Int32))])) _
    refine XS.icmpNo X0.here hx rfl (hb hby own_d_jdk_43_method_13_code_12) rfl (tlt (by decide : (2 : Int32) < (3 : Int32))).2.1 ?_
    show Steps p.tables e below (s₁.setTop (mkF m 15 #[.val (.ref (A 9)), .val (.ref b42_b40_b28_b14), .val (.int (2 : Int32))] [])) _
    refine XS.aloadN X0.here hx rfl (hb hby own_d_jdk_43_method_13_code_15) rfl rfl ?_
    show Steps p.tables e below (s₁.setTop (mkF m 16 #[.val (.ref (A 9)), .val (.ref b42_b40_b28_b14), .val (.int (2 : Int32))] [(.ref (A 9))])) _
    refine XS.iloadN X0.here hx rfl (hb hby own_d_jdk_43_method_13_code_16) rfl ?_
    show Steps p.tables e below (s₁.setTop (mkF m 17 #[.val (.ref (A 9)), .val (.ref b42_b40_b28_b14), .val (.int (2 : Int32))] [(.int (2 : Int32)), (.ref (A 9))])) _
    refine X0.baloadBytes hx (j := (2 : Int32)) (v := (.int (48 : Int32))) (by rw [e0]; exact Ar67.1) (State.isArrayOf_alike hZ.alike Ar67.2.1) Ar67.2.2 hin67 hat67 (g := (mkF m 17 #[.val (.ref (A 9)), .val (.ref b42_b40_b28_b14), .val (.int (2 : Int32))] [(.int (2 : Int32)), (.ref (A 9))])) rfl rfl (hb hby own_d_jdk_43_method_13_code_17) _ ?_
    show Steps p.tables e below (s₁.setTop (mkF m 18 #[.val (.ref (A 9)), .val (.ref b42_b40_b28_b14), .val (.int (2 : Int32))] [(.int (48 : Int32))])) _
    refine XS.aloadN X0.here hx rfl (hb hby own_d_jdk_43_method_13_code_18) rfl rfl ?_
    show Steps p.tables e below (s₁.setTop (mkF m 19 #[.val (.ref (A 9)), .val (.ref b42_b40_b28_b14), .val (.int (2 : Int32))] [(.ref b42_b40_b28_b14), (.int (48 : Int32))])) _
    refine XS.iloadN X0.here hx rfl (hb hby own_d_jdk_43_method_13_code_19) rfl ?_
    show Steps p.tables e below (s₁.setTop (mkF m 20 #[.val (.ref (A 9)), .val (.ref b42_b40_b28_b14), .val (.int (2 : Int32))] [(.int (2 : Int32)), (.ref b42_b40_b28_b14), (.int (48 : Int32))])) _
    refine X0.baloadBytes hx (j := (2 : Int32)) (v := (.int (48 : Int32))) (by rw [e0]; exact Ar68.1) (State.isArrayOf_alike hZ.alike Ar68.2.1) Ar68.2.2 hin68 hat68 (g := (mkF m 20 #[.val (.ref (A 9)), .val (.ref b42_b40_b28_b14), .val (.int (2 : Int32))] [(.int (2 : Int32)), (.ref b42_b40_b28_b14), (.int (48 : Int32))])) rfl rfl (hb hby own_d_jdk_43_method_13_code_20) _ ?_
    show Steps p.tables e below (s₁.setTop (mkF m 21 #[.val (.ref (A 9)), .val (.ref b42_b40_b28_b14), .val (.int (2 : Int32))] [(.int (48 : Int32)), (.int (48 : Int32))])) _
    refine XS.icmpYes X0.here hx rfl (pc0 := 21) (pc' := 26) rfl (hb hby own_d_jdk_43_method_13_code_21) rfl (teq (by decide : (48 : Int32) = (48 : Int32))).1 (by decide) (by decide) ?_
    show Steps p.tables e below (s₁.setTop (mkF m 26 #[.val (.ref (A 9)), .val (.ref b42_b40_b28_b14), .val (.int (2 : Int32))] [])) _
    refine XS.iinc X0.here hx rfl (hb hby own_d_jdk_43_method_13_code_26) rfl (l' := #[.val (.ref (A 9)), .val (.ref b42_b40_b28_b14), .val (.int (3 : Int32))]) rfl ?_
    show Steps p.tables e below (s₁.setTop (mkF m 29 #[.val (.ref (A 9)), .val (.ref b42_b40_b28_b14), .val (.int (3 : Int32))] [])) _
    refine XS.goto X0.here hx rfl (pc0 := 29) (pc' := 9) rfl (hb hby own_d_jdk_43_method_13_code_29) (by decide) (by decide) ?_
    show Steps p.tables e below (s₁.setTop (mkF m 9 #[.val (.ref (A 9)), .val (.ref b42_b40_b28_b14), .val (.int (3 : Int32))] [])) _
    refine XS.iloadN X0.here hx rfl (hb hby own_d_jdk_43_method_13_code_9) rfl ?_
    show Steps p.tables e below (s₁.setTop (mkF m 10 #[.val (.ref (A 9)), .val (.ref b42_b40_b28_b14), .val (.int (3 : Int32))] [(.int (3 : Int32))])) _
    refine XS.aloadN X0.here hx rfl (hb hby own_d_jdk_43_method_13_code_10) rfl rfl ?_
    show Steps p.tables e below (s₁.setTop (mkF m 11 #[.val (.ref (A 9)), .val (.ref b42_b40_b28_b14), .val (.int (3 : Int32))] [(.ref (A 9)), (.int (3 : Int32))])) _
    refine X0.arraylength hx (by rw [e0]; exact Ar69.1) (State.isArrayOf_alike hZ.alike Ar69.2.1) (g := (mkF m 11 #[.val (.ref (A 9)), .val (.ref b42_b40_b28_b14), .val (.int (3 : Int32))] [(.ref (A 9)), (.int (3 : Int32))])) rfl rfl (hb hby own_d_jdk_43_method_13_code_11) _ ?_
    rw [len_of Sz69 Nn69]
    show Steps p.tables e below (s₁.setTop (mkF m 12 #[.val (.ref (A 9)), .val (.ref b42_b40_b28_b14), .val (.int (3 : Int32))] [(.int (3 : Int32)), (.int (3 : Int32))])) _
    refine XS.icmpYes X0.here hx rfl (pc0 := 12) (pc' := 32) rfl (hb hby own_d_jdk_43_method_13_code_12) rfl (flt (by decide : ¬ ((3 : Int32) < (3 : Int32)))).2.1 (by decide) (by decide) ?_
    show Steps p.tables e below (s₁.setTop (mkF m 32 #[.val (.ref (A 9)), .val (.ref b42_b40_b28_b14), .val (.int (3 : Int32))] [])) _
    refine XS.iconst X0.here hx rfl (hb hby own_d_jdk_43_method_13_code_32) ?_
    show Steps p.tables e below (s₁.setTop (mkF m 33 #[.val (.ref (A 9)), .val (.ref b42_b40_b28_b14), .val (.int (3 : Int32))] [(.int (1 : Int32))])) _
    exact retN X0 hx (t := .boolean) Bd.returns (by simp) (hb hby own_d_jdk_43_method_13_code_33) hr
  · show PQ (some (.int (1 : Int32))) h0 n0 _ s₁.heap _
    rw [e0]
    exact ⟨rfl, N0, rfl⟩
theorem own_d_jdk_42_method_66_code_0 : decode jdk_42_method_66_code 0 = .ok (.aload_n 0, 1) := by decide +kernel
theorem own_d_jdk_42_method_66_code_1 : decode jdk_42_method_66_code 1 = .ok (.aload_n 1, 1) := by decide +kernel
theorem own_d_jdk_42_method_66_code_2 : decode jdk_42_method_66_code 2 = .ok (.if_acmp .ne 5, 3) := by decide +kernel
theorem own_d_jdk_42_method_66_code_7 : decode jdk_42_method_66_code 7 = .ok (.aload_n 1, 1) := by decide +kernel
theorem own_d_jdk_42_method_66_code_8 : decode jdk_42_method_66_code 8 = .ok (.instanceof 10, 3) := by decide +kernel
theorem own_d_jdk_42_method_66_code_11 : decode jdk_42_method_66_code 11 = .ok (.ifCond .eq 43, 3) := by decide +kernel
theorem own_d_jdk_42_method_66_code_14 : decode jdk_42_method_66_code 14 = .ok (.aload_n 1, 1) := by decide +kernel
theorem own_d_jdk_42_method_66_code_15 : decode jdk_42_method_66_code 15 = .ok (.checkcast 10, 3) := by decide +kernel
theorem own_d_jdk_42_method_66_code_18 : decode jdk_42_method_66_code 18 = .ok (.astore_n 2, 1) := by decide +kernel
theorem own_d_jdk_42_method_66_code_19 : decode jdk_42_method_66_code 19 = .ok (.getstatic 38, 3) := by decide +kernel
theorem own_d_jdk_42_method_66_code_22 : decode jdk_42_method_66_code 22 = .ok (.ifCond .eq 14, 3) := by decide +kernel
theorem own_d_jdk_42_method_66_code_25 : decode jdk_42_method_66_code 25 = .ok (.aload_n 0, 1) := by decide +kernel
theorem own_d_jdk_42_method_66_code_26 : decode jdk_42_method_66_code 26 = .ok (.getfield 15, 3) := by decide +kernel
theorem own_d_jdk_42_method_66_code_29 : decode jdk_42_method_66_code 29 = .ok (.aload_n 2, 1) := by decide +kernel
theorem own_d_jdk_42_method_66_code_30 : decode jdk_42_method_66_code 30 = .ok (.getfield 15, 3) := by decide +kernel
theorem own_d_jdk_42_method_66_code_33 : decode jdk_42_method_66_code 33 = .ok (.if_icmp .ne 21, 3) := by decide +kernel
theorem own_d_jdk_42_method_66_code_36 : decode jdk_42_method_66_code 36 = .ok (.aload_n 0, 1) := by decide +kernel
theorem own_d_jdk_42_method_66_code_37 : decode jdk_42_method_66_code 37 = .ok (.getfield 9, 3) := by decide +kernel
theorem own_d_jdk_42_method_66_code_40 : decode jdk_42_method_66_code 40 = .ok (.aload_n 2, 1) := by decide +kernel
theorem own_d_jdk_42_method_66_code_41 : decode jdk_42_method_66_code 41 = .ok (.getfield 9, 3) := by decide +kernel
theorem own_d_jdk_42_method_66_code_44 : decode jdk_42_method_66_code 44 = .ok (.invokestatic 541, 3) := by decide +kernel
theorem own_d_jdk_42_method_66_code_47 : decode jdk_42_method_66_code 47 = .ok (.ifCond .eq 7, 3) := by decide +kernel
theorem own_d_jdk_42_method_66_code_50 : decode jdk_42_method_66_code 50 = .ok (.iconst 1, 1) := by decide +kernel
theorem own_d_jdk_42_method_66_code_51 : decode jdk_42_method_66_code 51 = .ok (.goto 4, 3) := by decide +kernel
theorem own_d_jdk_42_method_66_code_55 : decode jdk_42_method_66_code 55 = .ok (.ireturn, 1) := by decide +kernel
theorem own_ef_rm8 (m : MethodId) (p1 : Int32) (A : Nat → Addr) (K : Nat → ClassId) (cs : Int32)  (b10 : Addr) (b42_b40_b28_b14 : Addr) (k42_k40_k28_k14 : ClassId) : entryFrame m #[(.ref (A 5)), (.ref b10)] 3 = mkF m 0 #[.val (.ref (A 5)), .val (.ref b10), .unset] [] := by first | (simp [entryFrame, mkF, argsToLocals, Value.category, maxLocals]; done) | rfl
set_option maxRecDepth 65536 in
set_option maxHeartbeats 40000000 in
theorem rm8 (l : Launch) (Z : State) (a0 : Array Value) (hw : ∀ d ∈ tables_1, d.before a0 Z = true) (ws : List Jvm.Cond) (h0 : Heap) (n0 : Nat) (p1 : Int32) (A : Nat → Addr) (K : Nat → ClassId) (cs : Int32)  (b10 : Addr) (b42_b40_b28_b14 : Addr) (k42_k40_k28_k14 : ClassId) (EN : own_St Z A K cs) (OL0 : Old Z n0 h0) (G_F_b10_java_lang_String_value : Fld Z h0 b10 "java/lang/String" "value" "[B" (.ref b42_b40_b28_b14)) (G_A_b42_b40_b28_b14 : Arv Z h0 b42_b40_b28_b14 k42_k40_k28_k14 .byte (3 : Int32) [(.int (51 : Int32)), (.int (46 : Int32)), (.int (48 : Int32))] (.int (0 : Int32))) (G_E_b10 : Exa Z h0 b10 "java/lang/String") (G_F_b10_java_lang_String_coder : Fld Z h0 b10 "java/lang/String" "coder" "B" (.int (0 : Int32))) (gn_b10 : n0 ≤ b10) :
    MetFree l own_m0 (head1 (Jvm.Cond.code own_m0 jdk_42_method_66_code 3 (some .boolean) :: ws) ({ frames := 1, cells := 0, slots := 0, locals := 14 } : Room)) (fun a U => a = #[(.ref (A 5)), (.ref b10)] ∧ Z.Warmed39 U.vm ∧ U.heap = h0) (fun _ _ _ _ _ => True) (fun _ U o U' => ∃ v L, o = .returned v ∧ (PQ (some (.int (1 : Int32))) h0 n0) v U'.heap L ∧ FrameEnd U o U' L ({ frames := 1, cells := 0, slots := 0, locals := 14 } : Room).cells ({ frames := 1, cells := 0, slots := 0, locals := 14 } : Room).slots) := by
  refine MetFree.of_bodySF (plainFor_of_name own_pn1) hisR ?_
  intro p e s m args below meth c s₁ Bd hml0 hP hK
  obtain ⟨rfl, hZ, hh⟩ := hP
  have hx := Bd.exec
  have hby := Bd.bytes
  have hml : c.maxLocals = 3 := hml0
  have hown : s.vm.findClass "java/lang/String" = some m.cls := findClass_of_methodNamed Bd.named
  have hnm := (name_of_methodNamed Bd.named Bd.method).1
  have X0 : Stand p l e ({ frames := 1, cells := 0, slots := 0, locals := 14 } : Room) s m #[(.ref (A 5)), (.ref b10)] below meth c s₁ [] 0 0 := Stand.of_body Bd
  have e0 : s₁.heap = h0 := by rw [← hh, Bd.state]; rfl
  have N0 := Fr.nil n0
  have pre0 : ∀ t, Steps p.tables e below (s₁.setTop (mkF m 0 #[.val (.ref (A 5)), .val (.ref b10), .unset] [])) t → Steps p.tables e below (s₁.setTop (entryFrame m #[(.ref (A 5)), (.ref b10)] 3)) t := fun t k => castTop (own_ef_rm8 m p1 A K cs b10 b42_b40_b28_b14 k42_k40_k28_k14) k
  have KK0 : Keep h0 h0 [] := Keep.refl _ _
  obtain ⟨T51, X51, e51, st51⟩ := instY X0 hx hZ hown (hw _ (List.mem_of_getElem? (i := 61) rfl)) e0 (Ins.self G_E_b10) (g := (mkF m 8 #[.val (.ref (A 5)), .val (.ref b10), .unset] [(.ref b10)])) rfl rfl (hb hby own_d_jdk_42_method_66_code_8)
  obtain ⟨T52, X52, e52, st52⟩ := castY X51 hx hZ hown (hw _ (List.mem_of_getElem? (i := 61) rfl)) e51 (Ins.self G_E_b10) (g := (mkF m 15 #[.val (.ref (A 5)), .val (.ref b10), .unset] [(.ref b10)])) rfl rfl (hb hby own_d_jdk_42_method_66_code_15)
  obtain ⟨T53, X53, e53, st53⟩ := getS2 X52 hx hZ hown (host := "") (Or.inl (hw _ (List.mem_of_getElem? (i := 14) rfl))) Via.refl e52 (EN.2.2.2.1.2.2.2.1.ext OL0.2) (g := (mkF m 19 #[.val (.ref (A 5)), .val (.ref b10), .val (.ref b10)] [])) rfl (hb hby own_d_jdk_42_method_66_code_19)
  obtain ⟨T54, X54, e54, st54⟩ := getF X53 hx hZ hown (host := "") (Or.inl (hw _ (List.mem_of_getElem? (i := 26) rfl))) Via.refl e53 (EN.2.2.2.1.2.2.2.2.2.2.1.ext OL0.2) (g := (mkF m 26 #[.val (.ref (A 5)), .val (.ref b10), .val (.ref b10)] [(.ref (A 5))])) rfl rfl (hb hby own_d_jdk_42_method_66_code_26)
  obtain ⟨T55, X55, e55, st55⟩ := getF X54 hx hZ hown (host := "") (Or.inl (hw _ (List.mem_of_getElem? (i := 26) rfl))) Via.refl e54 G_F_b10_java_lang_String_coder (g := (mkF m 30 #[.val (.ref (A 5)), .val (.ref b10), .val (.ref b10)] [(.ref b10), (.int (0 : Int32))])) rfl rfl (hb hby own_d_jdk_42_method_66_code_30)
  obtain ⟨T56, X56, e56, st56⟩ := getF X55 hx hZ hown (host := "") (Or.inl (hw _ (List.mem_of_getElem? (i := 28) rfl))) Via.refl e55 (EN.2.2.1.2.2.2.1.ext OL0.2) (g := (mkF m 37 #[.val (.ref (A 5)), .val (.ref b10), .val (.ref b10)] [(.ref (A 5))])) rfl rfl (hb hby own_d_jdk_42_method_66_code_37)
  obtain ⟨T57, X57, e57, st57⟩ := getF X56 hx hZ hown (host := "") (Or.inl (hw _ (List.mem_of_getElem? (i := 28) rfl))) Via.refl e56 G_F_b10_java_lang_String_value (g := (mkF m 41 #[.val (.ref (A 5)), .val (.ref b10), .val (.ref b10)] [(.ref b10), (.ref (A 9))])) rfl rfl (hb hby own_d_jdk_42_method_66_code_41)
  obtain ⟨_, _, ⟨T70, L70, k70, n70⟩, -, X70, ⟨Lc70, hQ70, l70, y70, z70⟩, st70⟩ := Jvm.LawKit.callS X57 hx (y := own_m1) hown (mvT hZ (hw _ (List.mem_of_getElem? (i := 62) rfl))) (mvT hZ (hw _ (List.mem_of_getElem? (i := 63) rfl))) (mvT hZ (hw _ (List.mem_of_getElem? (i := 64) rfl))) (mvT hZ (hw _ (List.mem_of_getElem? (i := 65) rfl))) (by decide) (backOf (W := 0) (rm9 l Z a0 hw [] h0 n0 p1 A K cs b42_b40_b28_b14 k42_k40_k28_k14 EN OL0 G_A_b42_b40_b28_b14) hZ (hw _ (List.mem_of_getElem? (i := 65) rfl)) (hw _ (List.mem_of_getElem? (i := 64) rfl)) (by decide) (by decide)) (g := (mkF m 44 #[.val (.ref (A 5)), .val (.ref b10), .val (.ref b10)] [(.ref b42_b40_b28_b14), (.ref (A 9))])) rfl (by rw [hml]; rfl) (argsL := [(.ref (A 9)), (.ref b42_b40_b28_b14)]) (rest := []) (lenOf own_pd6 rfl) rfl (by show 2 * 0 + _ ≤ _; exact Nat.le_of_eq rfl) (hb hby own_d_jdk_42_method_66_code_44) (fun _ _ => ⟨rfl, e57, (by decide : 0 + 0 ≤ _), (by decide : 0 + 0 ≤ _)⟩)
  dsimp only [Pt.U, Pt.locs, Pt.cells, Pt.slots] at X70 l70 y70 z70 st70 hQ70
  subst l70 y70 z70
  obtain ⟨rfl, N70q, e70⟩ := hQ70
  have N70 := Fr.app N0 N70q
  obtain ⟨fs, hr, hrun, hended, hW, hsame⟩ := X70.leave (v := some (.int (1 : Int32))) (fun h => by rw [Bd.returns] at h; cases h)
  refine ⟨_, _, pre0 _ ?_, hrun, hended, _, _, rfl, ?_, ⟨_, rfl⟩, hW, hsame.mono (by decide) (by decide)⟩
  · show Steps p.tables e below (s₁.setTop (mkF m 0 #[.val (.ref (A 5)), .val (.ref b10), .unset] [])) _
    refine XS.aloadN X0.here hx rfl (hb hby own_d_jdk_42_method_66_code_0) rfl rfl ?_
    show Steps p.tables e below (s₁.setTop (mkF m 1 #[.val (.ref (A 5)), .val (.ref b10), .unset] [(.ref (A 5))])) _
    refine XS.aloadN X0.here hx rfl (hb hby own_d_jdk_42_method_66_code_1) rfl rfl ?_
    show Steps p.tables e below (s₁.setTop (mkF m 2 #[.val (.ref (A 5)), .val (.ref b10), .unset] [(.ref b10), (.ref (A 5))])) _
    refine Jvm.RoadKit.acmp (g := (mkF m 2 #[.val (.ref (A 5)), .val (.ref b10), .unset] [(.ref b10), (.ref (A 5))])) X0 hx rfl rfl rfl (pc0 := 2) (pc' := 7) (same := false) rfl (hb hby own_d_jdk_42_method_66_code_2) rfl (decide_eq_false fun q => (OL0.ne EN.2.1.2.2.2.2.1.lt gn_b10) (Value.ref.inj q)) (by decide) (by decide) ?_
    show Steps p.tables e below (s₁.setTop (mkF m 7 #[.val (.ref (A 5)), .val (.ref b10), .unset] [])) _
    refine XS.aloadN X0.here hx rfl (hb hby own_d_jdk_42_method_66_code_7) rfl rfl ?_
    show Steps p.tables e below (s₁.setTop (mkF m 8 #[.val (.ref (A 5)), .val (.ref b10), .unset] [(.ref b10)])) _
    refine st51 _ ?_
    show Steps p.tables e below (T51.setTop (mkF m 11 #[.val (.ref (A 5)), .val (.ref b10), .unset] [(.int (1 : Int32))])) _
    refine XS.ifNo X51.here hx rfl (hb hby own_d_jdk_42_method_66_code_11) rfl ((if0 _ _).trans (feq (by decide : ¬ ((1 : Int32) = (0 : Int32)))).1) ?_
    show Steps p.tables e below (T51.setTop (mkF m 14 #[.val (.ref (A 5)), .val (.ref b10), .unset] [])) _
    refine XS.aloadN X51.here hx rfl (hb hby own_d_jdk_42_method_66_code_14) rfl rfl ?_
    show Steps p.tables e below (T51.setTop (mkF m 15 #[.val (.ref (A 5)), .val (.ref b10), .unset] [(.ref b10)])) _
    refine st52 _ ?_
    show Steps p.tables e below (T52.setTop (mkF m 18 #[.val (.ref (A 5)), .val (.ref b10), .unset] [(.ref b10)])) _
    refine XS.astoreN X52.here hx rfl (hb hby own_d_jdk_42_method_66_code_18) rfl rfl (l' := #[.val (.ref (A 5)), .val (.ref b10), .val (.ref b10)]) rfl ?_
    show Steps p.tables e below (T52.setTop (mkF m 19 #[.val (.ref (A 5)), .val (.ref b10), .val (.ref b10)] [])) _
    refine st53 _ ?_
    show Steps p.tables e below (T53.setTop (mkF m 22 #[.val (.ref (A 5)), .val (.ref b10), .val (.ref b10)] [(.int cs)])) _
    refine XS.ifNo X53.here hx rfl (hb hby own_d_jdk_42_method_66_code_22) rfl ((if0 _ _).trans (feq EN.2.2.2.1.2.2.2.2.1).1) ?_
    show Steps p.tables e below (T53.setTop (mkF m 25 #[.val (.ref (A 5)), .val (.ref b10), .val (.ref b10)] [])) _
    refine XS.aloadN X53.here hx rfl (hb hby own_d_jdk_42_method_66_code_25) rfl rfl ?_
    show Steps p.tables e below (T53.setTop (mkF m 26 #[.val (.ref (A 5)), .val (.ref b10), .val (.ref b10)] [(.ref (A 5))])) _
    refine st54 _ ?_
    show Steps p.tables e below (T54.setTop (mkF m 29 #[.val (.ref (A 5)), .val (.ref b10), .val (.ref b10)] [(.int (0 : Int32))])) _
    refine XS.aloadN X54.here hx rfl (hb hby own_d_jdk_42_method_66_code_29) rfl rfl ?_
    show Steps p.tables e below (T54.setTop (mkF m 30 #[.val (.ref (A 5)), .val (.ref b10), .val (.ref b10)] [(.ref b10), (.int (0 : Int32))])) _
    refine st55 _ ?_
    show Steps p.tables e below (T55.setTop (mkF m 33 #[.val (.ref (A 5)), .val (.ref b10), .val (.ref b10)] [(.int (0 : Int32)), (.int (0 : Int32))])) _
    refine XS.icmpNo X55.here hx rfl (hb hby own_d_jdk_42_method_66_code_33) rfl (teq (by decide : (0 : Int32) = (0 : Int32))).2 ?_
    show Steps p.tables e below (T55.setTop (mkF m 36 #[.val (.ref (A 5)), .val (.ref b10), .val (.ref b10)] [])) _
    refine XS.aloadN X55.here hx rfl (hb hby own_d_jdk_42_method_66_code_36) rfl rfl ?_
    show Steps p.tables e below (T55.setTop (mkF m 37 #[.val (.ref (A 5)), .val (.ref b10), .val (.ref b10)] [(.ref (A 5))])) _
    refine st56 _ ?_
    show Steps p.tables e below (T56.setTop (mkF m 40 #[.val (.ref (A 5)), .val (.ref b10), .val (.ref b10)] [(.ref (A 9))])) _
    refine XS.aloadN X56.here hx rfl (hb hby own_d_jdk_42_method_66_code_40) rfl rfl ?_
    show Steps p.tables e below (T56.setTop (mkF m 41 #[.val (.ref (A 5)), .val (.ref b10), .val (.ref b10)] [(.ref b10), (.ref (A 9))])) _
    refine st57 _ ?_
    show Steps p.tables e below (T57.setTop (mkF m 44 #[.val (.ref (A 5)), .val (.ref b10), .val (.ref b10)] [(.ref b42_b40_b28_b14), (.ref (A 9))])) _
    refine st70 _ ?_
    show Steps p.tables e below (T70.setTop (mkF m 47 #[.val (.ref (A 5)), .val (.ref b10), .val (.ref b10)] [(.int (1 : Int32))])) _
    refine XS.ifNo X70.here hx rfl (hb hby own_d_jdk_42_method_66_code_47) rfl ((if0 _ _).trans (feq (by decide : ¬ ((1 : Int32) = (0 : Int32)))).1) ?_
    show Steps p.tables e below (T70.setTop (mkF m 50 #[.val (.ref (A 5)), .val (.ref b10), .val (.ref b10)] [])) _
    refine XS.iconst X70.here hx rfl (hb hby own_d_jdk_42_method_66_code_50) ?_
    show Steps p.tables e below (T70.setTop (mkF m 51 #[.val (.ref (A 5)), .val (.ref b10), .val (.ref b10)] [(.int (1 : Int32))])) _
    refine XS.goto X70.here hx rfl (pc0 := 51) (pc' := 55) rfl (hb hby own_d_jdk_42_method_66_code_51) (by decide) (by decide) ?_
    show Steps p.tables e below (T70.setTop (mkF m 55 #[.val (.ref (A 5)), .val (.ref b10), .val (.ref b10)] [(.int (1 : Int32))])) _
    exact retN X70 hx (t := .boolean) Bd.returns (by simp) (hb hby own_d_jdk_42_method_66_code_55) hr
  · show PQ (some (.int (1 : Int32))) h0 n0 _ T70.heap _
    rw [e70]
    exact ⟨rfl, N70, rfl⟩
def Q_rm6 (Z : State) (p1 : Int32) (A : Nat → Addr) (K : Nat → ClassId) (cs : Int32) (b3 : Addr) (b10 : Addr) (b42_b40_b28_b14 : Addr) (k3 : ClassId) (k42_k40_k28_k14 : ClassId) (h0 : Heap) (n0 : Nat) (v : Option Value) (h : Heap) (L : List Loc) : Prop := ∃ b47_b45 : Addr, v = (some (.ref (A 0))) ∧ Fr n0 L ∧ Keep h0 h [] ∧ (n0 ≤ b47_b45 ∧ h0.size ≤ b47_b45) ∧ (Arv Z h b47_b45 (K 0) (.object "com/example/dongl/dongl/crypto/ProtocolVersion") (4 : Int32) [(.ref (A 0)), (.ref (A 1)), (.ref (A 2)), (.ref (A 3))] .null) ∧ (Exa Z h b47_b45 "[Lcom/example/dongl/dongl/crypto/ProtocolVersion;")
theorem own_d_prog_26_method_4_code_0 : decode prog_26_method_4_code 0 = .ok (.invokestatic 39, 3) := by decide +kernel
theorem own_d_prog_26_method_4_code_3 : decode prog_26_method_4_code 3 = .ok (.astore_n 1, 1) := by decide +kernel
theorem own_d_prog_26_method_4_code_4 : decode prog_26_method_4_code 4 = .ok (.aload_n 1, 1) := by decide +kernel
theorem own_d_prog_26_method_4_code_5 : decode prog_26_method_4_code 5 = .ok (.arraylength, 1) := by decide +kernel
theorem own_d_prog_26_method_4_code_6 : decode prog_26_method_4_code 6 = .ok (.istore_n 2, 1) := by decide +kernel
theorem own_d_prog_26_method_4_code_7 : decode prog_26_method_4_code 7 = .ok (.iconst 0, 1) := by decide +kernel
theorem own_d_prog_26_method_4_code_8 : decode prog_26_method_4_code 8 = .ok (.istore_n 3, 1) := by decide +kernel
theorem own_d_prog_26_method_4_code_9 : decode prog_26_method_4_code 9 = .ok (.iload_n 3, 1) := by decide +kernel
theorem own_d_prog_26_method_4_code_10 : decode prog_26_method_4_code 10 = .ok (.iload_n 2, 1) := by decide +kernel
theorem own_d_prog_26_method_4_code_11 : decode prog_26_method_4_code 11 = .ok (.if_icmp .ge 29, 3) := by decide +kernel
theorem own_d_prog_26_method_4_code_14 : decode prog_26_method_4_code 14 = .ok (.aload_n 1, 1) := by decide +kernel
theorem own_d_prog_26_method_4_code_15 : decode prog_26_method_4_code 15 = .ok (.iload_n 3, 1) := by decide +kernel
theorem own_d_prog_26_method_4_code_16 : decode prog_26_method_4_code 16 = .ok (.aaload, 1) := by decide +kernel
theorem own_d_prog_26_method_4_code_17 : decode prog_26_method_4_code 17 = .ok (.astore 4, 2) := by decide +kernel
theorem own_d_prog_26_method_4_code_19 : decode prog_26_method_4_code 19 = .ok (.aload 4, 2) := by decide +kernel
theorem own_d_prog_26_method_4_code_21 : decode prog_26_method_4_code 21 = .ok (.getfield 35, 3) := by decide +kernel
theorem own_d_prog_26_method_4_code_24 : decode prog_26_method_4_code 24 = .ok (.aload_n 0, 1) := by decide +kernel
theorem own_d_prog_26_method_4_code_25 : decode prog_26_method_4_code 25 = .ok (.invokevirtual 43, 3) := by decide +kernel
theorem own_d_prog_26_method_4_code_28 : decode prog_26_method_4_code 28 = .ok (.ifCond .eq 6, 3) := by decide +kernel
theorem own_d_prog_26_method_4_code_31 : decode prog_26_method_4_code 31 = .ok (.aload 4, 2) := by decide +kernel
theorem own_d_prog_26_method_4_code_33 : decode prog_26_method_4_code 33 = .ok (.areturn, 1) := by decide +kernel
theorem own_ef_rm6 (m : MethodId) (p1 : Int32) (A : Nat → Addr) (K : Nat → ClassId) (cs : Int32)  (b3 : Addr) (b10 : Addr) (b42_b40_b28_b14 : Addr) (k3 : ClassId) (k42_k40_k28_k14 : ClassId) : entryFrame m #[(.ref b10)] 5 = mkF m 0 #[.val (.ref b10), .unset, .unset, .unset, .unset] [] := by first | (simp [entryFrame, mkF, argsToLocals, Value.category, maxLocals]; done) | rfl
set_option maxRecDepth 65536 in
set_option maxHeartbeats 40000000 in
theorem rm6 (l : Launch) (Z : State) (a0 : Array Value) (hw : ∀ d ∈ tables_1, d.before a0 Z = true) (ws : List Jvm.Cond) (h0 : Heap) (n0 : Nat) (p1 : Int32) (A : Nat → Addr) (K : Nat → ClassId) (cs : Int32)  (b3 : Addr) (b10 : Addr) (b42_b40_b28_b14 : Addr) (k3 : ClassId) (k42_k40_k28_k14 : ClassId) (EN : own_St Z A K cs) (OL0 : Old Z n0 h0) (G_A_b3 : Arv Z h0 b3 k3 .char (3 : Int32) [(.int (51 : Int32)), (.int (46 : Int32)), (.int (48 : Int32))] (.int (0 : Int32))) (G_E_b10 : Exa Z h0 b10 "java/lang/String") (G_A_b42_b40_b28_b14 : Arv Z h0 b42_b40_b28_b14 k42_k40_k28_k14 .byte (3 : Int32) [(.int (51 : Int32)), (.int (46 : Int32)), (.int (48 : Int32))] (.int (0 : Int32))) (G_F_b10_java_lang_String_value : Fld Z h0 b10 "java/lang/String" "value" "[B" (.ref b42_b40_b28_b14)) (G_F_b10_java_lang_String_coder : Fld Z h0 b10 "java/lang/String" "coder" "B" (.int (0 : Int32))) (gn_b10 : n0 ≤ b10) :
    MetFree l own_m9 (head1 (Jvm.Cond.code own_m9 prog_26_method_4_code 5 (some (.object "com/example/dongl/dongl/crypto/ProtocolVersion")) :: ws) ({ frames := 2, cells := 1, slots := 4, locals := 28 } : Room)) (fun a U => a = #[(.ref b10)] ∧ Z.Warmed39 U.vm ∧ U.heap = h0) (fun _ _ _ _ _ => True) (fun _ U o U' => ∃ v L, o = .returned v ∧ Q_rm6 Z p1 A K cs b3 b10 b42_b40_b28_b14 k3 k42_k40_k28_k14 h0 n0 v U'.heap L ∧ FrameEnd U o U' L ({ frames := 2, cells := 1, slots := 4, locals := 28 } : Room).cells ({ frames := 2, cells := 1, slots := 4, locals := 28 } : Room).slots) := by
  refine MetFree.of_bodySF (plainFor_of_name own_pn2) hisR ?_
  intro p e s m args below meth c s₁ Bd hml0 hP hK
  obtain ⟨rfl, hZ, hh⟩ := hP
  have hx := Bd.exec
  have hby := Bd.bytes
  have hml : c.maxLocals = 5 := hml0
  have hown : s.vm.findClass "com/example/dongl/dongl/crypto/ProtocolVersion" = some m.cls := findClass_of_methodNamed Bd.named
  have hnm := (name_of_methodNamed Bd.named Bd.method).1
  have X0 : Stand p l e ({ frames := 2, cells := 1, slots := 4, locals := 28 } : Room) s m #[(.ref b10)] below meth c s₁ [] 0 0 := Stand.of_body Bd
  have e0 : s₁.heap = h0 := by rw [← hh, Bd.state]; rfl
  have N0 := Fr.nil n0
  have pre0 : ∀ t, Steps p.tables e below (s₁.setTop (mkF m 0 #[.val (.ref b10), .unset, .unset, .unset, .unset] [])) t → Steps p.tables e below (s₁.setTop (entryFrame m #[(.ref b10)] 5)) t := fun t k => castTop (own_ef_rm6 m p1 A K cs b3 b10 b42_b40_b28_b14 k3 k42_k40_k28_k14) k
  have KK0 : Keep h0 h0 [] := Keep.refl _ _
  obtain ⟨_, _, ⟨T47, L47, k47, n47⟩, -, X47, ⟨Lc47, hQ47, l47, y47, z47⟩, st47⟩ := Jvm.LawKit.callS X0 hx (y := own_m8) hown (mvT hZ (hw _ (List.mem_of_getElem? (i := 36) rfl))) (mvT hZ (hw _ (List.mem_of_getElem? (i := 37) rfl))) (mvT hZ (hw _ (List.mem_of_getElem? (i := 31) rfl))) (mvT hZ (hw _ (List.mem_of_getElem? (i := 38) rfl))) (by decide) (backOf (W := 0) (rm7 l Z a0 hw [] h0 n0 p1 A K cs b3 b10 b42_b40_b28_b14 k3 k42_k40_k28_k14 EN OL0 G_A_b3 G_E_b10 G_A_b42_b40_b28_b14) hZ (hw _ (List.mem_of_getElem? (i := 38) rfl)) (hw _ (List.mem_of_getElem? (i := 31) rfl)) (by decide) (by decide)) (g := (mkF m 0 #[.val (.ref b10), .unset, .unset, .unset, .unset] [])) rfl (by rw [hml]; rfl) (argsL := []) (rest := []) (lenOf own_pd5 rfl) rfl (by show 2 * 0 + _ ≤ _; exact Nat.le_of_eq rfl) (hb hby own_d_prog_26_method_4_code_0) (fun _ _ => ⟨rfl, e0, (by decide : 0 + 1 ≤ _), (by decide : 0 + 4 ≤ _)⟩)
  dsimp only [Pt.U, Pt.locs, Pt.cells, Pt.slots] at X47 l47 y47 z47 st47 hQ47
  subst l47 y47 z47
  obtain ⟨b47_b45, rfl, N47q, K47c, ⟨gn_b47_b45, szc_b47_b45⟩, f47_0, f47_1⟩ := hQ47
  have N47 := Fr.app N0 N47q
  have lt_b3_b47_b45 : b3 < b47_b45 := Nat.lt_of_lt_of_le G_A_b3.lt szc_b47_b45
  have lt_b10_b47_b45 : b10 < b47_b45 := Nat.lt_of_lt_of_le G_E_b10.lt szc_b47_b45
  have lt_b42_b40_b28_b14_b47_b45 : b42_b40_b28_b14 < b47_b45 := Nat.lt_of_lt_of_le G_A_b42_b40_b28_b14.lt szc_b47_b45
  have sz_b47_b45 : h0.size ≤ b47_b45 := Nat.le_trans KK0.1 szc_b47_b45
  have OL47 : Old Z n0 T47.heap := OL0.keep K47c all0
  have KK47 : Keep h0 T47.heap [] := KK0.trans K47c all0
  obtain ⟨cl48, Ar48, -, Sz48, Nn48, -, -⟩ := (id f47_0)
  obtain ⟨cl49, Ar49, q49, Sz49, Nn49, Hh49, Gg49⟩ := (id f47_0)
  have hin49 : ¬ ((0 : Int32) < 0 ∨ cl49.slots.size ≤ ((0 : Int32)).toNatClampNeg) := inb_of Sz49 ⟨by decide, by decide⟩
  have hat49 : cl49.slots[((0 : Int32)).toNatClampNeg]? = some (.ref (A 0)) := Has.at Hh49 hin49 rfl
  obtain ⟨T50, X50, e50, st50⟩ := getF X47 hx hZ hown (host := "") (Or.inl (hw _ (List.mem_of_getElem? (i := 54) rfl))) Via.refl rfl (EN.2.1.2.2.2.1.ext OL47.2) (g := (mkF m 21 #[.val (.ref b10), .val (.ref b47_b45), .val (.int (4 : Int32)), .val (.int (0 : Int32)), .val (.ref (A 0))] [(.ref (A 0))])) rfl rfl (hb hby own_d_prog_26_method_4_code_21)
  have fx71 : Fld Z T47.heap b10 "java/lang/String" "value" "[B" (.ref b42_b40_b28_b14) := (G_F_b10_java_lang_String_value.keep K47c nin0)
  have fx72 : Arv Z T47.heap b42_b40_b28_b14 k42_k40_k28_k14 .byte (3 : Int32) [(.int (51 : Int32)), (.int (46 : Int32)), (.int (48 : Int32))] (.int (0 : Int32)) := (G_A_b42_b40_b28_b14.keep K47c nin0)
  have fx73 : Exa Z T47.heap b10 "java/lang/String" := (G_E_b10.keep K47c)
  have fx74 : Fld Z T47.heap b10 "java/lang/String" "coder" "B" (.int (0 : Int32)) := (G_F_b10_java_lang_String_coder.keep K47c nin0)
  obtain ⟨cq75, kq75, q75a, q75b, q75c⟩ := isOf hZ e50 (EN.2.1.2.2.2.2.1.ext OL47.2)
  obtain ⟨_, _, ⟨T75, L75, k75, n75⟩, -, X75, ⟨Lc75, hQ75, l75, y75, z75⟩, st75⟩ := X50.virtualBack hx (y := own_m0) (z := own_m0) hown (mvT hZ (hw _ (List.mem_of_getElem? (i := 56) rfl))) (mvT hZ (hw _ (List.mem_of_getElem? (i := 57) rfl))) (notFace_of_selects (args := #[]) (mvT hZ (hw _ (List.mem_of_getElem? (i := 59) rfl)))) (mvT hZ (hw _ (List.mem_of_getElem? (i := 59) rfl))) (mvT hZ (hw _ (List.mem_of_getElem? (i := 58) rfl))) (by decide) (backOf (W := 0) (rm8 l Z a0 hw [] T47.heap n0 p1 A K cs b10 b42_b40_b28_b14 k42_k40_k28_k14 EN OL47 fx71 fx72 fx73 fx74 gn_b10) hZ (hw _ (List.mem_of_getElem? (i := 60) rfl)) (hw _ (List.mem_of_getElem? (i := 3) rfl)) (by decide) (by decide)) q75a q75c (g := (mkF m 25 #[.val (.ref b10), .val (.ref b47_b45), .val (.int (4 : Int32)), .val (.int (0 : Int32)), .val (.ref (A 0))] [(.ref b10), (.ref (A 5))])) rfl (by rw [hml]; rfl) (Steps.refl _) (argsL := [(.ref b10)]) (rest := []) (lenOf own_pd7 rfl) rfl (by show 2 * 0 + _ ≤ _; exact Nat.le_of_eq rfl) (hb hby own_d_prog_26_method_4_code_25) (fun _ _ => ⟨rfl, e50, (by decide : 1 + 0 ≤ _), (by decide : 4 + 0 ≤ _)⟩)
  dsimp only [Pt.U, Pt.locs, Pt.cells, Pt.slots] at X75 l75 y75 z75 st75 hQ75
  subst l75 y75 z75
  obtain ⟨rfl, N75q, e75⟩ := hQ75
  have N75 := Fr.app N47 N75q
  obtain ⟨fs, hr, hrun, hended, hW, hsame⟩ := X75.leave (v := some (.ref (A 0))) (fun h => by rw [Bd.returns] at h; cases h)
  refine ⟨_, _, pre0 _ ?_, hrun, hended, _, _, rfl, ?_, ⟨_, rfl⟩, hW, hsame.mono (by decide) (by decide)⟩
  · show Steps p.tables e below (s₁.setTop (mkF m 0 #[.val (.ref b10), .unset, .unset, .unset, .unset] [])) _
    refine st47 _ ?_
    show Steps p.tables e below (T47.setTop (mkF m 3 #[.val (.ref b10), .unset, .unset, .unset, .unset] [(.ref b47_b45)])) _
    refine XS.astoreN X47.here hx rfl (hb hby own_d_prog_26_method_4_code_3) rfl rfl (l' := #[.val (.ref b10), .val (.ref b47_b45), .unset, .unset, .unset]) rfl ?_
    show Steps p.tables e below (T47.setTop (mkF m 4 #[.val (.ref b10), .val (.ref b47_b45), .unset, .unset, .unset] [])) _
    refine XS.aloadN X47.here hx rfl (hb hby own_d_prog_26_method_4_code_4) rfl rfl ?_
    show Steps p.tables e below (T47.setTop (mkF m 5 #[.val (.ref b10), .val (.ref b47_b45), .unset, .unset, .unset] [(.ref b47_b45)])) _
    refine X47.arraylength hx (by exact Ar48.1) (State.isArrayOf_alike hZ.alike Ar48.2.1) (g := (mkF m 5 #[.val (.ref b10), .val (.ref b47_b45), .unset, .unset, .unset] [(.ref b47_b45)])) rfl rfl (hb hby own_d_prog_26_method_4_code_5) _ ?_
    rw [len_of Sz48 Nn48]
    show Steps p.tables e below (T47.setTop (mkF m 6 #[.val (.ref b10), .val (.ref b47_b45), .unset, .unset, .unset] [(.int (4 : Int32))])) _
    refine XS.istoreN X47.here hx rfl (hb hby own_d_prog_26_method_4_code_6) rfl (l' := #[.val (.ref b10), .val (.ref b47_b45), .val (.int (4 : Int32)), .unset, .unset]) rfl ?_
    show Steps p.tables e below (T47.setTop (mkF m 7 #[.val (.ref b10), .val (.ref b47_b45), .val (.int (4 : Int32)), .unset, .unset] [])) _
    refine XS.iconst X47.here hx rfl (hb hby own_d_prog_26_method_4_code_7) ?_
    show Steps p.tables e below (T47.setTop (mkF m 8 #[.val (.ref b10), .val (.ref b47_b45), .val (.int (4 : Int32)), .unset, .unset] [(.int (0 : Int32))])) _
    refine XS.istoreN X47.here hx rfl (hb hby own_d_prog_26_method_4_code_8) rfl (l' := #[.val (.ref b10), .val (.ref b47_b45), .val (.int (4 : Int32)), .val (.int (0 : Int32)), .unset]) rfl ?_
    show Steps p.tables e below (T47.setTop (mkF m 9 #[.val (.ref b10), .val (.ref b47_b45), .val (.int (4 : Int32)), .val (.int (0 : Int32)), .unset] [])) _
    refine XS.iloadN X47.here hx rfl (hb hby own_d_prog_26_method_4_code_9) rfl ?_
    show Steps p.tables e below (T47.setTop (mkF m 10 #[.val (.ref b10), .val (.ref b47_b45), .val (.int (4 : Int32)), .val (.int (0 : Int32)), .unset] [(.int (0 : Int32))])) _
    refine XS.iloadN X47.here hx rfl (hb hby own_d_prog_26_method_4_code_10) rfl ?_
    show Steps p.tables e below (T47.setTop (mkF m 11 #[.val (.ref b10), .val (.ref b47_b45), .val (.int (4 : Int32)), .val (.int (0 : Int32)), .unset] [(.int (4 : Int32)), (.int (0 : Int32))])) _
    refine XS.icmpNo X47.here hx rfl (hb hby own_d_prog_26_method_4_code_11) rfl (tlt (by decide : (0 : Int32) < (4 : Int32))).2.1 ?_
    show Steps p.tables e below (T47.setTop (mkF m 14 #[.val (.ref b10), .val (.ref b47_b45), .val (.int (4 : Int32)), .val (.int (0 : Int32)), .unset] [])) _
    refine XS.aloadN X47.here hx rfl (hb hby own_d_prog_26_method_4_code_14) rfl rfl ?_
    show Steps p.tables e below (T47.setTop (mkF m 15 #[.val (.ref b10), .val (.ref b47_b45), .val (.int (4 : Int32)), .val (.int (0 : Int32)), .unset] [(.ref b47_b45)])) _
    refine XS.iloadN X47.here hx rfl (hb hby own_d_prog_26_method_4_code_15) rfl ?_
    show Steps p.tables e below (T47.setTop (mkF m 16 #[.val (.ref b10), .val (.ref b47_b45), .val (.int (4 : Int32)), .val (.int (0 : Int32)), .unset] [(.int (0 : Int32)), (.ref b47_b45)])) _
    refine X47.aaload hx (j := (0 : Int32)) (v := (.ref (A 0))) (by exact Ar49.1) (State.isArrayOf_alike hZ.alike Ar49.2.1) rfl Ar49.2.2 hin49 hat49 (g := (mkF m 16 #[.val (.ref b10), .val (.ref b47_b45), .val (.int (4 : Int32)), .val (.int (0 : Int32)), .unset] [(.int (0 : Int32)), (.ref b47_b45)])) rfl rfl (hb hby own_d_prog_26_method_4_code_16) _ ?_
    show Steps p.tables e below (T47.setTop (mkF m 17 #[.val (.ref b10), .val (.ref b47_b45), .val (.int (4 : Int32)), .val (.int (0 : Int32)), .unset] [(.ref (A 0))])) _
    refine XS.astore X47.here hx rfl (hb hby own_d_prog_26_method_4_code_17) rfl rfl (l' := #[.val (.ref b10), .val (.ref b47_b45), .val (.int (4 : Int32)), .val (.int (0 : Int32)), .val (.ref (A 0))]) rfl ?_
    show Steps p.tables e below (T47.setTop (mkF m 19 #[.val (.ref b10), .val (.ref b47_b45), .val (.int (4 : Int32)), .val (.int (0 : Int32)), .val (.ref (A 0))] [])) _
    refine XS.aload X47.here hx rfl (hb hby own_d_prog_26_method_4_code_19) rfl rfl ?_
    show Steps p.tables e below (T47.setTop (mkF m 21 #[.val (.ref b10), .val (.ref b47_b45), .val (.int (4 : Int32)), .val (.int (0 : Int32)), .val (.ref (A 0))] [(.ref (A 0))])) _
    refine st50 _ ?_
    show Steps p.tables e below (T50.setTop (mkF m 24 #[.val (.ref b10), .val (.ref b47_b45), .val (.int (4 : Int32)), .val (.int (0 : Int32)), .val (.ref (A 0))] [(.ref (A 5))])) _
    refine XS.aloadN X50.here hx rfl (hb hby own_d_prog_26_method_4_code_24) rfl rfl ?_
    show Steps p.tables e below (T50.setTop (mkF m 25 #[.val (.ref b10), .val (.ref b47_b45), .val (.int (4 : Int32)), .val (.int (0 : Int32)), .val (.ref (A 0))] [(.ref b10), (.ref (A 5))])) _
    refine st75.trans ?_
    show Steps p.tables e below (T75.setTop (mkF m 28 #[.val (.ref b10), .val (.ref b47_b45), .val (.int (4 : Int32)), .val (.int (0 : Int32)), .val (.ref (A 0))] [(.int (1 : Int32))])) _
    refine XS.ifNo X75.here hx rfl (hb hby own_d_prog_26_method_4_code_28) rfl ((if0 _ _).trans (feq (by decide : ¬ ((1 : Int32) = (0 : Int32)))).1) ?_
    show Steps p.tables e below (T75.setTop (mkF m 31 #[.val (.ref b10), .val (.ref b47_b45), .val (.int (4 : Int32)), .val (.int (0 : Int32)), .val (.ref (A 0))] [])) _
    refine XS.aload X75.here hx rfl (hb hby own_d_prog_26_method_4_code_31) rfl rfl ?_
    show Steps p.tables e below (T75.setTop (mkF m 33 #[.val (.ref b10), .val (.ref b47_b45), .val (.int (4 : Int32)), .val (.int (0 : Int32)), .val (.ref (A 0))] [(.ref (A 0))])) _
    exact retOut X75 hx Bd.returns rfl (Or.inr (Or.inr (Or.inr (Or.inr ⟨rfl, rfl, rfl⟩)))) (hb hby own_d_prog_26_method_4_code_33) hr
  · show Q_rm6 Z p1 A K cs b3 b10 b42_b40_b28_b14 k3 k42_k40_k28_k14 h0 n0 _ T75.heap _
    rw [e75]
    exact ⟨b47_b45, rfl, N75, KK47, ⟨gn_b47_b45, sz_b47_b45⟩, f47_0, f47_1⟩
theorem own_d_prog_26_method_5_code_0 : decode prog_26_method_5_code 0 = .ok (.aload_n 0, 1) := by decide +kernel
theorem own_d_prog_26_method_5_code_1 : decode prog_26_method_5_code 1 = .ok (.getfield 35, 3) := by decide +kernel
theorem own_d_prog_26_method_5_code_4 : decode prog_26_method_5_code 4 = .ok (.areturn, 1) := by decide +kernel
theorem own_ef_rm10 (m : MethodId) (p1 : Int32) (A : Nat → Addr) (K : Nat → ClassId) (cs : Int32)  : entryFrame m #[(.ref (A 0))] 1 = mkF m 0 #[.val (.ref (A 0))] [] := by first | (simp [entryFrame, mkF, argsToLocals, Value.category, maxLocals]; done) | rfl
set_option maxRecDepth 65536 in
set_option maxHeartbeats 40000000 in
theorem rm10 (l : Launch) (Z : State) (a0 : Array Value) (hw : ∀ d ∈ tables_1, d.before a0 Z = true) (ws : List Jvm.Cond) (h0 : Heap) (n0 : Nat) (p1 : Int32) (A : Nat → Addr) (K : Nat → ClassId) (cs : Int32)  (EN : own_St Z A K cs) (OL0 : Old Z n0 h0) :
    MetFree l own_m2 (head1 (Jvm.Cond.code own_m2 prog_26_method_5_code 1 (some (.object "java/lang/String")) :: ws) ({ frames := 0, cells := 0, slots := 0, locals := 0 } : Room)) (fun a U => a = #[(.ref (A 0))] ∧ Z.Warmed39 U.vm ∧ U.heap = h0) (fun _ _ _ _ _ => True) (fun _ U o U' => ∃ v L, o = .returned v ∧ (PQ (some (.ref (A 5))) h0 n0) v U'.heap L ∧ FrameEnd U o U' L ({ frames := 0, cells := 0, slots := 0, locals := 0 } : Room).cells ({ frames := 0, cells := 0, slots := 0, locals := 0 } : Room).slots) := by
  refine MetFree.of_bodySF (plainFor_of_name own_pn2) hisR ?_
  intro p e s m args below meth c s₁ Bd hml0 hP hK
  obtain ⟨rfl, hZ, hh⟩ := hP
  have hx := Bd.exec
  have hby := Bd.bytes
  have hml : c.maxLocals = 1 := hml0
  have hown : s.vm.findClass "com/example/dongl/dongl/crypto/ProtocolVersion" = some m.cls := findClass_of_methodNamed Bd.named
  have hnm := (name_of_methodNamed Bd.named Bd.method).1
  have X0 : Stand p l e ({ frames := 0, cells := 0, slots := 0, locals := 0 } : Room) s m #[(.ref (A 0))] below meth c s₁ [] 0 0 := Stand.of_body Bd
  have e0 : s₁.heap = h0 := by rw [← hh, Bd.state]; rfl
  have N0 := Fr.nil n0
  have pre0 : ∀ t, Steps p.tables e below (s₁.setTop (mkF m 0 #[.val (.ref (A 0))] [])) t → Steps p.tables e below (s₁.setTop (entryFrame m #[(.ref (A 0))] 1)) t := fun t k => castTop (own_ef_rm10 m p1 A K cs ) k
  have KK0 : Keep h0 h0 [] := Keep.refl _ _
  obtain ⟨T78, X78, e78, st78⟩ := getF X0 hx hZ hown (host := "") (Or.inl (hw _ (List.mem_of_getElem? (i := 54) rfl))) Via.refl e0 (EN.2.1.2.2.2.1.ext OL0.2) (g := (mkF m 1 #[.val (.ref (A 0))] [(.ref (A 0))])) rfl rfl (hb hby own_d_prog_26_method_5_code_1)
  obtain ⟨fs, hr, hrun, hended, hW, hsame⟩ := X78.leave (v := some (.ref (A 5))) (fun h => by rw [Bd.returns] at h; cases h)
  refine ⟨_, _, pre0 _ ?_, hrun, hended, _, _, rfl, ?_, ⟨_, rfl⟩, hW, hsame.mono (by decide) (by decide)⟩
  · show Steps p.tables e below (s₁.setTop (mkF m 0 #[.val (.ref (A 0))] [])) _
    refine XS.aloadN X0.here hx rfl (hb hby own_d_prog_26_method_5_code_0) rfl rfl ?_
    show Steps p.tables e below (s₁.setTop (mkF m 1 #[.val (.ref (A 0))] [(.ref (A 0))])) _
    refine st78 _ ?_
    show Steps p.tables e below (T78.setTop (mkF m 4 #[.val (.ref (A 0))] [(.ref (A 5))])) _
    exact retOut X78 hx Bd.returns rfl (Or.inr (Or.inr (Or.inr (Or.inr ⟨rfl, rfl, rfl⟩)))) (hb hby own_d_prog_26_method_5_code_4) hr
  · show PQ (some (.ref (A 5))) h0 n0 _ T78.heap _
    rw [e78]
    exact ⟨rfl, N0, rfl⟩
def Q_rm14 (Z : State) (p1 : Int32) (A : Nat → Addr) (K : Nat → ClassId) (cs : Int32) (b85 : Addr) (b96 : Addr) (k85 : ClassId) (k96 : ClassId) (h0 : Heap) (n0 : Nat) (v : Option Value) (h : Heap) (L : List Loc) : Prop := v = (some (.int (3 : Int32))) ∧ Fr n0 L ∧ Keep h0 h [b96] ∧ (Arv Z h b96 k96 .byte (3 : Int32) [(.int (51 : Int32)), (.int (46 : Int32)), (.int (49 : Int32))] (.int (0 : Int32)))
theorem own_ef_rm14 (m : MethodId) (p1 : Int32) (A : Nat → Addr) (K : Nat → ClassId) (cs : Int32)  (b85 : Addr) (b96 : Addr) (k85 : ClassId) (k96 : ClassId) : entryFrame m #[(.ref b85), (.int (0 : Int32)), (.ref b96), (.int (0 : Int32)), (.int (3 : Int32))] 7 = mkF m 0 #[.val (.ref b85), .val (.int (0 : Int32)), .val (.ref b96), .val (.int (0 : Int32)), .val (.int (3 : Int32)), .unset, .unset] [] := by first | (simp [entryFrame, mkF, argsToLocals, Value.category, maxLocals]; done) | rfl
set_option maxRecDepth 65536 in
set_option maxHeartbeats 40000000 in
theorem rm14 (l : Launch) (Z : State) (a0 : Array Value) (hw : ∀ d ∈ tables_1, d.before a0 Z = true) (ws : List Jvm.Cond) (h0 : Heap) (n0 : Nat) (p1 : Int32) (A : Nat → Addr) (K : Nat → ClassId) (cs : Int32)  (b85 : Addr) (b96 : Addr) (k85 : ClassId) (k96 : ClassId) (EN : own_St Z A K cs) (OL0 : Old Z n0 h0) (G_A_b85 : Arv Z h0 b85 k85 .char (3 : Int32) [(.int (51 : Int32)), (.int (46 : Int32)), (.int (49 : Int32))] (.int (0 : Int32))) (G_A_b96 : Arv Z h0 b96 k96 .byte (3 : Int32) [] (.int (0 : Int32))) (ne_b85_b96 : b85 ≠ b96) (gn_b96 : n0 ≤ b96) :
    MetFree l own_m3 (head1 (Jvm.Cond.code own_m3 jdk_52_method_21_code 7 (some .int) :: ws) ({ frames := 0, cells := 0, slots := 0, locals := 0 } : Room)) (fun a U => a = #[(.ref b85), (.int (0 : Int32)), (.ref b96), (.int (0 : Int32)), (.int (3 : Int32))] ∧ Z.Warmed39 U.vm ∧ U.heap = h0) (fun _ _ _ _ _ => True) (fun _ U o U' => ∃ v L, o = .returned v ∧ Q_rm14 Z p1 A K cs b85 b96 k85 k96 h0 n0 v U'.heap L ∧ FrameEnd U o U' L ({ frames := 0, cells := 0, slots := 0, locals := 0 } : Room).cells ({ frames := 0, cells := 0, slots := 0, locals := 0 } : Room).slots) := by
  refine MetFree.of_bodySF (plainFor_of_name own_pn0) hisR ?_
  intro p e s m args below meth c s₁ Bd hml0 hP hK
  obtain ⟨rfl, hZ, hh⟩ := hP
  have hx := Bd.exec
  have hby := Bd.bytes
  have hml : c.maxLocals = 7 := hml0
  have hown : s.vm.findClass "java/lang/StringUTF16" = some m.cls := findClass_of_methodNamed Bd.named
  have hnm := (name_of_methodNamed Bd.named Bd.method).1
  have X0 : Stand p l e ({ frames := 0, cells := 0, slots := 0, locals := 0 } : Room) s m #[(.ref b85), (.int (0 : Int32)), (.ref b96), (.int (0 : Int32)), (.int (3 : Int32))] below meth c s₁ [] 0 0 := Stand.of_body Bd
  have e0 : s₁.heap = h0 := by rw [← hh, Bd.state]; rfl
  have N0 := Fr.nil n0
  have pre0 : ∀ t, Steps p.tables e below (s₁.setTop (mkF m 0 #[.val (.ref b85), .val (.int (0 : Int32)), .val (.ref b96), .val (.int (0 : Int32)), .val (.int (3 : Int32)), .unset, .unset] [])) t → Steps p.tables e below (s₁.setTop (entryFrame m #[(.ref b85), (.int (0 : Int32)), (.ref b96), (.int (0 : Int32)), (.int (3 : Int32))] 7)) t := fun t k => castTop (own_ef_rm14 m p1 A K cs b85 b96 k85 k96) k
  have KK0 : Keep h0 h0 [b96] := Keep.refl _ _
  obtain ⟨cl97, Ar97, q97, Sz97, Nn97, Hh97, Gg97⟩ := (id G_A_b85)
  have hin97 : ¬ ((0 : Int32) < 0 ∨ cl97.slots.size ≤ ((0 : Int32)).toNatClampNeg) := inb_of Sz97 ⟨by decide, by decide⟩
  have hat97 : cl97.slots[((0 : Int32)).toNatClampNeg]? = some (.int (51 : Int32)) := Has.at Hh97 hin97 rfl
  obtain ⟨cl98, Ar98, q98, Sz98, Nn98, Hh98, Gg98⟩ := (id (Arv.pad G_A_b96 (pad_rep [] (.int (0 : Int32)) 1)))
  have hin98 : ¬ ((0 : Int32) < 0 ∨ cl98.slots.size ≤ ((0 : Int32)).toNatClampNeg) := inb_of Sz98 ⟨by decide, by decide⟩
  obtain ⟨T99, h99, X99, e99, W99, st99⟩ := stB X0 hx hZ e0 Ar98 (j := (0 : Int32)) hin98 (g := (mkF m 31 #[.val (.ref b85), .val (.int (0 : Int32)), .val (.ref b96), .val (.int (0 : Int32)), .val (.int (3 : Int32)), .val (.int (0 : Int32)), .val (.int (51 : Int32))] [(.int (51 : Int32)), (.int (0 : Int32)), (.ref b96)])) rfl rfl (hb hby own_d_jdk_52_method_21_code_31)
  have NF99 := Fr.snoc X99 N0 gn_b96
  have OL99 : Old Z n0 h99 := OL0.wr W99 gn_b96
  have KK99 : Keep h0 h99 [b96] := KK0.wr W99 (Or.inl (List.mem_of_getElem? (i := 0) rfl))
  have V99 : Arv Z h99 b96 k96 .byte (3 : Int32) [(.int (51 : Int32))] (.int (0 : Int32)) := Arv.set Ar98 q98 Sz98 Nn98 Hh98 Gg98 (fits_nar_byte _) W99 0 (by decide) (by decide)
  have fx100 : Arv Z h99 b85 k85 .char (3 : Int32) [(.int (51 : Int32)), (.int (46 : Int32)), (.int (49 : Int32))] (.int (0 : Int32)) := (G_A_b85.other W99 ne_b85_b96)
  obtain ⟨cl101, Ar101, q101, Sz101, Nn101, Hh101, Gg101⟩ := (id fx100)
  have hin101 : ¬ ((1 : Int32) < 0 ∨ cl101.slots.size ≤ ((1 : Int32)).toNatClampNeg) := inb_of Sz101 ⟨by decide, by decide⟩
  have hat101 : cl101.slots[((1 : Int32)).toNatClampNeg]? = some (.int (46 : Int32)) := Has.at Hh101 hin101 rfl
  obtain ⟨cl102, Ar102, q102, Sz102, Nn102, Hh102, Gg102⟩ := (id (Arv.pad V99 (pad_rep [(.int (51 : Int32))] (.int (0 : Int32)) 1)))
  have hin102 : ¬ ((1 : Int32) < 0 ∨ cl102.slots.size ≤ ((1 : Int32)).toNatClampNeg) := inb_of Sz102 ⟨by decide, by decide⟩
  obtain ⟨T103, h103, X103, e103, W103, st103⟩ := stB X99 hx hZ e99 Ar102 (j := (1 : Int32)) hin102 (g := (mkF m 31 #[.val (.ref b85), .val (.int (1 : Int32)), .val (.ref b96), .val (.int (1 : Int32)), .val (.int (3 : Int32)), .val (.int (1 : Int32)), .val (.int (46 : Int32))] [(.int (46 : Int32)), (.int (1 : Int32)), (.ref b96)])) rfl rfl (hb hby own_d_jdk_52_method_21_code_31)
  have NF103 := Fr.snoc X103 NF99 gn_b96
  have OL103 : Old Z n0 h103 := OL99.wr W103 gn_b96
  have KK103 : Keep h0 h103 [b96] := KK99.wr W103 (Or.inl (List.mem_of_getElem? (i := 0) rfl))
  have V103 : Arv Z h103 b96 k96 .byte (3 : Int32) [(.int (51 : Int32)), (.int (46 : Int32))] (.int (0 : Int32)) := Arv.set Ar102 q102 Sz102 Nn102 Hh102 Gg102 (fits_nar_byte _) W103 1 (by decide) (by decide)
  have fx104 : Arv Z h103 b85 k85 .char (3 : Int32) [(.int (51 : Int32)), (.int (46 : Int32)), (.int (49 : Int32))] (.int (0 : Int32)) := (fx100.other W103 ne_b85_b96)
  obtain ⟨cl105, Ar105, q105, Sz105, Nn105, Hh105, Gg105⟩ := (id fx104)
  have hin105 : ¬ ((2 : Int32) < 0 ∨ cl105.slots.size ≤ ((2 : Int32)).toNatClampNeg) := inb_of Sz105 ⟨by decide, by decide⟩
  have hat105 : cl105.slots[((2 : Int32)).toNatClampNeg]? = some (.int (49 : Int32)) := Has.at Hh105 hin105 rfl
  obtain ⟨cl106, Ar106, q106, Sz106, Nn106, Hh106, Gg106⟩ := (id (Arv.pad V103 (pad_rep [(.int (51 : Int32)), (.int (46 : Int32))] (.int (0 : Int32)) 1)))
  have hin106 : ¬ ((2 : Int32) < 0 ∨ cl106.slots.size ≤ ((2 : Int32)).toNatClampNeg) := inb_of Sz106 ⟨by decide, by decide⟩
  obtain ⟨T107, h107, X107, e107, W107, st107⟩ := stB X103 hx hZ e103 Ar106 (j := (2 : Int32)) hin106 (g := (mkF m 31 #[.val (.ref b85), .val (.int (2 : Int32)), .val (.ref b96), .val (.int (2 : Int32)), .val (.int (3 : Int32)), .val (.int (2 : Int32)), .val (.int (49 : Int32))] [(.int (49 : Int32)), (.int (2 : Int32)), (.ref b96)])) rfl rfl (hb hby own_d_jdk_52_method_21_code_31)
  have NF107 := Fr.snoc X107 NF103 gn_b96
  have OL107 : Old Z n0 h107 := OL103.wr W107 gn_b96
  have KK107 : Keep h0 h107 [b96] := KK103.wr W107 (Or.inl (List.mem_of_getElem? (i := 0) rfl))
  have V107 : Arv Z h107 b96 k96 .byte (3 : Int32) [(.int (51 : Int32)), (.int (46 : Int32)), (.int (49 : Int32))] (.int (0 : Int32)) := Arv.set Ar106 q106 Sz106 Nn106 Hh106 Gg106 (fits_nar_byte _) W107 2 (by decide) (by decide)
  obtain ⟨fs, hr, hrun, hended, hW, hsame⟩ := X107.leave (v := some (.int (3 : Int32))) (fun h => by rw [Bd.returns] at h; cases h)
  refine ⟨_, _, pre0 _ ?_, hrun, hended, _, _, rfl, ?_, ⟨_, rfl⟩, hW, hsame.mono (by decide) (by decide)⟩
  · show Steps p.tables e below (s₁.setTop (mkF m 0 #[.val (.ref b85), .val (.int (0 : Int32)), .val (.ref b96), .val (.int (0 : Int32)), .val (.int (3 : Int32)), .unset, .unset] [])) _
    refine XS.iconst X0.here hx rfl (hb hby own_d_jdk_52_method_21_code_0) ?_
    show Steps p.tables e below (s₁.setTop (mkF m 1 #[.val (.ref b85), .val (.int (0 : Int32)), .val (.ref b96), .val (.int (0 : Int32)), .val (.int (3 : Int32)), .unset, .unset] [(.int (0 : Int32))])) _
    refine XS.istore X0.here hx rfl (hb hby own_d_jdk_52_method_21_code_1) rfl (l' := #[.val (.ref b85), .val (.int (0 : Int32)), .val (.ref b96), .val (.int (0 : Int32)), .val (.int (3 : Int32)), .val (.int (0 : Int32)), .unset]) rfl ?_
    show Steps p.tables e below (s₁.setTop (mkF m 3 #[.val (.ref b85), .val (.int (0 : Int32)), .val (.ref b96), .val (.int (0 : Int32)), .val (.int (3 : Int32)), .val (.int (0 : Int32)), .unset] [])) _
    refine XS.iload X0.here hx rfl (hb hby own_d_jdk_52_method_21_code_3) rfl ?_
    show Steps p.tables e below (s₁.setTop (mkF m 5 #[.val (.ref b85), .val (.int (0 : Int32)), .val (.ref b96), .val (.int (0 : Int32)), .val (.int (3 : Int32)), .val (.int (0 : Int32)), .unset] [(.int (0 : Int32))])) _
    refine XS.iload X0.here hx rfl (hb hby own_d_jdk_52_method_21_code_5) rfl ?_
    show Steps p.tables e below (s₁.setTop (mkF m 7 #[.val (.ref b85), .val (.int (0 : Int32)), .val (.ref b96), .val (.int (0 : Int32)), .val (.int (3 : Int32)), .val (.int (0 : Int32)), .unset] [(.int (3 : Int32)), (.int (0 : Int32))])) _
    refine XS.icmpNo X0.here hx rfl (hb hby own_d_jdk_52_method_21_code_7) rfl (tlt (by decide : (0 : Int32) < (3 : Int32))).2.1 ?_
    show Steps p.tables e below (s₁.setTop (mkF m 10 #[.val (.ref b85), .val (.int (0 : Int32)), .val (.ref b96), .val (.int (0 : Int32)), .val (.int (3 : Int32)), .val (.int (0 : Int32)), .unset] [])) _
    refine XS.aloadN X0.here hx rfl (hb hby own_d_jdk_52_method_21_code_10) rfl rfl ?_
    show Steps p.tables e below (s₁.setTop (mkF m 11 #[.val (.ref b85), .val (.int (0 : Int32)), .val (.ref b96), .val (.int (0 : Int32)), .val (.int (3 : Int32)), .val (.int (0 : Int32)), .unset] [(.ref b85)])) _
    refine XS.iloadN X0.here hx rfl (hb hby own_d_jdk_52_method_21_code_11) rfl ?_
    show Steps p.tables e below (s₁.setTop (mkF m 12 #[.val (.ref b85), .val (.int (0 : Int32)), .val (.ref b96), .val (.int (0 : Int32)), .val (.int (3 : Int32)), .val (.int (0 : Int32)), .unset] [(.int (0 : Int32)), (.ref b85)])) _
    refine X0.caload hx (j := (0 : Int32)) (v := (.int (51 : Int32))) (by rw [e0]; exact Ar97.1) (State.isArrayOf_alike hZ.alike Ar97.2.1) Ar97.2.2 hin97 hat97 (g := (mkF m 12 #[.val (.ref b85), .val (.int (0 : Int32)), .val (.ref b96), .val (.int (0 : Int32)), .val (.int (3 : Int32)), .val (.int (0 : Int32)), .unset] [(.int (0 : Int32)), (.ref b85)])) rfl rfl (hb hby own_d_jdk_52_method_21_code_12) _ ?_
    show Steps p.tables e below (s₁.setTop (mkF m 13 #[.val (.ref b85), .val (.int (0 : Int32)), .val (.ref b96), .val (.int (0 : Int32)), .val (.int (3 : Int32)), .val (.int (0 : Int32)), .unset] [(.int (51 : Int32))])) _
    refine XS.istore X0.here hx rfl (hb hby own_d_jdk_52_method_21_code_13) rfl (l' := #[.val (.ref b85), .val (.int (0 : Int32)), .val (.ref b96), .val (.int (0 : Int32)), .val (.int (3 : Int32)), .val (.int (0 : Int32)), .val (.int (51 : Int32))]) rfl ?_
    show Steps p.tables e below (s₁.setTop (mkF m 15 #[.val (.ref b85), .val (.int (0 : Int32)), .val (.ref b96), .val (.int (0 : Int32)), .val (.int (3 : Int32)), .val (.int (0 : Int32)), .val (.int (51 : Int32))] [])) _
    refine XS.iload X0.here hx rfl (hb hby own_d_jdk_52_method_21_code_15) rfl ?_
    show Steps p.tables e below (s₁.setTop (mkF m 17 #[.val (.ref b85), .val (.int (0 : Int32)), .val (.ref b96), .val (.int (0 : Int32)), .val (.int (3 : Int32)), .val (.int (0 : Int32)), .val (.int (51 : Int32))] [(.int (51 : Int32))])) _
    refine XS.sipush X0.here hx rfl (hb hby own_d_jdk_52_method_21_code_17) ?_
    show Steps p.tables e below (s₁.setTop (mkF m 20 #[.val (.ref b85), .val (.int (0 : Int32)), .val (.ref b96), .val (.int (0 : Int32)), .val (.int (3 : Int32)), .val (.int (0 : Int32)), .val (.int (51 : Int32))] [(.int (255 : Int32)), (.int (51 : Int32))])) _
    refine XS.icmpYes X0.here hx rfl (pc0 := 20) (pc' := 26) rfl (hb hby own_d_jdk_52_method_21_code_20) rfl (flt (by decide : ¬ ((255 : Int32) < (51 : Int32)))).2.2.2 (by decide) (by decide) ?_
    show Steps p.tables e below (s₁.setTop (mkF m 26 #[.val (.ref b85), .val (.int (0 : Int32)), .val (.ref b96), .val (.int (0 : Int32)), .val (.int (3 : Int32)), .val (.int (0 : Int32)), .val (.int (51 : Int32))] [])) _
    refine XS.aloadN X0.here hx rfl (hb hby own_d_jdk_52_method_21_code_26) rfl rfl ?_
    show Steps p.tables e below (s₁.setTop (mkF m 27 #[.val (.ref b85), .val (.int (0 : Int32)), .val (.ref b96), .val (.int (0 : Int32)), .val (.int (3 : Int32)), .val (.int (0 : Int32)), .val (.int (51 : Int32))] [(.ref b96)])) _
    refine XS.iloadN X0.here hx rfl (hb hby own_d_jdk_52_method_21_code_27) rfl ?_
    show Steps p.tables e below (s₁.setTop (mkF m 28 #[.val (.ref b85), .val (.int (0 : Int32)), .val (.ref b96), .val (.int (0 : Int32)), .val (.int (3 : Int32)), .val (.int (0 : Int32)), .val (.int (51 : Int32))] [(.int (0 : Int32)), (.ref b96)])) _
    refine XS.iload X0.here hx rfl (hb hby own_d_jdk_52_method_21_code_28) rfl ?_
    show Steps p.tables e below (s₁.setTop (mkF m 30 #[.val (.ref b85), .val (.int (0 : Int32)), .val (.ref b96), .val (.int (0 : Int32)), .val (.int (3 : Int32)), .val (.int (0 : Int32)), .val (.int (51 : Int32))] [(.int (51 : Int32)), (.int (0 : Int32)), (.ref b96)])) _
    refine XS.i2b X0.here hx rfl (hb hby own_d_jdk_52_method_21_code_30) rfl ?_
    show Steps p.tables e below (s₁.setTop (mkF m 31 #[.val (.ref b85), .val (.int (0 : Int32)), .val (.ref b96), .val (.int (0 : Int32)), .val (.int (3 : Int32)), .val (.int (0 : Int32)), .val (.int (51 : Int32))] [(.int (51 : Int32)), (.int (0 : Int32)), (.ref b96)])) _
    refine st99 _ ?_
    show Steps p.tables e below (T99.setTop (mkF m 32 #[.val (.ref b85), .val (.int (0 : Int32)), .val (.ref b96), .val (.int (0 : Int32)), .val (.int (3 : Int32)), .val (.int (0 : Int32)), .val (.int (51 : Int32))] [])) _
    refine XS.iinc X99.here hx rfl (hb hby own_d_jdk_52_method_21_code_32) rfl (l' := #[.val (.ref b85), .val (.int (1 : Int32)), .val (.ref b96), .val (.int (0 : Int32)), .val (.int (3 : Int32)), .val (.int (0 : Int32)), .val (.int (51 : Int32))]) rfl ?_
    show Steps p.tables e below (T99.setTop (mkF m 35 #[.val (.ref b85), .val (.int (1 : Int32)), .val (.ref b96), .val (.int (0 : Int32)), .val (.int (3 : Int32)), .val (.int (0 : Int32)), .val (.int (51 : Int32))] [])) _
    refine XS.iinc X99.here hx rfl (hb hby own_d_jdk_52_method_21_code_35) rfl (l' := #[.val (.ref b85), .val (.int (1 : Int32)), .val (.ref b96), .val (.int (1 : Int32)), .val (.int (3 : Int32)), .val (.int (0 : Int32)), .val (.int (51 : Int32))]) rfl ?_
    show Steps p.tables e below (T99.setTop (mkF m 38 #[.val (.ref b85), .val (.int (1 : Int32)), .val (.ref b96), .val (.int (1 : Int32)), .val (.int (3 : Int32)), .val (.int (0 : Int32)), .val (.int (51 : Int32))] [])) _
    refine XS.iinc X99.here hx rfl (hb hby own_d_jdk_52_method_21_code_38) rfl (l' := #[.val (.ref b85), .val (.int (1 : Int32)), .val (.ref b96), .val (.int (1 : Int32)), .val (.int (3 : Int32)), .val (.int (1 : Int32)), .val (.int (51 : Int32))]) rfl ?_
    show Steps p.tables e below (T99.setTop (mkF m 41 #[.val (.ref b85), .val (.int (1 : Int32)), .val (.ref b96), .val (.int (1 : Int32)), .val (.int (3 : Int32)), .val (.int (1 : Int32)), .val (.int (51 : Int32))] [])) _
    refine XS.goto X99.here hx rfl (pc0 := 41) (pc' := 3) rfl (hb hby own_d_jdk_52_method_21_code_41) (by decide) (by decide) ?_
    show Steps p.tables e below (T99.setTop (mkF m 3 #[.val (.ref b85), .val (.int (1 : Int32)), .val (.ref b96), .val (.int (1 : Int32)), .val (.int (3 : Int32)), .val (.int (1 : Int32)), .val (.int (51 : Int32))] [])) _
    refine XS.iload X99.here hx rfl (hb hby own_d_jdk_52_method_21_code_3) rfl ?_
    show Steps p.tables e below (T99.setTop (mkF m 5 #[.val (.ref b85), .val (.int (1 : Int32)), .val (.ref b96), .val (.int (1 : Int32)), .val (.int (3 : Int32)), .val (.int (1 : Int32)), .val (.int (51 : Int32))] [(.int (1 : Int32))])) _
    refine XS.iload X99.here hx rfl (hb hby own_d_jdk_52_method_21_code_5) rfl ?_
    show Steps p.tables e below (T99.setTop (mkF m 7 #[.val (.ref b85), .val (.int (1 : Int32)), .val (.ref b96), .val (.int (1 : Int32)), .val (.int (3 : Int32)), .val (.int (1 : Int32)), .val (.int (51 : Int32))] [(.int (3 : Int32)), (.int (1 : Int32))])) _
    refine XS.icmpNo X99.here hx rfl (hb hby own_d_jdk_52_method_21_code_7) rfl (tlt (by decide : (1 : Int32) < (3 : Int32))).2.1 ?_
    show Steps p.tables e below (T99.setTop (mkF m 10 #[.val (.ref b85), .val (.int (1 : Int32)), .val (.ref b96), .val (.int (1 : Int32)), .val (.int (3 : Int32)), .val (.int (1 : Int32)), .val (.int (51 : Int32))] [])) _
    refine XS.aloadN X99.here hx rfl (hb hby own_d_jdk_52_method_21_code_10) rfl rfl ?_
    show Steps p.tables e below (T99.setTop (mkF m 11 #[.val (.ref b85), .val (.int (1 : Int32)), .val (.ref b96), .val (.int (1 : Int32)), .val (.int (3 : Int32)), .val (.int (1 : Int32)), .val (.int (51 : Int32))] [(.ref b85)])) _
    refine XS.iloadN X99.here hx rfl (hb hby own_d_jdk_52_method_21_code_11) rfl ?_
    show Steps p.tables e below (T99.setTop (mkF m 12 #[.val (.ref b85), .val (.int (1 : Int32)), .val (.ref b96), .val (.int (1 : Int32)), .val (.int (3 : Int32)), .val (.int (1 : Int32)), .val (.int (51 : Int32))] [(.int (1 : Int32)), (.ref b85)])) _
    refine X99.caload hx (j := (1 : Int32)) (v := (.int (46 : Int32))) (by rw [e99]; exact Ar101.1) (State.isArrayOf_alike hZ.alike Ar101.2.1) Ar101.2.2 hin101 hat101 (g := (mkF m 12 #[.val (.ref b85), .val (.int (1 : Int32)), .val (.ref b96), .val (.int (1 : Int32)), .val (.int (3 : Int32)), .val (.int (1 : Int32)), .val (.int (51 : Int32))] [(.int (1 : Int32)), (.ref b85)])) rfl rfl (hb hby own_d_jdk_52_method_21_code_12) _ ?_
    show Steps p.tables e below (T99.setTop (mkF m 13 #[.val (.ref b85), .val (.int (1 : Int32)), .val (.ref b96), .val (.int (1 : Int32)), .val (.int (3 : Int32)), .val (.int (1 : Int32)), .val (.int (51 : Int32))] [(.int (46 : Int32))])) _
    refine XS.istore X99.here hx rfl (hb hby own_d_jdk_52_method_21_code_13) rfl (l' := #[.val (.ref b85), .val (.int (1 : Int32)), .val (.ref b96), .val (.int (1 : Int32)), .val (.int (3 : Int32)), .val (.int (1 : Int32)), .val (.int (46 : Int32))]) rfl ?_
    show Steps p.tables e below (T99.setTop (mkF m 15 #[.val (.ref b85), .val (.int (1 : Int32)), .val (.ref b96), .val (.int (1 : Int32)), .val (.int (3 : Int32)), .val (.int (1 : Int32)), .val (.int (46 : Int32))] [])) _
    refine XS.iload X99.here hx rfl (hb hby own_d_jdk_52_method_21_code_15) rfl ?_
    show Steps p.tables e below (T99.setTop (mkF m 17 #[.val (.ref b85), .val (.int (1 : Int32)), .val (.ref b96), .val (.int (1 : Int32)), .val (.int (3 : Int32)), .val (.int (1 : Int32)), .val (.int (46 : Int32))] [(.int (46 : Int32))])) _
    refine XS.sipush X99.here hx rfl (hb hby own_d_jdk_52_method_21_code_17) ?_
    show Steps p.tables e below (T99.setTop (mkF m 20 #[.val (.ref b85), .val (.int (1 : Int32)), .val (.ref b96), .val (.int (1 : Int32)), .val (.int (3 : Int32)), .val (.int (1 : Int32)), .val (.int (46 : Int32))] [(.int (255 : Int32)), (.int (46 : Int32))])) _
    refine XS.icmpYes X99.here hx rfl (pc0 := 20) (pc' := 26) rfl (hb hby own_d_jdk_52_method_21_code_20) rfl (flt (by decide : ¬ ((255 : Int32) < (46 : Int32)))).2.2.2 (by decide) (by decide) ?_
    show Steps p.tables e below (T99.setTop (mkF m 26 #[.val (.ref b85), .val (.int (1 : Int32)), .val (.ref b96), .val (.int (1 : Int32)), .val (.int (3 : Int32)), .val (.int (1 : Int32)), .val (.int (46 : Int32))] [])) _
    refine XS.aloadN X99.here hx rfl (hb hby own_d_jdk_52_method_21_code_26) rfl rfl ?_
    show Steps p.tables e below (T99.setTop (mkF m 27 #[.val (.ref b85), .val (.int (1 : Int32)), .val (.ref b96), .val (.int (1 : Int32)), .val (.int (3 : Int32)), .val (.int (1 : Int32)), .val (.int (46 : Int32))] [(.ref b96)])) _
    refine XS.iloadN X99.here hx rfl (hb hby own_d_jdk_52_method_21_code_27) rfl ?_
    show Steps p.tables e below (T99.setTop (mkF m 28 #[.val (.ref b85), .val (.int (1 : Int32)), .val (.ref b96), .val (.int (1 : Int32)), .val (.int (3 : Int32)), .val (.int (1 : Int32)), .val (.int (46 : Int32))] [(.int (1 : Int32)), (.ref b96)])) _
    refine XS.iload X99.here hx rfl (hb hby own_d_jdk_52_method_21_code_28) rfl ?_
    show Steps p.tables e below (T99.setTop (mkF m 30 #[.val (.ref b85), .val (.int (1 : Int32)), .val (.ref b96), .val (.int (1 : Int32)), .val (.int (3 : Int32)), .val (.int (1 : Int32)), .val (.int (46 : Int32))] [(.int (46 : Int32)), (.int (1 : Int32)), (.ref b96)])) _
    refine XS.i2b X99.here hx rfl (hb hby own_d_jdk_52_method_21_code_30) rfl ?_
    show Steps p.tables e below (T99.setTop (mkF m 31 #[.val (.ref b85), .val (.int (1 : Int32)), .val (.ref b96), .val (.int (1 : Int32)), .val (.int (3 : Int32)), .val (.int (1 : Int32)), .val (.int (46 : Int32))] [(.int (46 : Int32)), (.int (1 : Int32)), (.ref b96)])) _
    refine st103 _ ?_
    show Steps p.tables e below (T103.setTop (mkF m 32 #[.val (.ref b85), .val (.int (1 : Int32)), .val (.ref b96), .val (.int (1 : Int32)), .val (.int (3 : Int32)), .val (.int (1 : Int32)), .val (.int (46 : Int32))] [])) _
    refine XS.iinc X103.here hx rfl (hb hby own_d_jdk_52_method_21_code_32) rfl (l' := #[.val (.ref b85), .val (.int (2 : Int32)), .val (.ref b96), .val (.int (1 : Int32)), .val (.int (3 : Int32)), .val (.int (1 : Int32)), .val (.int (46 : Int32))]) rfl ?_
    show Steps p.tables e below (T103.setTop (mkF m 35 #[.val (.ref b85), .val (.int (2 : Int32)), .val (.ref b96), .val (.int (1 : Int32)), .val (.int (3 : Int32)), .val (.int (1 : Int32)), .val (.int (46 : Int32))] [])) _
    refine XS.iinc X103.here hx rfl (hb hby own_d_jdk_52_method_21_code_35) rfl (l' := #[.val (.ref b85), .val (.int (2 : Int32)), .val (.ref b96), .val (.int (2 : Int32)), .val (.int (3 : Int32)), .val (.int (1 : Int32)), .val (.int (46 : Int32))]) rfl ?_
    show Steps p.tables e below (T103.setTop (mkF m 38 #[.val (.ref b85), .val (.int (2 : Int32)), .val (.ref b96), .val (.int (2 : Int32)), .val (.int (3 : Int32)), .val (.int (1 : Int32)), .val (.int (46 : Int32))] [])) _
    refine XS.iinc X103.here hx rfl (hb hby own_d_jdk_52_method_21_code_38) rfl (l' := #[.val (.ref b85), .val (.int (2 : Int32)), .val (.ref b96), .val (.int (2 : Int32)), .val (.int (3 : Int32)), .val (.int (2 : Int32)), .val (.int (46 : Int32))]) rfl ?_
    show Steps p.tables e below (T103.setTop (mkF m 41 #[.val (.ref b85), .val (.int (2 : Int32)), .val (.ref b96), .val (.int (2 : Int32)), .val (.int (3 : Int32)), .val (.int (2 : Int32)), .val (.int (46 : Int32))] [])) _
    refine XS.goto X103.here hx rfl (pc0 := 41) (pc' := 3) rfl (hb hby own_d_jdk_52_method_21_code_41) (by decide) (by decide) ?_
    show Steps p.tables e below (T103.setTop (mkF m 3 #[.val (.ref b85), .val (.int (2 : Int32)), .val (.ref b96), .val (.int (2 : Int32)), .val (.int (3 : Int32)), .val (.int (2 : Int32)), .val (.int (46 : Int32))] [])) _
    refine XS.iload X103.here hx rfl (hb hby own_d_jdk_52_method_21_code_3) rfl ?_
    show Steps p.tables e below (T103.setTop (mkF m 5 #[.val (.ref b85), .val (.int (2 : Int32)), .val (.ref b96), .val (.int (2 : Int32)), .val (.int (3 : Int32)), .val (.int (2 : Int32)), .val (.int (46 : Int32))] [(.int (2 : Int32))])) _
    refine XS.iload X103.here hx rfl (hb hby own_d_jdk_52_method_21_code_5) rfl ?_
    show Steps p.tables e below (T103.setTop (mkF m 7 #[.val (.ref b85), .val (.int (2 : Int32)), .val (.ref b96), .val (.int (2 : Int32)), .val (.int (3 : Int32)), .val (.int (2 : Int32)), .val (.int (46 : Int32))] [(.int (3 : Int32)), (.int (2 : Int32))])) _
    refine XS.icmpNo X103.here hx rfl (hb hby own_d_jdk_52_method_21_code_7) rfl (tlt (by decide : (2 : Int32) < (3 : Int32))).2.1 ?_
    show Steps p.tables e below (T103.setTop (mkF m 10 #[.val (.ref b85), .val (.int (2 : Int32)), .val (.ref b96), .val (.int (2 : Int32)), .val (.int (3 : Int32)), .val (.int (2 : Int32)), .val (.int (46 : Int32))] [])) _
    refine XS.aloadN X103.here hx rfl (hb hby own_d_jdk_52_method_21_code_10) rfl rfl ?_
    show Steps p.tables e below (T103.setTop (mkF m 11 #[.val (.ref b85), .val (.int (2 : Int32)), .val (.ref b96), .val (.int (2 : Int32)), .val (.int (3 : Int32)), .val (.int (2 : Int32)), .val (.int (46 : Int32))] [(.ref b85)])) _
    refine XS.iloadN X103.here hx rfl (hb hby own_d_jdk_52_method_21_code_11) rfl ?_
    show Steps p.tables e below (T103.setTop (mkF m 12 #[.val (.ref b85), .val (.int (2 : Int32)), .val (.ref b96), .val (.int (2 : Int32)), .val (.int (3 : Int32)), .val (.int (2 : Int32)), .val (.int (46 : Int32))] [(.int (2 : Int32)), (.ref b85)])) _
    refine X103.caload hx (j := (2 : Int32)) (v := (.int (49 : Int32))) (by rw [e103]; exact Ar105.1) (State.isArrayOf_alike hZ.alike Ar105.2.1) Ar105.2.2 hin105 hat105 (g := (mkF m 12 #[.val (.ref b85), .val (.int (2 : Int32)), .val (.ref b96), .val (.int (2 : Int32)), .val (.int (3 : Int32)), .val (.int (2 : Int32)), .val (.int (46 : Int32))] [(.int (2 : Int32)), (.ref b85)])) rfl rfl (hb hby own_d_jdk_52_method_21_code_12) _ ?_
    show Steps p.tables e below (T103.setTop (mkF m 13 #[.val (.ref b85), .val (.int (2 : Int32)), .val (.ref b96), .val (.int (2 : Int32)), .val (.int (3 : Int32)), .val (.int (2 : Int32)), .val (.int (46 : Int32))] [(.int (49 : Int32))])) _
    refine XS.istore X103.here hx rfl (hb hby own_d_jdk_52_method_21_code_13) rfl (l' := #[.val (.ref b85), .val (.int (2 : Int32)), .val (.ref b96), .val (.int (2 : Int32)), .val (.int (3 : Int32)), .val (.int (2 : Int32)), .val (.int (49 : Int32))]) rfl ?_
    show Steps p.tables e below (T103.setTop (mkF m 15 #[.val (.ref b85), .val (.int (2 : Int32)), .val (.ref b96), .val (.int (2 : Int32)), .val (.int (3 : Int32)), .val (.int (2 : Int32)), .val (.int (49 : Int32))] [])) _
    refine XS.iload X103.here hx rfl (hb hby own_d_jdk_52_method_21_code_15) rfl ?_
    show Steps p.tables e below (T103.setTop (mkF m 17 #[.val (.ref b85), .val (.int (2 : Int32)), .val (.ref b96), .val (.int (2 : Int32)), .val (.int (3 : Int32)), .val (.int (2 : Int32)), .val (.int (49 : Int32))] [(.int (49 : Int32))])) _
    refine XS.sipush X103.here hx rfl (hb hby own_d_jdk_52_method_21_code_17) ?_
    show Steps p.tables e below (T103.setTop (mkF m 20 #[.val (.ref b85), .val (.int (2 : Int32)), .val (.ref b96), .val (.int (2 : Int32)), .val (.int (3 : Int32)), .val (.int (2 : Int32)), .val (.int (49 : Int32))] [(.int (255 : Int32)), (.int (49 : Int32))])) _
    refine XS.icmpYes X103.here hx rfl (pc0 := 20) (pc' := 26) rfl (hb hby own_d_jdk_52_method_21_code_20) rfl (flt (by decide : ¬ ((255 : Int32) < (49 : Int32)))).2.2.2 (by decide) (by decide) ?_
    show Steps p.tables e below (T103.setTop (mkF m 26 #[.val (.ref b85), .val (.int (2 : Int32)), .val (.ref b96), .val (.int (2 : Int32)), .val (.int (3 : Int32)), .val (.int (2 : Int32)), .val (.int (49 : Int32))] [])) _
    refine XS.aloadN X103.here hx rfl (hb hby own_d_jdk_52_method_21_code_26) rfl rfl ?_
    show Steps p.tables e below (T103.setTop (mkF m 27 #[.val (.ref b85), .val (.int (2 : Int32)), .val (.ref b96), .val (.int (2 : Int32)), .val (.int (3 : Int32)), .val (.int (2 : Int32)), .val (.int (49 : Int32))] [(.ref b96)])) _
    refine XS.iloadN X103.here hx rfl (hb hby own_d_jdk_52_method_21_code_27) rfl ?_
    show Steps p.tables e below (T103.setTop (mkF m 28 #[.val (.ref b85), .val (.int (2 : Int32)), .val (.ref b96), .val (.int (2 : Int32)), .val (.int (3 : Int32)), .val (.int (2 : Int32)), .val (.int (49 : Int32))] [(.int (2 : Int32)), (.ref b96)])) _
    refine XS.iload X103.here hx rfl (hb hby own_d_jdk_52_method_21_code_28) rfl ?_
    show Steps p.tables e below (T103.setTop (mkF m 30 #[.val (.ref b85), .val (.int (2 : Int32)), .val (.ref b96), .val (.int (2 : Int32)), .val (.int (3 : Int32)), .val (.int (2 : Int32)), .val (.int (49 : Int32))] [(.int (49 : Int32)), (.int (2 : Int32)), (.ref b96)])) _
    refine XS.i2b X103.here hx rfl (hb hby own_d_jdk_52_method_21_code_30) rfl ?_
    show Steps p.tables e below (T103.setTop (mkF m 31 #[.val (.ref b85), .val (.int (2 : Int32)), .val (.ref b96), .val (.int (2 : Int32)), .val (.int (3 : Int32)), .val (.int (2 : Int32)), .val (.int (49 : Int32))] [(.int (49 : Int32)), (.int (2 : Int32)), (.ref b96)])) _
    refine st107 _ ?_
    show Steps p.tables e below (T107.setTop (mkF m 32 #[.val (.ref b85), .val (.int (2 : Int32)), .val (.ref b96), .val (.int (2 : Int32)), .val (.int (3 : Int32)), .val (.int (2 : Int32)), .val (.int (49 : Int32))] [])) _
    refine XS.iinc X107.here hx rfl (hb hby own_d_jdk_52_method_21_code_32) rfl (l' := #[.val (.ref b85), .val (.int (3 : Int32)), .val (.ref b96), .val (.int (2 : Int32)), .val (.int (3 : Int32)), .val (.int (2 : Int32)), .val (.int (49 : Int32))]) rfl ?_
    show Steps p.tables e below (T107.setTop (mkF m 35 #[.val (.ref b85), .val (.int (3 : Int32)), .val (.ref b96), .val (.int (2 : Int32)), .val (.int (3 : Int32)), .val (.int (2 : Int32)), .val (.int (49 : Int32))] [])) _
    refine XS.iinc X107.here hx rfl (hb hby own_d_jdk_52_method_21_code_35) rfl (l' := #[.val (.ref b85), .val (.int (3 : Int32)), .val (.ref b96), .val (.int (3 : Int32)), .val (.int (3 : Int32)), .val (.int (2 : Int32)), .val (.int (49 : Int32))]) rfl ?_
    show Steps p.tables e below (T107.setTop (mkF m 38 #[.val (.ref b85), .val (.int (3 : Int32)), .val (.ref b96), .val (.int (3 : Int32)), .val (.int (3 : Int32)), .val (.int (2 : Int32)), .val (.int (49 : Int32))] [])) _
    refine XS.iinc X107.here hx rfl (hb hby own_d_jdk_52_method_21_code_38) rfl (l' := #[.val (.ref b85), .val (.int (3 : Int32)), .val (.ref b96), .val (.int (3 : Int32)), .val (.int (3 : Int32)), .val (.int (3 : Int32)), .val (.int (49 : Int32))]) rfl ?_
    show Steps p.tables e below (T107.setTop (mkF m 41 #[.val (.ref b85), .val (.int (3 : Int32)), .val (.ref b96), .val (.int (3 : Int32)), .val (.int (3 : Int32)), .val (.int (3 : Int32)), .val (.int (49 : Int32))] [])) _
    refine XS.goto X107.here hx rfl (pc0 := 41) (pc' := 3) rfl (hb hby own_d_jdk_52_method_21_code_41) (by decide) (by decide) ?_
    show Steps p.tables e below (T107.setTop (mkF m 3 #[.val (.ref b85), .val (.int (3 : Int32)), .val (.ref b96), .val (.int (3 : Int32)), .val (.int (3 : Int32)), .val (.int (3 : Int32)), .val (.int (49 : Int32))] [])) _
    refine XS.iload X107.here hx rfl (hb hby own_d_jdk_52_method_21_code_3) rfl ?_
    show Steps p.tables e below (T107.setTop (mkF m 5 #[.val (.ref b85), .val (.int (3 : Int32)), .val (.ref b96), .val (.int (3 : Int32)), .val (.int (3 : Int32)), .val (.int (3 : Int32)), .val (.int (49 : Int32))] [(.int (3 : Int32))])) _
    refine XS.iload X107.here hx rfl (hb hby own_d_jdk_52_method_21_code_5) rfl ?_
    show Steps p.tables e below (T107.setTop (mkF m 7 #[.val (.ref b85), .val (.int (3 : Int32)), .val (.ref b96), .val (.int (3 : Int32)), .val (.int (3 : Int32)), .val (.int (3 : Int32)), .val (.int (49 : Int32))] [(.int (3 : Int32)), (.int (3 : Int32))])) _
    refine XS.icmpYes X107.here hx rfl (pc0 := 7) (pc' := 44) rfl (hb hby own_d_jdk_52_method_21_code_7) rfl (flt (by decide : ¬ ((3 : Int32) < (3 : Int32)))).2.1 (by decide) (by decide) ?_
    show Steps p.tables e below (T107.setTop (mkF m 44 #[.val (.ref b85), .val (.int (3 : Int32)), .val (.ref b96), .val (.int (3 : Int32)), .val (.int (3 : Int32)), .val (.int (3 : Int32)), .val (.int (49 : Int32))] [])) _
    refine XS.iload X107.here hx rfl (hb hby own_d_jdk_52_method_21_code_44) rfl ?_
    show Steps p.tables e below (T107.setTop (mkF m 46 #[.val (.ref b85), .val (.int (3 : Int32)), .val (.ref b96), .val (.int (3 : Int32)), .val (.int (3 : Int32)), .val (.int (3 : Int32)), .val (.int (49 : Int32))] [(.int (3 : Int32))])) _
    exact retI X107 hx Bd.returns (hb hby own_d_jdk_52_method_21_code_46) hr
  · show Q_rm14 Z p1 A K cs b85 b96 k85 k96 h0 n0 _ T107.heap _
    rw [e107]
    exact ⟨rfl, NF107, KK107, V107⟩
def Q_rm13 (Z : State) (p1 : Int32) (A : Nat → Addr) (K : Nat → ClassId) (cs : Int32) (b85 : Addr) (b92 : Addr) (k85 : ClassId) (h0 : Heap) (n0 : Nat) (v : Option Value) (h : Heap) (L : List Loc) : Prop := ∃ b96 : Addr, ∃ k96 : ClassId, v = (some (.ref b96)) ∧ Fr n0 L ∧ Keep h0 h [] ∧ (n0 ≤ b96 ∧ h0.size ≤ b96) ∧ (Arv Z h b96 k96 .byte (3 : Int32) [(.int (51 : Int32)), (.int (46 : Int32)), (.int (49 : Int32))] (.int (0 : Int32)))
theorem own_ef_rm13 (m : MethodId) (p1 : Int32) (A : Nat → Addr) (K : Nat → ClassId) (cs : Int32)  (b85 : Addr) (b92 : Addr) (k85 : ClassId) : entryFrame m #[(.ref b85), (.int (0 : Int32)), (.int (3 : Int32))] 6 = mkF m 0 #[.val (.ref b85), .val (.int (0 : Int32)), .val (.int (3 : Int32)), .unset, .unset, .unset] [] := by first | (simp [entryFrame, mkF, argsToLocals, Value.category, maxLocals]; done) | rfl
set_option maxRecDepth 65536 in
set_option maxHeartbeats 40000000 in
theorem rm13 (l : Launch) (Z : State) (a0 : Array Value) (hw : ∀ d ∈ tables_1, d.before a0 Z = true) (ws : List Jvm.Cond) (h0 : Heap) (n0 : Nat) (p1 : Int32) (A : Nat → Addr) (K : Nat → ClassId) (cs : Int32)  (b85 : Addr) (b92 : Addr) (k85 : ClassId) (EN : own_St Z A K cs) (OL0 : Old Z n0 h0) (G_A_b85 : Arv Z h0 b85 k85 .char (3 : Int32) [(.int (51 : Int32)), (.int (46 : Int32)), (.int (49 : Int32))] (.int (0 : Int32))) (G_E_b92 : Exa Z h0 b92 "java/lang/String") :
    MetFree l own_m4 (head1 (Jvm.Cond.code own_m4 jdk_52_method_16_code 6 (some (.array .byte)) :: ws) ({ frames := 1, cells := 1, slots := 3, locals := 18 } : Room)) (fun a U => a = #[(.ref b85), (.int (0 : Int32)), (.int (3 : Int32))] ∧ Z.Warmed39 U.vm ∧ U.heap = h0) (fun _ _ _ _ _ => True) (fun _ U o U' => ∃ v L, o = .returned v ∧ Q_rm13 Z p1 A K cs b85 b92 k85 h0 n0 v U'.heap L ∧ FrameEnd U o U' L ({ frames := 1, cells := 1, slots := 3, locals := 18 } : Room).cells ({ frames := 1, cells := 1, slots := 3, locals := 18 } : Room).slots) := by
  refine MetFree.of_bodySF (plainFor_of_name own_pn0) hisR ?_
  intro p e s m args below meth c s₁ Bd hml0 hP hK
  obtain ⟨rfl, hZ, hh⟩ := hP
  have hx := Bd.exec
  have hby := Bd.bytes
  have hml : c.maxLocals = 6 := hml0
  have hown : s.vm.findClass "java/lang/StringUTF16" = some m.cls := findClass_of_methodNamed Bd.named
  have hnm := (name_of_methodNamed Bd.named Bd.method).1
  have X0 : Stand p l e ({ frames := 1, cells := 1, slots := 3, locals := 18 } : Room) s m #[(.ref b85), (.int (0 : Int32)), (.int (3 : Int32))] below meth c s₁ [] 0 0 := Stand.of_body Bd
  have e0 : s₁.heap = h0 := by rw [← hh, Bd.state]; rfl
  have N0 := Fr.nil n0
  have pre0 : ∀ t, Steps p.tables e below (s₁.setTop (mkF m 0 #[.val (.ref b85), .val (.int (0 : Int32)), .val (.int (3 : Int32)), .unset, .unset, .unset] [])) t → Steps p.tables e below (s₁.setTop (entryFrame m #[(.ref b85), (.int (0 : Int32)), (.int (3 : Int32))] 6)) t := fun t k => castTop (own_ef_rm13 m p1 A K cs b85 b92 k85) k
  have KK0 : Keep h0 h0 [] := Keep.refl _ _
  obtain ⟨T96, h96, k96, X96, e96, E96, A96, st96⟩ := newP X0 hx hZ (hw _ (List.mem_of_getElem? (i := 19) rfl)) e0 (g := (mkF m 1 #[.val (.ref b85), .val (.int (0 : Int32)), .val (.int (3 : Int32)), .unset, .unset, .unset] [(.int (3 : Int32))])) rfl (hb hby own_d_jdk_52_method_16_code_1) rfl (by decide) (cap := 3) (by decide) (by decide) (by decide) (by decide)
  obtain ⟨b96, g96⟩ : ∃ z, z = h0.size := ⟨_, rfl⟩
  rw [← g96] at A96 st96
  have gn_b96 : n0 ≤ b96 := Nat.le_trans (OL0.1 ▸ OL0.2.1) (Nat.le_of_eq g96.symm)
  have sz_b96 : h0.size ≤ b96 := Nat.le_trans KK0.1 (Nat.le_of_eq g96.symm)
  have lt_b85_b96 : b85 < b96 := Nat.lt_of_lt_of_le G_A_b85.lt (Nat.le_of_eq g96.symm)
  have lt_b92_b96 : b92 < b96 := Nat.lt_of_lt_of_le G_E_b92.lt (Nat.le_of_eq g96.symm)
  have OL96 : Old Z n0 h96 := OL0.ext E96
  have KK96 : Keep h0 h96 [] := KK0.ext E96
  have V96 : Arv Z h96 b96 k96 .byte (3 : Int32) [] (.int (0 : Int32)) := Arv.new A96 (by decide)
  have fx108 : Arv Z h96 b85 k85 .char (3 : Int32) [(.int (51 : Int32)), (.int (46 : Int32)), (.int (49 : Int32))] (.int (0 : Int32)) := (G_A_b85.ext E96)
  obtain ⟨_, _, ⟨T109, L109, k109, n109⟩, -, X109, ⟨Lc109, hQ109, l109, y109, z109⟩, st109⟩ := Jvm.LawKit.callS X96 hx (y := own_m3) hown (mvT hZ (hw _ (List.mem_of_getElem? (i := 20) rfl))) (mvT hZ (hw _ (List.mem_of_getElem? (i := 21) rfl))) (mvT hZ (hw _ (List.mem_of_getElem? (i := 17) rfl))) (mvT hZ (hw _ (List.mem_of_getElem? (i := 22) rfl))) (by decide) (backOf (W := 0) (rm14 l Z a0 hw [] h96 n0 p1 A K cs b85 b96 k85 k96 EN OL96 fx108 V96 (Nat.ne_of_lt lt_b85_b96) gn_b96) hZ (hw _ (List.mem_of_getElem? (i := 22) rfl)) (hw _ (List.mem_of_getElem? (i := 17) rfl)) (by decide) (by decide)) (g := (mkF m 9 #[.val (.ref b85), .val (.int (0 : Int32)), .val (.int (3 : Int32)), .val (.ref b96), .unset, .unset] [(.int (3 : Int32)), (.int (0 : Int32)), (.ref b96), (.int (0 : Int32)), (.ref b85)])) rfl (by rw [hml]; rfl) (argsL := [(.ref b85), (.int (0 : Int32)), (.ref b96), (.int (0 : Int32)), (.int (3 : Int32))]) (rest := []) (lenOf own_pd0 rfl) rfl (by show 2 * 0 + _ ≤ _; exact Nat.le_of_eq rfl) (hb hby own_d_jdk_52_method_16_code_9) (fun _ _ => ⟨rfl, e96, (by decide : 1 + 0 ≤ _), (by decide : 3 + 0 ≤ _)⟩)
  dsimp only [Pt.U, Pt.locs, Pt.cells, Pt.slots] at X109 l109 y109 z109 st109 hQ109
  subst l109 y109 z109
  obtain ⟨rfl, N109q, K109c, f109_0⟩ := hQ109
  have N109 := Fr.app N0 N109q
  have OL109 : Old Z n0 T109.heap := OL96.keep K109c (allS gn_b96 all0)
  have KK109 : Keep h0 T109.heap [] := KK96.trans K109c (allS (Or.inr sz_b96) all0)
  obtain ⟨fs, hr, hrun, hended, hW, hsame⟩ := X109.leave (v := some (.ref b96)) (fun h => by rw [Bd.returns] at h; cases h)
  refine ⟨_, _, pre0 _ ?_, hrun, hended, _, _, rfl, ?_, ⟨_, rfl⟩, hW, hsame.mono (by decide) (by decide)⟩
  · show Steps p.tables e below (s₁.setTop (mkF m 0 #[.val (.ref b85), .val (.int (0 : Int32)), .val (.int (3 : Int32)), .unset, .unset, .unset] [])) _
    refine XS.iloadN X0.here hx rfl (hb hby own_d_jdk_52_method_16_code_0) rfl ?_
    show Steps p.tables e below (s₁.setTop (mkF m 1 #[.val (.ref b85), .val (.int (0 : Int32)), .val (.int (3 : Int32)), .unset, .unset, .unset] [(.int (3 : Int32))])) _
    refine st96 _ ?_
    show Steps p.tables e below (T96.setTop (mkF m 3 #[.val (.ref b85), .val (.int (0 : Int32)), .val (.int (3 : Int32)), .unset, .unset, .unset] [(.ref b96)])) _
    refine XS.astoreN X96.here hx rfl (hb hby own_d_jdk_52_method_16_code_3) rfl rfl (l' := #[.val (.ref b85), .val (.int (0 : Int32)), .val (.int (3 : Int32)), .val (.ref b96), .unset, .unset]) rfl ?_
    show Steps p.tables e below (T96.setTop (mkF m 4 #[.val (.ref b85), .val (.int (0 : Int32)), .val (.int (3 : Int32)), .val (.ref b96), .unset, .unset] [])) _
    refine XS.aloadN X96.here hx rfl (hb hby own_d_jdk_52_method_16_code_4) rfl rfl ?_
    show Steps p.tables e below (T96.setTop (mkF m 5 #[.val (.ref b85), .val (.int (0 : Int32)), .val (.int (3 : Int32)), .val (.ref b96), .unset, .unset] [(.ref b85)])) _
    refine XS.iloadN X96.here hx rfl (hb hby own_d_jdk_52_method_16_code_5) rfl ?_
    show Steps p.tables e below (T96.setTop (mkF m 6 #[.val (.ref b85), .val (.int (0 : Int32)), .val (.int (3 : Int32)), .val (.ref b96), .unset, .unset] [(.int (0 : Int32)), (.ref b85)])) _
    refine XS.aloadN X96.here hx rfl (hb hby own_d_jdk_52_method_16_code_6) rfl rfl ?_
    show Steps p.tables e below (T96.setTop (mkF m 7 #[.val (.ref b85), .val (.int (0 : Int32)), .val (.int (3 : Int32)), .val (.ref b96), .unset, .unset] [(.ref b96), (.int (0 : Int32)), (.ref b85)])) _
    refine XS.iconst X96.here hx rfl (hb hby own_d_jdk_52_method_16_code_7) ?_
    show Steps p.tables e below (T96.setTop (mkF m 8 #[.val (.ref b85), .val (.int (0 : Int32)), .val (.int (3 : Int32)), .val (.ref b96), .unset, .unset] [(.int (0 : Int32)), (.ref b96), (.int (0 : Int32)), (.ref b85)])) _
    refine XS.iloadN X96.here hx rfl (hb hby own_d_jdk_52_method_16_code_8) rfl ?_
    show Steps p.tables e below (T96.setTop (mkF m 9 #[.val (.ref b85), .val (.int (0 : Int32)), .val (.int (3 : Int32)), .val (.ref b96), .unset, .unset] [(.int (3 : Int32)), (.int (0 : Int32)), (.ref b96), (.int (0 : Int32)), (.ref b85)])) _
    refine st109 _ ?_
    show Steps p.tables e below (T109.setTop (mkF m 12 #[.val (.ref b85), .val (.int (0 : Int32)), .val (.int (3 : Int32)), .val (.ref b96), .unset, .unset] [(.int (3 : Int32))])) _
    refine XS.istore X109.here hx rfl (hb hby own_d_jdk_52_method_16_code_12) rfl (l' := #[.val (.ref b85), .val (.int (0 : Int32)), .val (.int (3 : Int32)), .val (.ref b96), .val (.int (3 : Int32)), .unset]) rfl ?_
    show Steps p.tables e below (T109.setTop (mkF m 14 #[.val (.ref b85), .val (.int (0 : Int32)), .val (.int (3 : Int32)), .val (.ref b96), .val (.int (3 : Int32)), .unset] [])) _
    refine XS.iload X109.here hx rfl (hb hby own_d_jdk_52_method_16_code_14) rfl ?_
    show Steps p.tables e below (T109.setTop (mkF m 16 #[.val (.ref b85), .val (.int (0 : Int32)), .val (.int (3 : Int32)), .val (.ref b96), .val (.int (3 : Int32)), .unset] [(.int (3 : Int32))])) _
    refine XS.iloadN X109.here hx rfl (hb hby own_d_jdk_52_method_16_code_16) rfl ?_
    show Steps p.tables e below (T109.setTop (mkF m 17 #[.val (.ref b85), .val (.int (0 : Int32)), .val (.int (3 : Int32)), .val (.ref b96), .val (.int (3 : Int32)), .unset] [(.int (3 : Int32)), (.int (3 : Int32))])) _
    refine XS.icmpYes X109.here hx rfl (pc0 := 17) (pc' := 57) rfl (hb hby own_d_jdk_52_method_16_code_17) rfl (teq (by decide : (3 : Int32) = (3 : Int32))).1 (by decide) (by decide) ?_
    show Steps p.tables e below (T109.setTop (mkF m 57 #[.val (.ref b85), .val (.int (0 : Int32)), .val (.int (3 : Int32)), .val (.ref b96), .val (.int (3 : Int32)), .unset] [])) _
    refine XS.aloadN X109.here hx rfl (hb hby own_d_jdk_52_method_16_code_57) rfl rfl ?_
    show Steps p.tables e below (T109.setTop (mkF m 58 #[.val (.ref b85), .val (.int (0 : Int32)), .val (.int (3 : Int32)), .val (.ref b96), .val (.int (3 : Int32)), .unset] [(.ref b96)])) _
    exact retOut X109 hx Bd.returns rfl (Or.inr (Or.inr (Or.inr (Or.inr ⟨rfl, rfl, rfl⟩)))) (hb hby own_d_jdk_52_method_16_code_58) hr
  · show Q_rm13 Z p1 A K cs b85 b92 k85 h0 n0 _ T109.heap _
    exact ⟨b96, k96, rfl, N109, KK109, ⟨gn_b96, sz_b96⟩, f109_0⟩
theorem own_ef_rm15 (m : MethodId) (p1 : Int32) (A : Nat → Addr) (K : Nat → ClassId) (cs : Int32)  (b110_b96 : Addr) (k110_k96 : ClassId) : entryFrame m #[(.ref b110_b96), (.int (3 : Int32))] 2 = mkF m 0 #[.val (.ref b110_b96), .val (.int (3 : Int32))] [] := by first | (simp [entryFrame, mkF, argsToLocals, Value.category, maxLocals]; done) | rfl
set_option maxRecDepth 65536 in
set_option maxHeartbeats 40000000 in
theorem rm15 (l : Launch) (Z : State) (a0 : Array Value) (hw : ∀ d ∈ tables_1, d.before a0 Z = true) (ws : List Jvm.Cond) (h0 : Heap) (n0 : Nat) (p1 : Int32) (A : Nat → Addr) (K : Nat → ClassId) (cs : Int32)  (b110_b96 : Addr) (k110_k96 : ClassId) (EN : own_St Z A K cs) (OL0 : Old Z n0 h0) (G_A_b110_b96 : Arv Z h0 b110_b96 k110_k96 .byte (3 : Int32) [(.int (51 : Int32)), (.int (46 : Int32)), (.int (49 : Int32))] (.int (0 : Int32))) :
    MetFree l own_m5 (head1 (Jvm.Cond.code own_m5 jdk_52_method_15_code 2 (some .byte) :: ws) ({ frames := 0, cells := 0, slots := 0, locals := 0 } : Room)) (fun a U => a = #[(.ref b110_b96), (.int (3 : Int32))] ∧ Z.Warmed39 U.vm ∧ U.heap = h0) (fun _ _ _ _ _ => True) (fun _ U o U' => ∃ v L, o = .returned v ∧ (PQ (some (.int (0 : Int32))) h0 n0) v U'.heap L ∧ FrameEnd U o U' L ({ frames := 0, cells := 0, slots := 0, locals := 0 } : Room).cells ({ frames := 0, cells := 0, slots := 0, locals := 0 } : Room).slots) := by
  refine MetFree.of_bodySF (plainFor_of_name own_pn0) hisR ?_
  intro p e s m args below meth c s₁ Bd hml0 hP hK
  obtain ⟨rfl, hZ, hh⟩ := hP
  have hx := Bd.exec
  have hby := Bd.bytes
  have hml : c.maxLocals = 2 := hml0
  have hown : s.vm.findClass "java/lang/StringUTF16" = some m.cls := findClass_of_methodNamed Bd.named
  have hnm := (name_of_methodNamed Bd.named Bd.method).1
  have X0 : Stand p l e ({ frames := 0, cells := 0, slots := 0, locals := 0 } : Room) s m #[(.ref b110_b96), (.int (3 : Int32))] below meth c s₁ [] 0 0 := Stand.of_body Bd
  have e0 : s₁.heap = h0 := by rw [← hh, Bd.state]; rfl
  have N0 := Fr.nil n0
  have pre0 : ∀ t, Steps p.tables e below (s₁.setTop (mkF m 0 #[.val (.ref b110_b96), .val (.int (3 : Int32))] [])) t → Steps p.tables e below (s₁.setTop (entryFrame m #[(.ref b110_b96), (.int (3 : Int32))] 2)) t := fun t k => castTop (own_ef_rm15 m p1 A K cs b110_b96 k110_k96) k
  have KK0 : Keep h0 h0 [] := Keep.refl _ _
  obtain ⟨cl111, Ar111, -, Sz111, Nn111, -, -⟩ := (id G_A_b110_b96)
  obtain ⟨fs, hr, hrun, hended, hW, hsame⟩ := X0.leave (v := some (.int (0 : Int32))) (fun h => by rw [Bd.returns] at h; cases h)
  refine ⟨_, _, pre0 _ ?_, hrun, hended, _, _, rfl, ?_, ⟨_, rfl⟩, hW, hsame.mono (by decide) (by decide)⟩
  · show Steps p.tables e below (s₁.setTop (mkF m 0 #[.val (.ref b110_b96), .val (.int (3 : Int32))] [])) _
    refine XS.iloadN X0.here hx rfl (hb hby own_d_jdk_52_method_15_code_0) rfl ?_
    show Steps p.tables e below (s₁.setTop (mkF m 1 #[.val (.ref b110_b96), .val (.int (3 : Int32))] [(.int (3 : Int32))])) _
    refine XS.aloadN X0.here hx rfl (hb hby own_d_jdk_52_method_15_code_1) rfl rfl ?_
    show Steps p.tables e below (s₁.setTop (mkF m 2 #[.val (.ref b110_b96), .val (.int (3 : Int32))] [(.ref b110_b96), (.int (3 : Int32))])) _
    refine X0.arraylength hx (by rw [e0]; exact Ar111.1) (State.isArrayOf_alike hZ.alike Ar111.2.1) (g := (mkF m 2 #[.val (.ref b110_b96), .val (.int (3 : Int32))] [(.ref b110_b96), (.int (3 : Int32))])) rfl rfl (hb hby own_d_jdk_52_method_15_code_2) _ ?_
    rw [len_of Sz111 Nn111]
    show Steps p.tables e below (s₁.setTop (mkF m 3 #[.val (.ref b110_b96), .val (.int (3 : Int32))] [(.int (3 : Int32)), (.int (3 : Int32))])) _
    refine XS.isub X0.here hx rfl (hb hby own_d_jdk_52_method_15_code_3) rfl ?_
    show Steps p.tables e below (s₁.setTop (mkF m 4 #[.val (.ref b110_b96), .val (.int (3 : Int32))] [(.int (0 : Int32))])) _
    refine XS.bipush X0.here hx rfl (hb hby own_d_jdk_52_method_15_code_4) ?_
    show Steps p.tables e below (s₁.setTop (mkF m 6 #[.val (.ref b110_b96), .val (.int (3 : Int32))] [(.int (31 : Int32)), (.int (0 : Int32))])) _
    refine XS.iushr X0.here hx rfl (hb hby own_d_jdk_52_method_15_code_6) rfl ?_
    show Steps p.tables e below (s₁.setTop (mkF m 7 #[.val (.ref b110_b96), .val (.int (3 : Int32))] [(.int (0 : Int32))])) _
    refine XS.i2b X0.here hx rfl (hb hby own_d_jdk_52_method_15_code_7) rfl ?_
    show Steps p.tables e below (s₁.setTop (mkF m 8 #[.val (.ref b110_b96), .val (.int (3 : Int32))] [(.int (0 : Int32))])) _
    exact retN X0 hx (t := .byte) Bd.returns (by simp) (hb hby own_d_jdk_52_method_15_code_8) hr
  · show PQ (some (.int (0 : Int32))) h0 n0 _ s₁.heap _
    rw [e0]
    exact ⟨rfl, N0, rfl⟩
def Q_rm12 (Z : State) (p1 : Int32) (A : Nat → Addr) (K : Nat → ClassId) (cs : Int32) (b85 : Addr) (b92 : Addr) (k85 : ClassId) (h0 : Heap) (n0 : Nat) (v : Option Value) (h : Heap) (L : List Loc) : Prop := ∃ b110_b96 : Addr, ∃ k110_k96 : ClassId, v = none ∧ Fr n0 L ∧ Keep h0 h [b92] ∧ (n0 ≤ b110_b96 ∧ h0.size ≤ b110_b96) ∧ (Exa Z h b92 "java/lang/String") ∧ (Fld Z h b92 "java/lang/String" "coder" "B" (.int (0 : Int32))) ∧ (Fld Z h b92 "java/lang/String" "value" "[B" (.ref b110_b96)) ∧ (Arv Z h b110_b96 k110_k96 .byte (3 : Int32) [(.int (51 : Int32)), (.int (46 : Int32)), (.int (49 : Int32))] (.int (0 : Int32)))
theorem own_ef_rm12 (m : MethodId) (p1 : Int32) (A : Nat → Addr) (K : Nat → ClassId) (cs : Int32)  (b85 : Addr) (b92 : Addr) (k85 : ClassId) : entryFrame m #[(.ref b92), (.ref b85), (.int (0 : Int32)), (.int (3 : Int32)), .null] 6 = mkF m 0 #[.val (.ref b92), .val (.ref b85), .val (.int (0 : Int32)), .val (.int (3 : Int32)), .val .null, .unset] [] := by first | (simp [entryFrame, mkF, argsToLocals, Value.category, maxLocals]; done) | rfl
set_option maxRecDepth 65536 in
set_option maxHeartbeats 40000000 in
theorem rm12 (l : Launch) (Z : State) (a0 : Array Value) (hw : ∀ d ∈ tables_1, d.before a0 Z = true) (ws : List Jvm.Cond) (h0 : Heap) (n0 : Nat) (p1 : Int32) (A : Nat → Addr) (K : Nat → ClassId) (cs : Int32)  (b85 : Addr) (b92 : Addr) (k85 : ClassId) (EN : own_St Z A K cs) (OL0 : Old Z n0 h0) (G_A_b85 : Arv Z h0 b85 k85 .char (3 : Int32) [(.int (51 : Int32)), (.int (46 : Int32)), (.int (49 : Int32))] (.int (0 : Int32))) (G_E_b92 : Exa Z h0 b92 "java/lang/String") (G_F_b92_java_lang_String_coder : Fld Z h0 b92 "java/lang/String" "coder" "B" (.int (0 : Int32))) (G_F_b92_java_lang_String_value : Fld Z h0 b92 "java/lang/String" "value" "[B" .null) (gn_b92 : n0 ≤ b92) :
    MetFree l own_m6 (head1 (Jvm.Cond.code own_m6 jdk_42_method_149_code 6 none :: ws) ({ frames := 2, cells := 1, slots := 3, locals := 35 } : Room)) (fun a U => a = #[(.ref b92), (.ref b85), (.int (0 : Int32)), (.int (3 : Int32)), .null] ∧ Z.Warmed39 U.vm ∧ U.heap = h0) (fun _ _ _ _ _ => True) (fun _ U o U' => ∃ v L, o = .returned v ∧ Q_rm12 Z p1 A K cs b85 b92 k85 h0 n0 v U'.heap L ∧ FrameEnd U o U' L ({ frames := 2, cells := 1, slots := 3, locals := 35 } : Room).cells ({ frames := 2, cells := 1, slots := 3, locals := 35 } : Room).slots) := by
  refine MetFree.of_bodySF (plainFor_of_name own_pn1) hisR ?_
  intro p e s m args below meth c s₁ Bd hml0 hP hK
  obtain ⟨rfl, hZ, hh⟩ := hP
  have hx := Bd.exec
  have hby := Bd.bytes
  have hml : c.maxLocals = 6 := hml0
  have hown : s.vm.findClass "java/lang/String" = some m.cls := findClass_of_methodNamed Bd.named
  have hnm := (name_of_methodNamed Bd.named Bd.method).1
  have X0 : Stand p l e ({ frames := 2, cells := 1, slots := 3, locals := 35 } : Room) s m #[(.ref b92), (.ref b85), (.int (0 : Int32)), (.int (3 : Int32)), .null] below meth c s₁ [] 0 0 := Stand.of_body Bd
  have e0 : s₁.heap = h0 := by rw [← hh, Bd.state]; rfl
  have N0 := Fr.nil n0
  have pre0 : ∀ t, Steps p.tables e below (s₁.setTop (mkF m 0 #[.val (.ref b92), .val (.ref b85), .val (.int (0 : Int32)), .val (.int (3 : Int32)), .val .null, .unset] [])) t → Steps p.tables e below (s₁.setTop (entryFrame m #[(.ref b92), (.ref b85), (.int (0 : Int32)), (.int (3 : Int32)), .null] 6)) t := fun t k => castTop (own_ef_rm12 m p1 A K cs b85 b92 k85) k
  have KK0 : Keep h0 h0 [b92] := Keep.refl _ _
  obtain ⟨T94, X94, e94, st94⟩ := initO X0 hx hZ hown (hw _ (List.mem_of_getElem? (i := 11) rfl)) (hw _ (List.mem_of_getElem? (i := 12) rfl)) (hw _ (List.mem_of_getElem? (i := 13) rfl)) e0 (g := (mkF m 1 #[.val (.ref b92), .val (.ref b85), .val (.int (0 : Int32)), .val (.int (3 : Int32)), .val .null, .unset] [(.ref b92)])) rfl (by rw [hml]; rfl) rfl (hb hby own_d_jdk_42_method_149_code_1) (by decide) (W := 0) (by show 2 * 0 + _ ≤ _; exact Nat.le_of_eq rfl) (by decide)
  obtain ⟨T95, X95, e95, st95⟩ := getS2 X94 hx hZ hown (host := "") (Or.inl (hw _ (List.mem_of_getElem? (i := 14) rfl))) Via.refl e94 (EN.2.2.2.1.2.2.2.1.ext OL0.2) (g := (mkF m 27 #[.val (.ref b92), .val (.ref b85), .val (.int (0 : Int32)), .val (.int (3 : Int32)), .val .null, .unset] [])) rfl (hb hby own_d_jdk_42_method_149_code_27)
  obtain ⟨_, _, ⟨T110, L110, k110, n110⟩, -, X110, ⟨Lc110, hQ110, l110, y110, z110⟩, st110⟩ := Jvm.LawKit.callS X95 hx (y := own_m4) hown (mvT hZ (hw _ (List.mem_of_getElem? (i := 15) rfl))) (mvT hZ (hw _ (List.mem_of_getElem? (i := 16) rfl))) (mvT hZ (hw _ (List.mem_of_getElem? (i := 17) rfl))) (mvT hZ (hw _ (List.mem_of_getElem? (i := 18) rfl))) (by decide) (backOf (W := 0) (rm13 l Z a0 hw [] h0 n0 p1 A K cs b85 b92 k85 EN OL0 G_A_b85 G_E_b92) hZ (hw _ (List.mem_of_getElem? (i := 18) rfl)) (hw _ (List.mem_of_getElem? (i := 17) rfl)) (by decide) (by decide)) (g := (mkF m 36 #[.val (.ref b92), .val (.ref b85), .val (.int (0 : Int32)), .val (.int (3 : Int32)), .val .null, .unset] [(.int (3 : Int32)), (.int (0 : Int32)), (.ref b85)])) rfl (by rw [hml]; rfl) (argsL := [(.ref b85), (.int (0 : Int32)), (.int (3 : Int32))]) (rest := []) (lenOf own_pd1 rfl) rfl (by show 2 * 0 + _ ≤ _; exact Nat.le_of_eq rfl) (hb hby own_d_jdk_42_method_149_code_36) (fun _ _ => ⟨rfl, e95, (by decide : 0 + 1 ≤ _), (by decide : 0 + 3 ≤ _)⟩)
  dsimp only [Pt.U, Pt.locs, Pt.cells, Pt.slots] at X110 l110 y110 z110 st110 hQ110
  subst l110 y110 z110
  obtain ⟨b110_b96, k110_k96, rfl, N110q, K110c, ⟨gn_b110_b96, szc_b110_b96⟩, f110_0⟩ := hQ110
  have N110 := Fr.app N0 N110q
  have lt_b85_b110_b96 : b85 < b110_b96 := Nat.lt_of_lt_of_le G_A_b85.lt szc_b110_b96
  have lt_b92_b110_b96 : b92 < b110_b96 := Nat.lt_of_lt_of_le G_E_b92.lt szc_b110_b96
  have sz_b110_b96 : h0.size ≤ b110_b96 := Nat.le_trans KK0.1 szc_b110_b96
  have OL110 : Old Z n0 T110.heap := OL0.keep K110c all0
  have KK110 : Keep h0 T110.heap [b92] := KK0.trans K110c all0
  obtain ⟨_, _, ⟨T112, L112, k112, n112⟩, -, X112, ⟨Lc112, hQ112, l112, y112, z112⟩, st112⟩ := Jvm.LawKit.callS X110 hx (y := own_m5) hown (mvT hZ (hw _ (List.mem_of_getElem? (i := 23) rfl))) (mvT hZ (hw _ (List.mem_of_getElem? (i := 24) rfl))) (mvT hZ (hw _ (List.mem_of_getElem? (i := 17) rfl))) (mvT hZ (hw _ (List.mem_of_getElem? (i := 25) rfl))) (by decide) (backOf (W := 1) (rm15 l Z a0 hw [] T110.heap n0 p1 A K cs b110_b96 k110_k96 EN OL110 f110_0) hZ (hw _ (List.mem_of_getElem? (i := 25) rfl)) (hw _ (List.mem_of_getElem? (i := 17) rfl)) (by decide) (by decide)) (g := (mkF m 45 #[.val (.ref b92), .val (.ref b85), .val (.int (0 : Int32)), .val (.int (3 : Int32)), .val .null, .val (.ref b110_b96)] [(.int (3 : Int32)), (.ref b110_b96), (.ref b92)])) rfl (by rw [hml]; rfl) (argsL := [(.ref b110_b96), (.int (3 : Int32))]) (rest := [(.ref b92)]) (lenOf own_pd2 rfl) rfl (by show 2 * 0 + _ ≤ _; exact Nat.le_of_eq rfl) (hb hby own_d_jdk_42_method_149_code_45) (fun _ _ => ⟨rfl, rfl, (by decide : 1 + 0 ≤ _), (by decide : 3 + 0 ≤ _)⟩)
  dsimp only [Pt.U, Pt.locs, Pt.cells, Pt.slots] at X112 l112 y112 z112 st112 hQ112
  subst l112 y112 z112
  obtain ⟨rfl, N112q, e112⟩ := hQ112
  have N112 := Fr.app N110 N112q
  have fx113 : Fld Z T110.heap b92 "java/lang/String" "coder" "B" (.int (0 : Int32)) := (G_F_b92_java_lang_String_coder.keep K110c nin0)
  have fx114 : Exa Z T110.heap b92 "java/lang/String" := (G_E_b92.keep K110c)
  obtain ⟨T115, h115, X115, e115, W115, st115⟩ := putFN X112 hx hZ hown (hw _ (List.mem_of_getElem? (i := 26) rfl)) Via.refl e112 fx113 fx114 (Or.inr ⟨(hw _ (List.mem_of_getElem? (i := 27) rfl)), rfl, hnm⟩) (hw _ (List.mem_of_getElem? (i := 2) rfl)) (ty := .byte) (v' := (.int (0 : Int32))) (by decide) rfl (by decide) (g := (mkF m 48 #[.val (.ref b92), .val (.ref b85), .val (.int (0 : Int32)), .val (.int (3 : Int32)), .val .null, .val (.ref b110_b96)] [(.int (0 : Int32)), (.ref b92)])) rfl rfl (hb hby own_d_jdk_42_method_149_code_48)
  have NF115 := Fr.snoc X115 N112 gn_b92
  have OL115 : Old Z n0 h115 := OL110.wr W115 gn_b92
  have KK115 : Keep h0 h115 [b92] := KK110.wr W115 (Or.inl (List.mem_of_getElem? (i := 0) rfl))
  have Fw115 : Fld Z h115 b92 "java/lang/String" "coder" "B" (.int (0 : Int32)) := fx113.same W115
  have fx116 : Fld Z h115 b92 "java/lang/String" "value" "[B" .null := ((G_F_b92_java_lang_String_value.keep K110c nin0).other W115 (Or.inr (slot_ne (Or.inr (hw _ (List.mem_of_getElem? (i := 29) rfl))) (Or.inr (hw _ (List.mem_of_getElem? (i := 27) rfl))) (by decide) (t := (.array .byte)) (t' := .byte) (by decide) (by decide))))
  have fx117 : Exa Z h115 b92 "java/lang/String" := (fx114.wr W115)
  obtain ⟨T118, h118, X118, e118, W118, st118⟩ := putF X115 hx hZ hown (host := "") (Or.inl (hw _ (List.mem_of_getElem? (i := 28) rfl))) Via.refl e115 fx116 fx117 (Or.inr ⟨(hw _ (List.mem_of_getElem? (i := 29) rfl)), rfl, hnm⟩) (hw _ (List.mem_of_getElem? (i := 2) rfl)) (ty := (.array .byte)) (by decide) rfl rfl (g := (mkF m 54 #[.val (.ref b92), .val (.ref b85), .val (.int (0 : Int32)), .val (.int (3 : Int32)), .val .null, .val (.ref b110_b96)] [(.ref b110_b96), (.ref b92)])) rfl rfl (hb hby own_d_jdk_42_method_149_code_54)
  have NF118 := Fr.snoc X118 NF115 gn_b92
  have OL118 : Old Z n0 h118 := OL115.wr W118 gn_b92
  have KK118 : Keep h0 h118 [b92] := KK115.wr W118 (Or.inl (List.mem_of_getElem? (i := 0) rfl))
  have Fw118 : Fld Z h118 b92 "java/lang/String" "value" "[B" (.ref b110_b96) := fx116.same W118
  have fx119 : Exa Z h118 b92 "java/lang/String" := (fx117.wr W118)
  have fx120 : Fld Z h118 b92 "java/lang/String" "coder" "B" (.int (0 : Int32)) := (Fw115.other W118 (Or.inr (slot_ne (Or.inr (hw _ (List.mem_of_getElem? (i := 27) rfl))) (Or.inr (hw _ (List.mem_of_getElem? (i := 29) rfl))) (by decide) (t := .byte) (t' := (.array .byte)) (by decide) (by decide))))
  have fx121 : Arv Z h118 b110_b96 k110_k96 .byte (3 : Int32) [(.int (51 : Int32)), (.int (46 : Int32)), (.int (49 : Int32))] (.int (0 : Int32)) := ((f110_0.other W115 (Ne.symm (Nat.ne_of_lt lt_b92_b110_b96))).other W118 (Ne.symm (Nat.ne_of_lt lt_b92_b110_b96)))
  obtain ⟨fs, hr, hrun, hended, hW, hsame⟩ := X118.leave (v := none) (fun _ => rfl)
  refine ⟨_, _, pre0 _ ?_, hrun, hended, _, _, rfl, ?_, ⟨_, rfl⟩, hW, hsame.mono (by decide) (by decide)⟩
  · show Steps p.tables e below (s₁.setTop (mkF m 0 #[.val (.ref b92), .val (.ref b85), .val (.int (0 : Int32)), .val (.int (3 : Int32)), .val .null, .unset] [])) _
    refine XS.aloadN X0.here hx rfl (hb hby own_d_jdk_42_method_149_code_0) rfl rfl ?_
    show Steps p.tables e below (s₁.setTop (mkF m 1 #[.val (.ref b92), .val (.ref b85), .val (.int (0 : Int32)), .val (.int (3 : Int32)), .val .null, .unset] [(.ref b92)])) _
    refine st94 _ ?_
    show Steps p.tables e below (T94.setTop (mkF m 4 #[.val (.ref b92), .val (.ref b85), .val (.int (0 : Int32)), .val (.int (3 : Int32)), .val .null, .unset] [])) _
    refine XS.iloadN X94.here hx rfl (hb hby own_d_jdk_42_method_149_code_4) rfl ?_
    show Steps p.tables e below (T94.setTop (mkF m 5 #[.val (.ref b92), .val (.ref b85), .val (.int (0 : Int32)), .val (.int (3 : Int32)), .val .null, .unset] [(.int (3 : Int32))])) _
    refine XS.ifYes X94.here hx rfl (pc0 := 5) (pc' := 27) rfl (hb hby own_d_jdk_42_method_149_code_5) rfl ((if0 _ _).trans (feq (by decide : ¬ ((3 : Int32) = (0 : Int32)))).2) (by decide) (by decide) ?_
    show Steps p.tables e below (T94.setTop (mkF m 27 #[.val (.ref b92), .val (.ref b85), .val (.int (0 : Int32)), .val (.int (3 : Int32)), .val .null, .unset] [])) _
    refine st95 _ ?_
    show Steps p.tables e below (T95.setTop (mkF m 30 #[.val (.ref b92), .val (.ref b85), .val (.int (0 : Int32)), .val (.int (3 : Int32)), .val .null, .unset] [(.int cs)])) _
    refine XS.ifNo X95.here hx rfl (hb hby own_d_jdk_42_method_149_code_30) rfl ((if0 _ _).trans (feq EN.2.2.2.1.2.2.2.2.1).1) ?_
    show Steps p.tables e below (T95.setTop (mkF m 33 #[.val (.ref b92), .val (.ref b85), .val (.int (0 : Int32)), .val (.int (3 : Int32)), .val .null, .unset] [])) _
    refine XS.aloadN X95.here hx rfl (hb hby own_d_jdk_42_method_149_code_33) rfl rfl ?_
    show Steps p.tables e below (T95.setTop (mkF m 34 #[.val (.ref b92), .val (.ref b85), .val (.int (0 : Int32)), .val (.int (3 : Int32)), .val .null, .unset] [(.ref b85)])) _
    refine XS.iloadN X95.here hx rfl (hb hby own_d_jdk_42_method_149_code_34) rfl ?_
    show Steps p.tables e below (T95.setTop (mkF m 35 #[.val (.ref b92), .val (.ref b85), .val (.int (0 : Int32)), .val (.int (3 : Int32)), .val .null, .unset] [(.int (0 : Int32)), (.ref b85)])) _
    refine XS.iloadN X95.here hx rfl (hb hby own_d_jdk_42_method_149_code_35) rfl ?_
    show Steps p.tables e below (T95.setTop (mkF m 36 #[.val (.ref b92), .val (.ref b85), .val (.int (0 : Int32)), .val (.int (3 : Int32)), .val .null, .unset] [(.int (3 : Int32)), (.int (0 : Int32)), (.ref b85)])) _
    refine st110 _ ?_
    show Steps p.tables e below (T110.setTop (mkF m 39 #[.val (.ref b92), .val (.ref b85), .val (.int (0 : Int32)), .val (.int (3 : Int32)), .val .null, .unset] [(.ref b110_b96)])) _
    refine XS.astore X110.here hx rfl (hb hby own_d_jdk_42_method_149_code_39) rfl rfl (l' := #[.val (.ref b92), .val (.ref b85), .val (.int (0 : Int32)), .val (.int (3 : Int32)), .val .null, .val (.ref b110_b96)]) rfl ?_
    show Steps p.tables e below (T110.setTop (mkF m 41 #[.val (.ref b92), .val (.ref b85), .val (.int (0 : Int32)), .val (.int (3 : Int32)), .val .null, .val (.ref b110_b96)] [])) _
    refine XS.aloadN X110.here hx rfl (hb hby own_d_jdk_42_method_149_code_41) rfl rfl ?_
    show Steps p.tables e below (T110.setTop (mkF m 42 #[.val (.ref b92), .val (.ref b85), .val (.int (0 : Int32)), .val (.int (3 : Int32)), .val .null, .val (.ref b110_b96)] [(.ref b92)])) _
    refine XS.aload X110.here hx rfl (hb hby own_d_jdk_42_method_149_code_42) rfl rfl ?_
    show Steps p.tables e below (T110.setTop (mkF m 44 #[.val (.ref b92), .val (.ref b85), .val (.int (0 : Int32)), .val (.int (3 : Int32)), .val .null, .val (.ref b110_b96)] [(.ref b110_b96), (.ref b92)])) _
    refine XS.iloadN X110.here hx rfl (hb hby own_d_jdk_42_method_149_code_44) rfl ?_
    show Steps p.tables e below (T110.setTop (mkF m 45 #[.val (.ref b92), .val (.ref b85), .val (.int (0 : Int32)), .val (.int (3 : Int32)), .val .null, .val (.ref b110_b96)] [(.int (3 : Int32)), (.ref b110_b96), (.ref b92)])) _
    refine st112 _ ?_
    show Steps p.tables e below (T112.setTop (mkF m 48 #[.val (.ref b92), .val (.ref b85), .val (.int (0 : Int32)), .val (.int (3 : Int32)), .val .null, .val (.ref b110_b96)] [(.int (0 : Int32)), (.ref b92)])) _
    refine st115 _ ?_
    show Steps p.tables e below (T115.setTop (mkF m 51 #[.val (.ref b92), .val (.ref b85), .val (.int (0 : Int32)), .val (.int (3 : Int32)), .val .null, .val (.ref b110_b96)] [])) _
    refine XS.aloadN X115.here hx rfl (hb hby own_d_jdk_42_method_149_code_51) rfl rfl ?_
    show Steps p.tables e below (T115.setTop (mkF m 52 #[.val (.ref b92), .val (.ref b85), .val (.int (0 : Int32)), .val (.int (3 : Int32)), .val .null, .val (.ref b110_b96)] [(.ref b92)])) _
    refine XS.aload X115.here hx rfl (hb hby own_d_jdk_42_method_149_code_52) rfl rfl ?_
    show Steps p.tables e below (T115.setTop (mkF m 54 #[.val (.ref b92), .val (.ref b85), .val (.int (0 : Int32)), .val (.int (3 : Int32)), .val .null, .val (.ref b110_b96)] [(.ref b110_b96), (.ref b92)])) _
    refine st118 _ ?_
    show Steps p.tables e below (T118.setTop (mkF m 57 #[.val (.ref b92), .val (.ref b85), .val (.int (0 : Int32)), .val (.int (3 : Int32)), .val .null, .val (.ref b110_b96)] [])) _
    exact X118.returnOut hx Bd.returns (hb hby own_d_jdk_42_method_149_code_57) hr
  · show Q_rm12 Z p1 A K cs b85 b92 k85 h0 n0 _ T118.heap _
    rw [e118]
    exact ⟨b110_b96, k110_k96, rfl, NF118, KK118, ⟨gn_b110_b96, sz_b110_b96⟩, fx119, fx120, Fw118, fx121⟩
def Q_rm11 (Z : State) (p1 : Int32) (A : Nat → Addr) (K : Nat → ClassId) (cs : Int32) (b85 : Addr) (b92 : Addr) (k85 : ClassId) (h0 : Heap) (n0 : Nat) (v : Option Value) (h : Heap) (L : List Loc) : Prop := ∃ b122_b110_b96 : Addr, ∃ k122_k110_k96 : ClassId, v = none ∧ Fr n0 L ∧ Keep h0 h [b92] ∧ (n0 ≤ b122_b110_b96 ∧ h0.size ≤ b122_b110_b96) ∧ (Exa Z h b92 "java/lang/String") ∧ (Fld Z h b92 "java/lang/String" "coder" "B" (.int (0 : Int32))) ∧ (Fld Z h b92 "java/lang/String" "value" "[B" (.ref b122_b110_b96)) ∧ (Arv Z h b122_b110_b96 k122_k110_k96 .byte (3 : Int32) [(.int (51 : Int32)), (.int (46 : Int32)), (.int (49 : Int32))] (.int (0 : Int32)))
theorem own_ef_rm11 (m : MethodId) (p1 : Int32) (A : Nat → Addr) (K : Nat → ClassId) (cs : Int32)  (b85 : Addr) (b92 : Addr) (k85 : ClassId) : entryFrame m #[(.ref b92), (.ref b85)] 2 = mkF m 0 #[.val (.ref b92), .val (.ref b85)] [] := by first | (simp [entryFrame, mkF, argsToLocals, Value.category, maxLocals]; done) | rfl
set_option maxRecDepth 65536 in
set_option maxHeartbeats 40000000 in
theorem rm11 (l : Launch) (Z : State) (a0 : Array Value) (hw : ∀ d ∈ tables_1, d.before a0 Z = true) (ws : List Jvm.Cond) (h0 : Heap) (n0 : Nat) (p1 : Int32) (A : Nat → Addr) (K : Nat → ClassId) (cs : Int32)  (b85 : Addr) (b92 : Addr) (k85 : ClassId) (EN : own_St Z A K cs) (OL0 : Old Z n0 h0) (G_A_b85 : Arv Z h0 b85 k85 .char (3 : Int32) [(.int (51 : Int32)), (.int (46 : Int32)), (.int (49 : Int32))] (.int (0 : Int32))) (G_E_b92 : Exa Z h0 b92 "java/lang/String") (G_F_b92_java_lang_String_coder : Fld Z h0 b92 "java/lang/String" "coder" "B" (.int (0 : Int32))) (G_F_b92_java_lang_String_value : Fld Z h0 b92 "java/lang/String" "value" "[B" .null) (gn_b92 : n0 ≤ b92) :
    MetFree l own_m7 (head1 (Jvm.Cond.code own_m7 jdk_42_method_3_code 2 none :: ws) ({ frames := 3, cells := 1, slots := 3, locals := 52 } : Room)) (fun a U => a = #[(.ref b92), (.ref b85)] ∧ Z.Warmed39 U.vm ∧ U.heap = h0) (fun _ _ _ _ _ => True) (fun _ U o U' => ∃ v L, o = .returned v ∧ Q_rm11 Z p1 A K cs b85 b92 k85 h0 n0 v U'.heap L ∧ FrameEnd U o U' L ({ frames := 3, cells := 1, slots := 3, locals := 52 } : Room).cells ({ frames := 3, cells := 1, slots := 3, locals := 52 } : Room).slots) := by
  refine MetFree.of_bodySF (plainFor_of_name own_pn1) hisR ?_
  intro p e s m args below meth c s₁ Bd hml0 hP hK
  obtain ⟨rfl, hZ, hh⟩ := hP
  have hx := Bd.exec
  have hby := Bd.bytes
  have hml : c.maxLocals = 2 := hml0
  have hown : s.vm.findClass "java/lang/String" = some m.cls := findClass_of_methodNamed Bd.named
  have hnm := (name_of_methodNamed Bd.named Bd.method).1
  have X0 : Stand p l e ({ frames := 3, cells := 1, slots := 3, locals := 52 } : Room) s m #[(.ref b92), (.ref b85)] below meth c s₁ [] 0 0 := Stand.of_body Bd
  have e0 : s₁.heap = h0 := by rw [← hh, Bd.state]; rfl
  have N0 := Fr.nil n0
  have pre0 : ∀ t, Steps p.tables e below (s₁.setTop (mkF m 0 #[.val (.ref b92), .val (.ref b85)] [])) t → Steps p.tables e below (s₁.setTop (entryFrame m #[(.ref b92), (.ref b85)] 2)) t := fun t k => castTop (own_ef_rm11 m p1 A K cs b85 b92 k85) k
  have KK0 : Keep h0 h0 [b92] := Keep.refl _ _
  obtain ⟨cl93, Ar93, -, Sz93, Nn93, -, -⟩ := (id G_A_b85)
  obtain ⟨_, _, ⟨T122, L122, k122, n122⟩, -, X122, ⟨Lc122, hQ122, l122, y122, z122⟩, st122⟩ := X0.specialBack hx (y := own_m6) rfl hown (mvT hZ (hw _ (List.mem_of_getElem? (i := 7) rfl))) (mvT hZ (hw _ (List.mem_of_getElem? (i := 8) rfl))) (mvT hZ (hw _ (List.mem_of_getElem? (i := 10) rfl))) (by decide) (backOf (W := 0) (rm12 l Z a0 hw [] h0 n0 p1 A K cs b85 b92 k85 EN OL0 G_A_b85 G_E_b92 G_F_b92_java_lang_String_coder G_F_b92_java_lang_String_value gn_b92) hZ (hw _ (List.mem_of_getElem? (i := 10) rfl)) (hw _ (List.mem_of_getElem? (i := 3) rfl)) (by decide) (by decide)) (g := (mkF m 6 #[.val (.ref b92), .val (.ref b85)] [.null, (.int (3 : Int32)), (.int (0 : Int32)), (.ref b85), (.ref b92)])) rfl (by rw [hml]; rfl) (Steps.refl _) (a := b92) (argsL := [(.ref b85), (.int (0 : Int32)), (.int (3 : Int32)), .null]) (rest := []) (lenOf own_pd3 rfl) rfl (by show 2 * 0 + _ ≤ _; exact Nat.le_of_eq rfl) (hb hby own_d_jdk_42_method_3_code_6) (fun _ _ => ⟨rfl, e0, (by decide : 0 + 1 ≤ _), (by decide : 0 + 3 ≤ _)⟩)
  dsimp only [Pt.U, Pt.locs, Pt.cells, Pt.slots] at X122 l122 y122 z122 st122 hQ122
  subst l122 y122 z122
  obtain ⟨b122_b110_b96, k122_k110_k96, rfl, N122q, K122c, ⟨gn_b122_b110_b96, szc_b122_b110_b96⟩, f122_0, f122_1, f122_2, f122_3⟩ := hQ122
  have N122 := Fr.app N0 N122q
  have lt_b85_b122_b110_b96 : b85 < b122_b110_b96 := Nat.lt_of_lt_of_le G_A_b85.lt szc_b122_b110_b96
  have lt_b92_b122_b110_b96 : b92 < b122_b110_b96 := Nat.lt_of_lt_of_le G_E_b92.lt szc_b122_b110_b96
  have sz_b122_b110_b96 : h0.size ≤ b122_b110_b96 := Nat.le_trans KK0.1 szc_b122_b110_b96
  have OL122 : Old Z n0 T122.heap := OL0.keep K122c (allS gn_b92 all0)
  have KK122 : Keep h0 T122.heap [b92] := KK0.trans K122c (allS (Or.inl (List.mem_of_getElem? (i := 0) rfl)) all0)
  obtain ⟨fs, hr, hrun, hended, hW, hsame⟩ := X122.leave (v := none) (fun _ => rfl)
  refine ⟨_, _, pre0 _ ?_, hrun, hended, _, _, rfl, ?_, ⟨_, rfl⟩, hW, hsame.mono (by decide) (by decide)⟩
  · show Steps p.tables e below (s₁.setTop (mkF m 0 #[.val (.ref b92), .val (.ref b85)] [])) _
    refine XS.aloadN X0.here hx rfl (hb hby own_d_jdk_42_method_3_code_0) rfl rfl ?_
    show Steps p.tables e below (s₁.setTop (mkF m 1 #[.val (.ref b92), .val (.ref b85)] [(.ref b92)])) _
    refine XS.aloadN X0.here hx rfl (hb hby own_d_jdk_42_method_3_code_1) rfl rfl ?_
    show Steps p.tables e below (s₁.setTop (mkF m 2 #[.val (.ref b92), .val (.ref b85)] [(.ref b85), (.ref b92)])) _
    refine XS.iconst X0.here hx rfl (hb hby own_d_jdk_42_method_3_code_2) ?_
    show Steps p.tables e below (s₁.setTop (mkF m 3 #[.val (.ref b92), .val (.ref b85)] [(.int (0 : Int32)), (.ref b85), (.ref b92)])) _
    refine XS.aloadN X0.here hx rfl (hb hby own_d_jdk_42_method_3_code_3) rfl rfl ?_
    show Steps p.tables e below (s₁.setTop (mkF m 4 #[.val (.ref b92), .val (.ref b85)] [(.ref b85), (.int (0 : Int32)), (.ref b85), (.ref b92)])) _
    refine X0.arraylength hx (by rw [e0]; exact Ar93.1) (State.isArrayOf_alike hZ.alike Ar93.2.1) (g := (mkF m 4 #[.val (.ref b92), .val (.ref b85)] [(.ref b85), (.int (0 : Int32)), (.ref b85), (.ref b92)])) rfl rfl (hb hby own_d_jdk_42_method_3_code_4) _ ?_
    rw [len_of Sz93 Nn93]
    show Steps p.tables e below (s₁.setTop (mkF m 5 #[.val (.ref b92), .val (.ref b85)] [(.int (3 : Int32)), (.int (0 : Int32)), (.ref b85), (.ref b92)])) _
    refine XS.aconstNull X0.here hx rfl (hb hby own_d_jdk_42_method_3_code_5) ?_
    show Steps p.tables e below (s₁.setTop (mkF m 6 #[.val (.ref b92), .val (.ref b85)] [.null, (.int (3 : Int32)), (.int (0 : Int32)), (.ref b85), (.ref b92)])) _
    refine st122.trans ?_
    show Steps p.tables e below (T122.setTop (mkF m 9 #[.val (.ref b92), .val (.ref b85)] [])) _
    exact X122.returnOut hx Bd.returns (hb hby own_d_jdk_42_method_3_code_9) hr
  · show Q_rm11 Z p1 A K cs b85 b92 k85 h0 n0 _ T122.heap _
    exact ⟨b122_b110_b96, k122_k110_k96, rfl, N122, KK122, ⟨gn_b122_b110_b96, sz_b122_b110_b96⟩, f122_0, f122_1, f122_2, f122_3⟩
def Q_rm17 (Z : State) (p1 : Int32) (A : Nat → Addr) (K : Nat → ClassId) (cs : Int32) (b85 : Addr) (b92 : Addr) (b124_b122_b110_b96 : Addr) (k124_k122_k110_k96 : ClassId) (k85 : ClassId) (h0 : Heap) (n0 : Nat) (v : Option Value) (h : Heap) (L : List Loc) : Prop := ∃ b127 : Addr, v = (some (.ref b127)) ∧ Fr n0 L ∧ Keep h0 h [] ∧ (n0 ≤ b127 ∧ h0.size ≤ b127) ∧ (Arv Z h b127 (K 0) (.object "com/example/dongl/dongl/crypto/ProtocolVersion") (4 : Int32) [(.ref (A 0)), (.ref (A 1)), (.ref (A 2)), (.ref (A 3))] .null) ∧ (Exa Z h b127 "[Lcom/example/dongl/dongl/crypto/ProtocolVersion;")
theorem own_ef_rm17 (m : MethodId) (p1 : Int32) (A : Nat → Addr) (K : Nat → ClassId) (cs : Int32)  (b85 : Addr) (b92 : Addr) (b124_b122_b110_b96 : Addr) (k124_k122_k110_k96 : ClassId) (k85 : ClassId) : entryFrame m #[] 0 = mkF m 0 #[] [] := by first | (simp [entryFrame, mkF, argsToLocals, Value.category, maxLocals]; done) | rfl
set_option maxRecDepth 65536 in
set_option maxHeartbeats 40000000 in
theorem rm17 (l : Launch) (Z : State) (a0 : Array Value) (hw : ∀ d ∈ tables_1, d.before a0 Z = true) (ws : List Jvm.Cond) (h0 : Heap) (n0 : Nat) (p1 : Int32) (A : Nat → Addr) (K : Nat → ClassId) (cs : Int32)  (b85 : Addr) (b92 : Addr) (b124_b122_b110_b96 : Addr) (k124_k122_k110_k96 : ClassId) (k85 : ClassId) (EN : own_St Z A K cs) (OL0 : Old Z n0 h0) (G_A_b85 : Arv Z h0 b85 k85 .char (3 : Int32) [(.int (51 : Int32)), (.int (46 : Int32)), (.int (49 : Int32))] (.int (0 : Int32))) (G_E_b92 : Exa Z h0 b92 "java/lang/String") (G_A_b124_b122_b110_b96 : Arv Z h0 b124_b122_b110_b96 k124_k122_k110_k96 .byte (3 : Int32) [(.int (51 : Int32)), (.int (46 : Int32)), (.int (49 : Int32))] (.int (0 : Int32))) :
    MetFree l own_m8 (head1 (Jvm.Cond.code own_m8 prog_26_method_1_code 0 (some (.array (.object "com/example/dongl/dongl/crypto/ProtocolVersion"))) :: ws) ({ frames := 1, cells := 1, slots := 4, locals := 14 } : Room)) (fun a U => a = #[] ∧ Z.Warmed39 U.vm ∧ U.heap = h0) (fun _ _ _ _ _ => True) (fun _ U o U' => ∃ v L, o = .returned v ∧ Q_rm17 Z p1 A K cs b85 b92 b124_b122_b110_b96 k124_k122_k110_k96 k85 h0 n0 v U'.heap L ∧ FrameEnd U o U' L ({ frames := 1, cells := 1, slots := 4, locals := 14 } : Room).cells ({ frames := 1, cells := 1, slots := 4, locals := 14 } : Room).slots) := by
  refine MetFree.of_bodySF (plainFor_of_name own_pn2) hisR ?_
  intro p e s m args below meth c s₁ Bd hml0 hP hK
  obtain ⟨rfl, hZ, hh⟩ := hP
  have hx := Bd.exec
  have hby := Bd.bytes
  have hml : c.maxLocals = 0 := hml0
  have hown : s.vm.findClass "com/example/dongl/dongl/crypto/ProtocolVersion" = some m.cls := findClass_of_methodNamed Bd.named
  have hnm := (name_of_methodNamed Bd.named Bd.method).1
  have X0 : Stand p l e ({ frames := 1, cells := 1, slots := 4, locals := 14 } : Room) s m #[] below meth c s₁ [] 0 0 := Stand.of_body Bd
  have e0 : s₁.heap = h0 := by rw [← hh, Bd.state]; rfl
  have N0 := Fr.nil n0
  have pre0 : ∀ t, Steps p.tables e below (s₁.setTop (mkF m 0 #[] [])) t → Steps p.tables e below (s₁.setTop (entryFrame m #[] 0)) t := fun t k => castTop (own_ef_rm17 m p1 A K cs b85 b92 b124_b122_b110_b96 k124_k122_k110_k96 k85) k
  have KK0 : Keep h0 h0 [] := Keep.refl _ _
  obtain ⟨T126, X126, e126, st126⟩ := getS2 X0 hx hZ hown (host := "") (Or.inl (hw _ (List.mem_of_getElem? (i := 39) rfl))) Via.refl e0 (EN.2.1.1.ext OL0.2) (g := (mkF m 0 #[] [])) rfl (hb hby own_d_prog_26_method_1_code_0)
  obtain ⟨T127, h127, X127, e127, E127, V127, A127, st127⟩ := cloneH X126 hx hZ hown (hw _ (List.mem_of_getElem? (i := 41) rfl)) (hw _ (List.mem_of_getElem? (i := 42) rfl)) (hw _ (List.mem_of_getElem? (i := 46) rfl)) (hw _ (List.mem_of_getElem? (i := 44) rfl)) (hw _ (List.mem_of_getElem? (i := 45) rfl)) (hw _ (List.mem_of_getElem? (i := 47) rfl)) e126 (Arv.arh (EN.2.1.2.2.1.ext OL0.2)) (EN.2.1.2.1.ext OL0.2) (g := (mkF m 3 #[] [(.ref (A 4))])) rfl (by rw [hml]; rfl) rfl (hb hby own_d_prog_26_method_1_code_3) (by decide) (W := 0) (cap := 4) (by show 2 * 0 + _ ≤ _; exact Nat.le_of_eq rfl) (by decide) (by decide) (by decide) (by decide)
  obtain ⟨b127, g127⟩ : ∃ z, z = h0.size := ⟨_, rfl⟩
  rw [← g127] at V127 A127 st127
  have gn_b127 : n0 ≤ b127 := Nat.le_trans (OL0.1 ▸ OL0.2.1) (Nat.le_of_eq g127.symm)
  have sz_b127 : h0.size ≤ b127 := Nat.le_trans KK0.1 (Nat.le_of_eq g127.symm)
  have lt_b85_b127 : b85 < b127 := Nat.lt_of_lt_of_le G_A_b85.lt (Nat.le_of_eq g127.symm)
  have lt_b92_b127 : b92 < b127 := Nat.lt_of_lt_of_le G_E_b92.lt (Nat.le_of_eq g127.symm)
  have lt_b124_b122_b110_b96_b127 : b124_b122_b110_b96 < b127 := Nat.lt_of_lt_of_le G_A_b124_b122_b110_b96.lt (Nat.le_of_eq g127.symm)
  have OL127 : Old Z n0 h127 := OL0.ext E127
  have KK127 : Keep h0 h127 [] := KK0.ext E127
  have Vv127 : Arv Z h127 b127 (K 0) (.object "com/example/dongl/dongl/crypto/ProtocolVersion") (4 : Int32) [(.ref (A 0)), (.ref (A 1)), (.ref (A 2)), (.ref (A 3))] .null := V127
  obtain ⟨T128, X128, e128, st128⟩ := castY X127 hx hZ hown (hw _ (List.mem_of_getElem? (i := 52) rfl)) e127 (Ins.self A127) (g := (mkF m 6 #[] [(.ref b127)])) rfl rfl (hb hby own_d_prog_26_method_1_code_6)
  obtain ⟨fs, hr, hrun, hended, hW, hsame⟩ := X128.leave (v := some (.ref b127)) (fun h => by rw [Bd.returns] at h; cases h)
  refine ⟨_, _, pre0 _ ?_, hrun, hended, _, _, rfl, ?_, ⟨_, rfl⟩, hW, hsame.mono (by decide) (by decide)⟩
  · show Steps p.tables e below (s₁.setTop (mkF m 0 #[] [])) _
    refine st126 _ ?_
    show Steps p.tables e below (T126.setTop (mkF m 3 #[] [(.ref (A 4))])) _
    refine st127 _ ?_
    show Steps p.tables e below (T127.setTop (mkF m 6 #[] [(.ref b127)])) _
    refine st128 _ ?_
    show Steps p.tables e below (T128.setTop (mkF m 9 #[] [(.ref b127)])) _
    exact retOut X128 hx Bd.returns rfl (Or.inr (Or.inr (Or.inr (Or.inr ⟨rfl, rfl, rfl⟩)))) (hb hby own_d_prog_26_method_1_code_9) hr
  · show Q_rm17 Z p1 A K cs b85 b92 b124_b122_b110_b96 k124_k122_k110_k96 k85 h0 n0 _ T128.heap _
    rw [e128]
    exact ⟨b127, rfl, N0, KK127, ⟨gn_b127, sz_b127⟩, Vv127, A127⟩
theorem own_d_jdk_43_method_13_code_24 : decode jdk_43_method_13_code 24 = .ok (.iconst 0, 1) := by decide +kernel
theorem own_d_jdk_43_method_13_code_25 : decode jdk_43_method_13_code 25 = .ok (.ireturn, 1) := by decide +kernel
theorem own_ef_rm19 (m : MethodId) (p1 : Int32) (A : Nat → Addr) (K : Nat → ClassId) (cs : Int32)  (b124_b122_b110_b96 : Addr) (k124_k122_k110_k96 : ClassId) : entryFrame m #[(.ref (A 9)), (.ref b124_b122_b110_b96)] 3 = mkF m 0 #[.val (.ref (A 9)), .val (.ref b124_b122_b110_b96), .unset] [] := by first | (simp [entryFrame, mkF, argsToLocals, Value.category, maxLocals]; done) | rfl
set_option maxRecDepth 65536 in
set_option maxHeartbeats 40000000 in
theorem rm19 (l : Launch) (Z : State) (a0 : Array Value) (hw : ∀ d ∈ tables_1, d.before a0 Z = true) (ws : List Jvm.Cond) (h0 : Heap) (n0 : Nat) (p1 : Int32) (A : Nat → Addr) (K : Nat → ClassId) (cs : Int32)  (b124_b122_b110_b96 : Addr) (k124_k122_k110_k96 : ClassId) (EN : own_St Z A K cs) (OL0 : Old Z n0 h0) (G_A_b124_b122_b110_b96 : Arv Z h0 b124_b122_b110_b96 k124_k122_k110_k96 .byte (3 : Int32) [(.int (51 : Int32)), (.int (46 : Int32)), (.int (49 : Int32))] (.int (0 : Int32))) :
    MetFree l own_m1 (head1 (Jvm.Cond.code own_m1 jdk_43_method_13_code 3 (some .boolean) :: ws) ({ frames := 0, cells := 0, slots := 0, locals := 0 } : Room)) (fun a U => a = #[(.ref (A 9)), (.ref b124_b122_b110_b96)] ∧ Z.Warmed39 U.vm ∧ U.heap = h0) (fun _ _ _ _ _ => True) (fun _ U o U' => ∃ v L, o = .returned v ∧ (PQ (some (.int (0 : Int32))) h0 n0) v U'.heap L ∧ FrameEnd U o U' L ({ frames := 0, cells := 0, slots := 0, locals := 0 } : Room).cells ({ frames := 0, cells := 0, slots := 0, locals := 0 } : Room).slots) := by
  refine MetFree.of_bodySF (plainFor_of_name own_pn3) hisR ?_
  intro p e s m args below meth c s₁ Bd hml0 hP hK
  obtain ⟨rfl, hZ, hh⟩ := hP
  have hx := Bd.exec
  have hby := Bd.bytes
  have hml : c.maxLocals = 3 := hml0
  have hown : s.vm.findClass "java/lang/StringLatin1" = some m.cls := findClass_of_methodNamed Bd.named
  have hnm := (name_of_methodNamed Bd.named Bd.method).1
  have X0 : Stand p l e ({ frames := 0, cells := 0, slots := 0, locals := 0 } : Room) s m #[(.ref (A 9)), (.ref b124_b122_b110_b96)] below meth c s₁ [] 0 0 := Stand.of_body Bd
  have e0 : s₁.heap = h0 := by rw [← hh, Bd.state]; rfl
  have N0 := Fr.nil n0
  have pre0 : ∀ t, Steps p.tables e below (s₁.setTop (mkF m 0 #[.val (.ref (A 9)), .val (.ref b124_b122_b110_b96), .unset] [])) t → Steps p.tables e below (s₁.setTop (entryFrame m #[(.ref (A 9)), (.ref b124_b122_b110_b96)] 3)) t := fun t k => castTop (own_ef_rm19 m p1 A K cs b124_b122_b110_b96 k124_k122_k110_k96) k
  have KK0 : Keep h0 h0 [] := Keep.refl _ _
  obtain ⟨cl140, Ar140, -, Sz140, Nn140, -, -⟩ := (id (EN.2.2.1.2.2.2.2.1.ext OL0.2))
  obtain ⟨cl141, Ar141, -, Sz141, Nn141, -, -⟩ := (id G_A_b124_b122_b110_b96)
  obtain ⟨cl142, Ar142, -, Sz142, Nn142, -, -⟩ := (id (EN.2.2.1.2.2.2.2.1.ext OL0.2))
  obtain ⟨cl143, Ar143, q143, Sz143, Nn143, Hh143, Gg143⟩ := (id (EN.2.2.1.2.2.2.2.1.ext OL0.2))
  have hin143 : ¬ ((0 : Int32) < 0 ∨ cl143.slots.size ≤ ((0 : Int32)).toNatClampNeg) := inb_of Sz143 ⟨by decide, by decide⟩
  have hat143 : cl143.slots[((0 : Int32)).toNatClampNeg]? = some (.int (51 : Int32)) := Has.at Hh143 hin143 rfl
  obtain ⟨cl144, Ar144, q144, Sz144, Nn144, Hh144, Gg144⟩ := (id G_A_b124_b122_b110_b96)
  have hin144 : ¬ ((0 : Int32) < 0 ∨ cl144.slots.size ≤ ((0 : Int32)).toNatClampNeg) := inb_of Sz144 ⟨by decide, by decide⟩
  have hat144 : cl144.slots[((0 : Int32)).toNatClampNeg]? = some (.int (51 : Int32)) := Has.at Hh144 hin144 rfl
  obtain ⟨cl145, Ar145, -, Sz145, Nn145, -, -⟩ := (id (EN.2.2.1.2.2.2.2.1.ext OL0.2))
  obtain ⟨cl146, Ar146, q146, Sz146, Nn146, Hh146, Gg146⟩ := (id (EN.2.2.1.2.2.2.2.1.ext OL0.2))
  have hin146 : ¬ ((1 : Int32) < 0 ∨ cl146.slots.size ≤ ((1 : Int32)).toNatClampNeg) := inb_of Sz146 ⟨by decide, by decide⟩
  have hat146 : cl146.slots[((1 : Int32)).toNatClampNeg]? = some (.int (46 : Int32)) := Has.at Hh146 hin146 rfl
  obtain ⟨cl147, Ar147, q147, Sz147, Nn147, Hh147, Gg147⟩ := (id G_A_b124_b122_b110_b96)
  have hin147 : ¬ ((1 : Int32) < 0 ∨ cl147.slots.size ≤ ((1 : Int32)).toNatClampNeg) := inb_of Sz147 ⟨by decide, by decide⟩
  have hat147 : cl147.slots[((1 : Int32)).toNatClampNeg]? = some (.int (46 : Int32)) := Has.at Hh147 hin147 rfl
  obtain ⟨cl148, Ar148, -, Sz148, Nn148, -, -⟩ := (id (EN.2.2.1.2.2.2.2.1.ext OL0.2))
  obtain ⟨cl149, Ar149, q149, Sz149, Nn149, Hh149, Gg149⟩ := (id (EN.2.2.1.2.2.2.2.1.ext OL0.2))
  have hin149 : ¬ ((2 : Int32) < 0 ∨ cl149.slots.size ≤ ((2 : Int32)).toNatClampNeg) := inb_of Sz149 ⟨by decide, by decide⟩
  have hat149 : cl149.slots[((2 : Int32)).toNatClampNeg]? = some (.int (48 : Int32)) := Has.at Hh149 hin149 rfl
  obtain ⟨cl150, Ar150, q150, Sz150, Nn150, Hh150, Gg150⟩ := (id G_A_b124_b122_b110_b96)
  have hin150 : ¬ ((2 : Int32) < 0 ∨ cl150.slots.size ≤ ((2 : Int32)).toNatClampNeg) := inb_of Sz150 ⟨by decide, by decide⟩
  have hat150 : cl150.slots[((2 : Int32)).toNatClampNeg]? = some (.int (49 : Int32)) := Has.at Hh150 hin150 rfl
  obtain ⟨fs, hr, hrun, hended, hW, hsame⟩ := X0.leave (v := some (.int (0 : Int32))) (fun h => by rw [Bd.returns] at h; cases h)
  refine ⟨_, _, pre0 _ ?_, hrun, hended, _, _, rfl, ?_, ⟨_, rfl⟩, hW, hsame.mono (by decide) (by decide)⟩
  · show Steps p.tables e below (s₁.setTop (mkF m 0 #[.val (.ref (A 9)), .val (.ref b124_b122_b110_b96), .unset] [])) _
    refine XS.aloadN X0.here hx rfl (hb hby own_d_jdk_43_method_13_code_0) rfl rfl ?_
    show Steps p.tables e below (s₁.setTop (mkF m 1 #[.val (.ref (A 9)), .val (.ref b124_b122_b110_b96), .unset] [(.ref (A 9))])) _
    refine X0.arraylength hx (by rw [e0]; exact Ar140.1) (State.isArrayOf_alike hZ.alike Ar140.2.1) (g := (mkF m 1 #[.val (.ref (A 9)), .val (.ref b124_b122_b110_b96), .unset] [(.ref (A 9))])) rfl rfl (hb hby own_d_jdk_43_method_13_code_1) _ ?_
    rw [len_of Sz140 Nn140]
    show Steps p.tables e below (s₁.setTop (mkF m 2 #[.val (.ref (A 9)), .val (.ref b124_b122_b110_b96), .unset] [(.int (3 : Int32))])) _
    refine XS.aloadN X0.here hx rfl (hb hby own_d_jdk_43_method_13_code_2) rfl rfl ?_
    show Steps p.tables e below (s₁.setTop (mkF m 3 #[.val (.ref (A 9)), .val (.ref b124_b122_b110_b96), .unset] [(.ref b124_b122_b110_b96), (.int (3 : Int32))])) _
    refine X0.arraylength hx (by rw [e0]; exact Ar141.1) (State.isArrayOf_alike hZ.alike Ar141.2.1) (g := (mkF m 3 #[.val (.ref (A 9)), .val (.ref b124_b122_b110_b96), .unset] [(.ref b124_b122_b110_b96), (.int (3 : Int32))])) rfl rfl (hb hby own_d_jdk_43_method_13_code_3) _ ?_
    rw [len_of Sz141 Nn141]
    show Steps p.tables e below (s₁.setTop (mkF m 4 #[.val (.ref (A 9)), .val (.ref b124_b122_b110_b96), .unset] [(.int (3 : Int32)), (.int (3 : Int32))])) _
    refine XS.icmpNo X0.here hx rfl (hb hby own_d_jdk_43_method_13_code_4) rfl (teq (by decide : (3 : Int32) = (3 : Int32))).2 ?_
    show Steps p.tables e below (s₁.setTop (mkF m 7 #[.val (.ref (A 9)), .val (.ref b124_b122_b110_b96), .unset] [])) _
    refine XS.iconst X0.here hx rfl (hb hby own_d_jdk_43_method_13_code_7) ?_
    show Steps p.tables e below (s₁.setTop (mkF m 8 #[.val (.ref (A 9)), .val (.ref b124_b122_b110_b96), .unset] [(.int (0 : Int32))])) _
    refine XS.istoreN X0.here hx rfl (hb hby own_d_jdk_43_method_13_code_8) rfl (l' := #[.val (.ref (A 9)), .val (.ref b124_b122_b110_b96), .val (.int (0 : Int32))]) rfl ?_
    show Steps p.tables e below (s₁.setTop (mkF m 9 #[.val (.ref (A 9)), .val (.ref b124_b122_b110_b96), .val (.int (0 : Int32))] [])) _
    refine XS.iloadN X0.here hx rfl (hb hby own_d_jdk_43_method_13_code_9) rfl ?_
    show Steps p.tables e below (s₁.setTop (mkF m 10 #[.val (.ref (A 9)), .val (.ref b124_b122_b110_b96), .val (.int (0 : Int32))] [(.int (0 : Int32))])) _
    refine XS.aloadN X0.here hx rfl (hb hby own_d_jdk_43_method_13_code_10) rfl rfl ?_
    show Steps p.tables e below (s₁.setTop (mkF m 11 #[.val (.ref (A 9)), .val (.ref b124_b122_b110_b96), .val (.int (0 : Int32))] [(.ref (A 9)), (.int (0 : Int32))])) _
    refine X0.arraylength hx (by rw [e0]; exact Ar142.1) (State.isArrayOf_alike hZ.alike Ar142.2.1) (g := (mkF m 11 #[.val (.ref (A 9)), .val (.ref b124_b122_b110_b96), .val (.int (0 : Int32))] [(.ref (A 9)), (.int (0 : Int32))])) rfl rfl (hb hby own_d_jdk_43_method_13_code_11) _ ?_
    rw [len_of Sz142 Nn142]
    show Steps p.tables e below (s₁.setTop (mkF m 12 #[.val (.ref (A 9)), .val (.ref b124_b122_b110_b96), .val (.int (0 : Int32))] [(.int (3 : Int32)), (.int (0 : Int32))])) _
    refine XS.icmpNo X0.here hx rfl (hb hby own_d_jdk_43_method_13_code_12) rfl (tlt (by decide : (0 : Int32) < (3 : Int32))).2.1 ?_
    show Steps p.tables e below (s₁.setTop (mkF m 15 #[.val (.ref (A 9)), .val (.ref b124_b122_b110_b96), .val (.int (0 : Int32))] [])) _
    refine XS.aloadN X0.here hx rfl (hb hby own_d_jdk_43_method_13_code_15) rfl rfl ?_
    show Steps p.tables e below (s₁.setTop (mkF m 16 #[.val (.ref (A 9)), .val (.ref b124_b122_b110_b96), .val (.int (0 : Int32))] [(.ref (A 9))])) _
    refine XS.iloadN X0.here hx rfl (hb hby own_d_jdk_43_method_13_code_16) rfl ?_
    show Steps p.tables e below (s₁.setTop (mkF m 17 #[.val (.ref (A 9)), .val (.ref b124_b122_b110_b96), .val (.int (0 : Int32))] [(.int (0 : Int32)), (.ref (A 9))])) _
    refine X0.baloadBytes hx (j := (0 : Int32)) (v := (.int (51 : Int32))) (by rw [e0]; exact Ar143.1) (State.isArrayOf_alike hZ.alike Ar143.2.1) Ar143.2.2 hin143 hat143 (g := (mkF m 17 #[.val (.ref (A 9)), .val (.ref b124_b122_b110_b96), .val (.int (0 : Int32))] [(.int (0 : Int32)), (.ref (A 9))])) rfl rfl (hb hby own_d_jdk_43_method_13_code_17) _ ?_
    show Steps p.tables e below (s₁.setTop (mkF m 18 #[.val (.ref (A 9)), .val (.ref b124_b122_b110_b96), .val (.int (0 : Int32))] [(.int (51 : Int32))])) _
    refine XS.aloadN X0.here hx rfl (hb hby own_d_jdk_43_method_13_code_18) rfl rfl ?_
    show Steps p.tables e below (s₁.setTop (mkF m 19 #[.val (.ref (A 9)), .val (.ref b124_b122_b110_b96), .val (.int (0 : Int32))] [(.ref b124_b122_b110_b96), (.int (51 : Int32))])) _
    refine XS.iloadN X0.here hx rfl (hb hby own_d_jdk_43_method_13_code_19) rfl ?_
    show Steps p.tables e below (s₁.setTop (mkF m 20 #[.val (.ref (A 9)), .val (.ref b124_b122_b110_b96), .val (.int (0 : Int32))] [(.int (0 : Int32)), (.ref b124_b122_b110_b96), (.int (51 : Int32))])) _
    refine X0.baloadBytes hx (j := (0 : Int32)) (v := (.int (51 : Int32))) (by rw [e0]; exact Ar144.1) (State.isArrayOf_alike hZ.alike Ar144.2.1) Ar144.2.2 hin144 hat144 (g := (mkF m 20 #[.val (.ref (A 9)), .val (.ref b124_b122_b110_b96), .val (.int (0 : Int32))] [(.int (0 : Int32)), (.ref b124_b122_b110_b96), (.int (51 : Int32))])) rfl rfl (hb hby own_d_jdk_43_method_13_code_20) _ ?_
    show Steps p.tables e below (s₁.setTop (mkF m 21 #[.val (.ref (A 9)), .val (.ref b124_b122_b110_b96), .val (.int (0 : Int32))] [(.int (51 : Int32)), (.int (51 : Int32))])) _
    refine XS.icmpYes X0.here hx rfl (pc0 := 21) (pc' := 26) rfl (hb hby own_d_jdk_43_method_13_code_21) rfl (teq (by decide : (51 : Int32) = (51 : Int32))).1 (by decide) (by decide) ?_
    show Steps p.tables e below (s₁.setTop (mkF m 26 #[.val (.ref (A 9)), .val (.ref b124_b122_b110_b96), .val (.int (0 : Int32))] [])) _
    refine XS.iinc X0.here hx rfl (hb hby own_d_jdk_43_method_13_code_26) rfl (l' := #[.val (.ref (A 9)), .val (.ref b124_b122_b110_b96), .val (.int (1 : Int32))]) rfl ?_
    show Steps p.tables e below (s₁.setTop (mkF m 29 #[.val (.ref (A 9)), .val (.ref b124_b122_b110_b96), .val (.int (1 : Int32))] [])) _
    refine XS.goto X0.here hx rfl (pc0 := 29) (pc' := 9) rfl (hb hby own_d_jdk_43_method_13_code_29) (by decide) (by decide) ?_
    show Steps p.tables e below (s₁.setTop (mkF m 9 #[.val (.ref (A 9)), .val (.ref b124_b122_b110_b96), .val (.int (1 : Int32))] [])) _
    refine XS.iloadN X0.here hx rfl (hb hby own_d_jdk_43_method_13_code_9) rfl ?_
    show Steps p.tables e below (s₁.setTop (mkF m 10 #[.val (.ref (A 9)), .val (.ref b124_b122_b110_b96), .val (.int (1 : Int32))] [(.int (1 : Int32))])) _
    refine XS.aloadN X0.here hx rfl (hb hby own_d_jdk_43_method_13_code_10) rfl rfl ?_
    show Steps p.tables e below (s₁.setTop (mkF m 11 #[.val (.ref (A 9)), .val (.ref b124_b122_b110_b96), .val (.int (1 : Int32))] [(.ref (A 9)), (.int (1 : Int32))])) _
    refine X0.arraylength hx (by rw [e0]; exact Ar145.1) (State.isArrayOf_alike hZ.alike Ar145.2.1) (g := (mkF m 11 #[.val (.ref (A 9)), .val (.ref b124_b122_b110_b96), .val (.int (1 : Int32))] [(.ref (A 9)), (.int (1 : Int32))])) rfl rfl (hb hby own_d_jdk_43_method_13_code_11) _ ?_
    rw [len_of Sz145 Nn145]
    show Steps p.tables e below (s₁.setTop (mkF m 12 #[.val (.ref (A 9)), .val (.ref b124_b122_b110_b96), .val (.int (1 : Int32))] [(.int (3 : Int32)), (.int (1 : Int32))])) _
    refine XS.icmpNo X0.here hx rfl (hb hby own_d_jdk_43_method_13_code_12) rfl (tlt (by decide : (1 : Int32) < (3 : Int32))).2.1 ?_
    show Steps p.tables e below (s₁.setTop (mkF m 15 #[.val (.ref (A 9)), .val (.ref b124_b122_b110_b96), .val (.int (1 : Int32))] [])) _
    refine XS.aloadN X0.here hx rfl (hb hby own_d_jdk_43_method_13_code_15) rfl rfl ?_
    show Steps p.tables e below (s₁.setTop (mkF m 16 #[.val (.ref (A 9)), .val (.ref b124_b122_b110_b96), .val (.int (1 : Int32))] [(.ref (A 9))])) _
    refine XS.iloadN X0.here hx rfl (hb hby own_d_jdk_43_method_13_code_16) rfl ?_
    show Steps p.tables e below (s₁.setTop (mkF m 17 #[.val (.ref (A 9)), .val (.ref b124_b122_b110_b96), .val (.int (1 : Int32))] [(.int (1 : Int32)), (.ref (A 9))])) _
    refine X0.baloadBytes hx (j := (1 : Int32)) (v := (.int (46 : Int32))) (by rw [e0]; exact Ar146.1) (State.isArrayOf_alike hZ.alike Ar146.2.1) Ar146.2.2 hin146 hat146 (g := (mkF m 17 #[.val (.ref (A 9)), .val (.ref b124_b122_b110_b96), .val (.int (1 : Int32))] [(.int (1 : Int32)), (.ref (A 9))])) rfl rfl (hb hby own_d_jdk_43_method_13_code_17) _ ?_
    show Steps p.tables e below (s₁.setTop (mkF m 18 #[.val (.ref (A 9)), .val (.ref b124_b122_b110_b96), .val (.int (1 : Int32))] [(.int (46 : Int32))])) _
    refine XS.aloadN X0.here hx rfl (hb hby own_d_jdk_43_method_13_code_18) rfl rfl ?_
    show Steps p.tables e below (s₁.setTop (mkF m 19 #[.val (.ref (A 9)), .val (.ref b124_b122_b110_b96), .val (.int (1 : Int32))] [(.ref b124_b122_b110_b96), (.int (46 : Int32))])) _
    refine XS.iloadN X0.here hx rfl (hb hby own_d_jdk_43_method_13_code_19) rfl ?_
    show Steps p.tables e below (s₁.setTop (mkF m 20 #[.val (.ref (A 9)), .val (.ref b124_b122_b110_b96), .val (.int (1 : Int32))] [(.int (1 : Int32)), (.ref b124_b122_b110_b96), (.int (46 : Int32))])) _
    refine X0.baloadBytes hx (j := (1 : Int32)) (v := (.int (46 : Int32))) (by rw [e0]; exact Ar147.1) (State.isArrayOf_alike hZ.alike Ar147.2.1) Ar147.2.2 hin147 hat147 (g := (mkF m 20 #[.val (.ref (A 9)), .val (.ref b124_b122_b110_b96), .val (.int (1 : Int32))] [(.int (1 : Int32)), (.ref b124_b122_b110_b96), (.int (46 : Int32))])) rfl rfl (hb hby own_d_jdk_43_method_13_code_20) _ ?_
    show Steps p.tables e below (s₁.setTop (mkF m 21 #[.val (.ref (A 9)), .val (.ref b124_b122_b110_b96), .val (.int (1 : Int32))] [(.int (46 : Int32)), (.int (46 : Int32))])) _
    refine XS.icmpYes X0.here hx rfl (pc0 := 21) (pc' := 26) rfl (hb hby own_d_jdk_43_method_13_code_21) rfl (teq (by decide : (46 : Int32) = (46 : Int32))).1 (by decide) (by decide) ?_
    show Steps p.tables e below (s₁.setTop (mkF m 26 #[.val (.ref (A 9)), .val (.ref b124_b122_b110_b96), .val (.int (1 : Int32))] [])) _
    refine XS.iinc X0.here hx rfl (hb hby own_d_jdk_43_method_13_code_26) rfl (l' := #[.val (.ref (A 9)), .val (.ref b124_b122_b110_b96), .val (.int (2 : Int32))]) rfl ?_
    show Steps p.tables e below (s₁.setTop (mkF m 29 #[.val (.ref (A 9)), .val (.ref b124_b122_b110_b96), .val (.int (2 : Int32))] [])) _
    refine XS.goto X0.here hx rfl (pc0 := 29) (pc' := 9) rfl (hb hby own_d_jdk_43_method_13_code_29) (by decide) (by decide) ?_
    show Steps p.tables e below (s₁.setTop (mkF m 9 #[.val (.ref (A 9)), .val (.ref b124_b122_b110_b96), .val (.int (2 : Int32))] [])) _
    refine XS.iloadN X0.here hx rfl (hb hby own_d_jdk_43_method_13_code_9) rfl ?_
    show Steps p.tables e below (s₁.setTop (mkF m 10 #[.val (.ref (A 9)), .val (.ref b124_b122_b110_b96), .val (.int (2 : Int32))] [(.int (2 : Int32))])) _
    refine XS.aloadN X0.here hx rfl (hb hby own_d_jdk_43_method_13_code_10) rfl rfl ?_
    show Steps p.tables e below (s₁.setTop (mkF m 11 #[.val (.ref (A 9)), .val (.ref b124_b122_b110_b96), .val (.int (2 : Int32))] [(.ref (A 9)), (.int (2 : Int32))])) _
    refine X0.arraylength hx (by rw [e0]; exact Ar148.1) (State.isArrayOf_alike hZ.alike Ar148.2.1) (g := (mkF m 11 #[.val (.ref (A 9)), .val (.ref b124_b122_b110_b96), .val (.int (2 : Int32))] [(.ref (A 9)), (.int (2 : Int32))])) rfl rfl (hb hby own_d_jdk_43_method_13_code_11) _ ?_
    rw [len_of Sz148 Nn148]
    show Steps p.tables e below (s₁.setTop (mkF m 12 #[.val (.ref (A 9)), .val (.ref b124_b122_b110_b96), .val (.int (2 : Int32))] [(.int (3 : Int32)), (.int (2 : Int32))])) _
    refine XS.icmpNo X0.here hx rfl (hb hby own_d_jdk_43_method_13_code_12) rfl (tlt (by decide : (2 : Int32) < (3 : Int32))).2.1 ?_
    show Steps p.tables e below (s₁.setTop (mkF m 15 #[.val (.ref (A 9)), .val (.ref b124_b122_b110_b96), .val (.int (2 : Int32))] [])) _
    refine XS.aloadN X0.here hx rfl (hb hby own_d_jdk_43_method_13_code_15) rfl rfl ?_
    show Steps p.tables e below (s₁.setTop (mkF m 16 #[.val (.ref (A 9)), .val (.ref b124_b122_b110_b96), .val (.int (2 : Int32))] [(.ref (A 9))])) _
    refine XS.iloadN X0.here hx rfl (hb hby own_d_jdk_43_method_13_code_16) rfl ?_
    show Steps p.tables e below (s₁.setTop (mkF m 17 #[.val (.ref (A 9)), .val (.ref b124_b122_b110_b96), .val (.int (2 : Int32))] [(.int (2 : Int32)), (.ref (A 9))])) _
    refine X0.baloadBytes hx (j := (2 : Int32)) (v := (.int (48 : Int32))) (by rw [e0]; exact Ar149.1) (State.isArrayOf_alike hZ.alike Ar149.2.1) Ar149.2.2 hin149 hat149 (g := (mkF m 17 #[.val (.ref (A 9)), .val (.ref b124_b122_b110_b96), .val (.int (2 : Int32))] [(.int (2 : Int32)), (.ref (A 9))])) rfl rfl (hb hby own_d_jdk_43_method_13_code_17) _ ?_
    show Steps p.tables e below (s₁.setTop (mkF m 18 #[.val (.ref (A 9)), .val (.ref b124_b122_b110_b96), .val (.int (2 : Int32))] [(.int (48 : Int32))])) _
    refine XS.aloadN X0.here hx rfl (hb hby own_d_jdk_43_method_13_code_18) rfl rfl ?_
    show Steps p.tables e below (s₁.setTop (mkF m 19 #[.val (.ref (A 9)), .val (.ref b124_b122_b110_b96), .val (.int (2 : Int32))] [(.ref b124_b122_b110_b96), (.int (48 : Int32))])) _
    refine XS.iloadN X0.here hx rfl (hb hby own_d_jdk_43_method_13_code_19) rfl ?_
    show Steps p.tables e below (s₁.setTop (mkF m 20 #[.val (.ref (A 9)), .val (.ref b124_b122_b110_b96), .val (.int (2 : Int32))] [(.int (2 : Int32)), (.ref b124_b122_b110_b96), (.int (48 : Int32))])) _
    refine X0.baloadBytes hx (j := (2 : Int32)) (v := (.int (49 : Int32))) (by rw [e0]; exact Ar150.1) (State.isArrayOf_alike hZ.alike Ar150.2.1) Ar150.2.2 hin150 hat150 (g := (mkF m 20 #[.val (.ref (A 9)), .val (.ref b124_b122_b110_b96), .val (.int (2 : Int32))] [(.int (2 : Int32)), (.ref b124_b122_b110_b96), (.int (48 : Int32))])) rfl rfl (hb hby own_d_jdk_43_method_13_code_20) _ ?_
    show Steps p.tables e below (s₁.setTop (mkF m 21 #[.val (.ref (A 9)), .val (.ref b124_b122_b110_b96), .val (.int (2 : Int32))] [(.int (49 : Int32)), (.int (48 : Int32))])) _
    refine XS.icmpNo X0.here hx rfl (hb hby own_d_jdk_43_method_13_code_21) rfl (feq (by decide : ¬ ((48 : Int32) = (49 : Int32)))).1 ?_
    show Steps p.tables e below (s₁.setTop (mkF m 24 #[.val (.ref (A 9)), .val (.ref b124_b122_b110_b96), .val (.int (2 : Int32))] [])) _
    refine XS.iconst X0.here hx rfl (hb hby own_d_jdk_43_method_13_code_24) ?_
    show Steps p.tables e below (s₁.setTop (mkF m 25 #[.val (.ref (A 9)), .val (.ref b124_b122_b110_b96), .val (.int (2 : Int32))] [(.int (0 : Int32))])) _
    exact retN X0 hx (t := .boolean) Bd.returns (by simp) (hb hby own_d_jdk_43_method_13_code_25) hr
  · show PQ (some (.int (0 : Int32))) h0 n0 _ s₁.heap _
    rw [e0]
    exact ⟨rfl, N0, rfl⟩
theorem own_d_jdk_42_method_66_code_54 : decode jdk_42_method_66_code 54 = .ok (.iconst 0, 1) := by decide +kernel
theorem own_ef_rm18 (m : MethodId) (p1 : Int32) (A : Nat → Addr) (K : Nat → ClassId) (cs : Int32)  (b92 : Addr) (b124_b122_b110_b96 : Addr) (k124_k122_k110_k96 : ClassId) : entryFrame m #[(.ref (A 5)), (.ref b92)] 3 = mkF m 0 #[.val (.ref (A 5)), .val (.ref b92), .unset] [] := by first | (simp [entryFrame, mkF, argsToLocals, Value.category, maxLocals]; done) | rfl
set_option maxRecDepth 65536 in
set_option maxHeartbeats 40000000 in
theorem rm18 (l : Launch) (Z : State) (a0 : Array Value) (hw : ∀ d ∈ tables_1, d.before a0 Z = true) (ws : List Jvm.Cond) (h0 : Heap) (n0 : Nat) (p1 : Int32) (A : Nat → Addr) (K : Nat → ClassId) (cs : Int32)  (b92 : Addr) (b124_b122_b110_b96 : Addr) (k124_k122_k110_k96 : ClassId) (EN : own_St Z A K cs) (OL0 : Old Z n0 h0) (G_F_b92_java_lang_String_value : Fld Z h0 b92 "java/lang/String" "value" "[B" (.ref b124_b122_b110_b96)) (G_A_b124_b122_b110_b96 : Arv Z h0 b124_b122_b110_b96 k124_k122_k110_k96 .byte (3 : Int32) [(.int (51 : Int32)), (.int (46 : Int32)), (.int (49 : Int32))] (.int (0 : Int32))) (G_E_b92 : Exa Z h0 b92 "java/lang/String") (G_F_b92_java_lang_String_coder : Fld Z h0 b92 "java/lang/String" "coder" "B" (.int (0 : Int32))) :
    MetFree l own_m0 (head1 (Jvm.Cond.code own_m0 jdk_42_method_66_code 3 (some .boolean) :: ws) ({ frames := 1, cells := 0, slots := 0, locals := 14 } : Room)) (fun a U => a = #[(.ref (A 5)), (.ref b92)] ∧ Z.Warmed39 U.vm ∧ U.heap = h0) (fun _ _ _ _ _ => True) (fun _ U o U' => ∃ v L, o = .returned v ∧ (PQ (some (.int (0 : Int32))) h0 n0) v U'.heap L ∧ FrameEnd U o U' L ({ frames := 1, cells := 0, slots := 0, locals := 14 } : Room).cells ({ frames := 1, cells := 0, slots := 0, locals := 14 } : Room).slots) := by
  refine MetFree.of_bodySF (plainFor_of_name own_pn1) hisR ?_
  intro p e s m args below meth c s₁ Bd hml0 hP hK
  obtain ⟨rfl, hZ, hh⟩ := hP
  have hx := Bd.exec
  have hby := Bd.bytes
  have hml : c.maxLocals = 3 := hml0
  have hown : s.vm.findClass "java/lang/String" = some m.cls := findClass_of_methodNamed Bd.named
  have hnm := (name_of_methodNamed Bd.named Bd.method).1
  have X0 : Stand p l e ({ frames := 1, cells := 0, slots := 0, locals := 14 } : Room) s m #[(.ref (A 5)), (.ref b92)] below meth c s₁ [] 0 0 := Stand.of_body Bd
  have e0 : s₁.heap = h0 := by rw [← hh, Bd.state]; rfl
  have N0 := Fr.nil n0
  have pre0 : ∀ t, Steps p.tables e below (s₁.setTop (mkF m 0 #[.val (.ref (A 5)), .val (.ref b92), .unset] [])) t → Steps p.tables e below (s₁.setTop (entryFrame m #[(.ref (A 5)), (.ref b92)] 3)) t := fun t k => castTop (own_ef_rm18 m p1 A K cs b92 b124_b122_b110_b96 k124_k122_k110_k96) k
  have KK0 : Keep h0 h0 [] := Keep.refl _ _
  obtain ⟨T133, X133, e133, st133⟩ := instY X0 hx hZ hown (hw _ (List.mem_of_getElem? (i := 61) rfl)) e0 (Ins.self G_E_b92) (g := (mkF m 8 #[.val (.ref (A 5)), .val (.ref b92), .unset] [(.ref b92)])) rfl rfl (hb hby own_d_jdk_42_method_66_code_8)
  obtain ⟨T134, X134, e134, st134⟩ := castY X133 hx hZ hown (hw _ (List.mem_of_getElem? (i := 61) rfl)) e133 (Ins.self G_E_b92) (g := (mkF m 15 #[.val (.ref (A 5)), .val (.ref b92), .unset] [(.ref b92)])) rfl rfl (hb hby own_d_jdk_42_method_66_code_15)
  obtain ⟨T135, X135, e135, st135⟩ := getS2 X134 hx hZ hown (host := "") (Or.inl (hw _ (List.mem_of_getElem? (i := 14) rfl))) Via.refl e134 (EN.2.2.2.1.2.2.2.1.ext OL0.2) (g := (mkF m 19 #[.val (.ref (A 5)), .val (.ref b92), .val (.ref b92)] [])) rfl (hb hby own_d_jdk_42_method_66_code_19)
  obtain ⟨T136, X136, e136, st136⟩ := getF X135 hx hZ hown (host := "") (Or.inl (hw _ (List.mem_of_getElem? (i := 26) rfl))) Via.refl e135 (EN.2.2.2.1.2.2.2.2.2.2.1.ext OL0.2) (g := (mkF m 26 #[.val (.ref (A 5)), .val (.ref b92), .val (.ref b92)] [(.ref (A 5))])) rfl rfl (hb hby own_d_jdk_42_method_66_code_26)
  obtain ⟨T137, X137, e137, st137⟩ := getF X136 hx hZ hown (host := "") (Or.inl (hw _ (List.mem_of_getElem? (i := 26) rfl))) Via.refl e136 G_F_b92_java_lang_String_coder (g := (mkF m 30 #[.val (.ref (A 5)), .val (.ref b92), .val (.ref b92)] [(.ref b92), (.int (0 : Int32))])) rfl rfl (hb hby own_d_jdk_42_method_66_code_30)
  obtain ⟨T138, X138, e138, st138⟩ := getF X137 hx hZ hown (host := "") (Or.inl (hw _ (List.mem_of_getElem? (i := 28) rfl))) Via.refl e137 (EN.2.2.1.2.2.2.1.ext OL0.2) (g := (mkF m 37 #[.val (.ref (A 5)), .val (.ref b92), .val (.ref b92)] [(.ref (A 5))])) rfl rfl (hb hby own_d_jdk_42_method_66_code_37)
  obtain ⟨T139, X139, e139, st139⟩ := getF X138 hx hZ hown (host := "") (Or.inl (hw _ (List.mem_of_getElem? (i := 28) rfl))) Via.refl e138 G_F_b92_java_lang_String_value (g := (mkF m 41 #[.val (.ref (A 5)), .val (.ref b92), .val (.ref b92)] [(.ref b92), (.ref (A 9))])) rfl rfl (hb hby own_d_jdk_42_method_66_code_41)
  obtain ⟨_, _, ⟨T151, L151, k151, n151⟩, -, X151, ⟨Lc151, hQ151, l151, y151, z151⟩, st151⟩ := Jvm.LawKit.callS X139 hx (y := own_m1) hown (mvT hZ (hw _ (List.mem_of_getElem? (i := 62) rfl))) (mvT hZ (hw _ (List.mem_of_getElem? (i := 63) rfl))) (mvT hZ (hw _ (List.mem_of_getElem? (i := 64) rfl))) (mvT hZ (hw _ (List.mem_of_getElem? (i := 65) rfl))) (by decide) (backOf (W := 0) (rm19 l Z a0 hw [] h0 n0 p1 A K cs b124_b122_b110_b96 k124_k122_k110_k96 EN OL0 G_A_b124_b122_b110_b96) hZ (hw _ (List.mem_of_getElem? (i := 65) rfl)) (hw _ (List.mem_of_getElem? (i := 64) rfl)) (by decide) (by decide)) (g := (mkF m 44 #[.val (.ref (A 5)), .val (.ref b92), .val (.ref b92)] [(.ref b124_b122_b110_b96), (.ref (A 9))])) rfl (by rw [hml]; rfl) (argsL := [(.ref (A 9)), (.ref b124_b122_b110_b96)]) (rest := []) (lenOf own_pd6 rfl) rfl (by show 2 * 0 + _ ≤ _; exact Nat.le_of_eq rfl) (hb hby own_d_jdk_42_method_66_code_44) (fun _ _ => ⟨rfl, e139, (by decide : 0 + 0 ≤ _), (by decide : 0 + 0 ≤ _)⟩)
  dsimp only [Pt.U, Pt.locs, Pt.cells, Pt.slots] at X151 l151 y151 z151 st151 hQ151
  subst l151 y151 z151
  obtain ⟨rfl, N151q, e151⟩ := hQ151
  have N151 := Fr.app N0 N151q
  obtain ⟨fs, hr, hrun, hended, hW, hsame⟩ := X151.leave (v := some (.int (0 : Int32))) (fun h => by rw [Bd.returns] at h; cases h)
  refine ⟨_, _, pre0 _ ?_, hrun, hended, _, _, rfl, ?_, ⟨_, rfl⟩, hW, hsame.mono (by decide) (by decide)⟩
  · show Steps p.tables e below (s₁.setTop (mkF m 0 #[.val (.ref (A 5)), .val (.ref b92), .unset] [])) _
    refine XS.aloadN X0.here hx rfl (hb hby own_d_jdk_42_method_66_code_0) rfl rfl ?_
    show Steps p.tables e below (s₁.setTop (mkF m 1 #[.val (.ref (A 5)), .val (.ref b92), .unset] [(.ref (A 5))])) _
    refine XS.aloadN X0.here hx rfl (hb hby own_d_jdk_42_method_66_code_1) rfl rfl ?_
    show Steps p.tables e below (s₁.setTop (mkF m 2 #[.val (.ref (A 5)), .val (.ref b92), .unset] [(.ref b92), (.ref (A 5))])) _
    refine Jvm.RoadKit.acmp (g := (mkF m 2 #[.val (.ref (A 5)), .val (.ref b92), .unset] [(.ref b92), (.ref (A 5))])) X0 hx rfl rfl rfl (pc0 := 2) (pc' := 7) (same := false) rfl (hb hby own_d_jdk_42_method_66_code_2) rfl (decide_eq_false fun q => (Fld.ne (EN.2.2.1.2.2.2.1.ext OL0.2) G_F_b92_java_lang_String_value (fun h => arv_ne (EN.2.2.1.2.2.2.2.1.ext OL0.2) G_A_b124_b122_b110_b96 (Or.inr ⟨2, by decide, fun h => by injection h with h; exact absurd h (by decide)⟩) (Value.ref.inj h))) (Value.ref.inj q)) (by decide) (by decide) ?_
    show Steps p.tables e below (s₁.setTop (mkF m 7 #[.val (.ref (A 5)), .val (.ref b92), .unset] [])) _
    refine XS.aloadN X0.here hx rfl (hb hby own_d_jdk_42_method_66_code_7) rfl rfl ?_
    show Steps p.tables e below (s₁.setTop (mkF m 8 #[.val (.ref (A 5)), .val (.ref b92), .unset] [(.ref b92)])) _
    refine st133 _ ?_
    show Steps p.tables e below (T133.setTop (mkF m 11 #[.val (.ref (A 5)), .val (.ref b92), .unset] [(.int (1 : Int32))])) _
    refine XS.ifNo X133.here hx rfl (hb hby own_d_jdk_42_method_66_code_11) rfl ((if0 _ _).trans (feq (by decide : ¬ ((1 : Int32) = (0 : Int32)))).1) ?_
    show Steps p.tables e below (T133.setTop (mkF m 14 #[.val (.ref (A 5)), .val (.ref b92), .unset] [])) _
    refine XS.aloadN X133.here hx rfl (hb hby own_d_jdk_42_method_66_code_14) rfl rfl ?_
    show Steps p.tables e below (T133.setTop (mkF m 15 #[.val (.ref (A 5)), .val (.ref b92), .unset] [(.ref b92)])) _
    refine st134 _ ?_
    show Steps p.tables e below (T134.setTop (mkF m 18 #[.val (.ref (A 5)), .val (.ref b92), .unset] [(.ref b92)])) _
    refine XS.astoreN X134.here hx rfl (hb hby own_d_jdk_42_method_66_code_18) rfl rfl (l' := #[.val (.ref (A 5)), .val (.ref b92), .val (.ref b92)]) rfl ?_
    show Steps p.tables e below (T134.setTop (mkF m 19 #[.val (.ref (A 5)), .val (.ref b92), .val (.ref b92)] [])) _
    refine st135 _ ?_
    show Steps p.tables e below (T135.setTop (mkF m 22 #[.val (.ref (A 5)), .val (.ref b92), .val (.ref b92)] [(.int cs)])) _
    refine XS.ifNo X135.here hx rfl (hb hby own_d_jdk_42_method_66_code_22) rfl ((if0 _ _).trans (feq EN.2.2.2.1.2.2.2.2.1).1) ?_
    show Steps p.tables e below (T135.setTop (mkF m 25 #[.val (.ref (A 5)), .val (.ref b92), .val (.ref b92)] [])) _
    refine XS.aloadN X135.here hx rfl (hb hby own_d_jdk_42_method_66_code_25) rfl rfl ?_
    show Steps p.tables e below (T135.setTop (mkF m 26 #[.val (.ref (A 5)), .val (.ref b92), .val (.ref b92)] [(.ref (A 5))])) _
    refine st136 _ ?_
    show Steps p.tables e below (T136.setTop (mkF m 29 #[.val (.ref (A 5)), .val (.ref b92), .val (.ref b92)] [(.int (0 : Int32))])) _
    refine XS.aloadN X136.here hx rfl (hb hby own_d_jdk_42_method_66_code_29) rfl rfl ?_
    show Steps p.tables e below (T136.setTop (mkF m 30 #[.val (.ref (A 5)), .val (.ref b92), .val (.ref b92)] [(.ref b92), (.int (0 : Int32))])) _
    refine st137 _ ?_
    show Steps p.tables e below (T137.setTop (mkF m 33 #[.val (.ref (A 5)), .val (.ref b92), .val (.ref b92)] [(.int (0 : Int32)), (.int (0 : Int32))])) _
    refine XS.icmpNo X137.here hx rfl (hb hby own_d_jdk_42_method_66_code_33) rfl (teq (by decide : (0 : Int32) = (0 : Int32))).2 ?_
    show Steps p.tables e below (T137.setTop (mkF m 36 #[.val (.ref (A 5)), .val (.ref b92), .val (.ref b92)] [])) _
    refine XS.aloadN X137.here hx rfl (hb hby own_d_jdk_42_method_66_code_36) rfl rfl ?_
    show Steps p.tables e below (T137.setTop (mkF m 37 #[.val (.ref (A 5)), .val (.ref b92), .val (.ref b92)] [(.ref (A 5))])) _
    refine st138 _ ?_
    show Steps p.tables e below (T138.setTop (mkF m 40 #[.val (.ref (A 5)), .val (.ref b92), .val (.ref b92)] [(.ref (A 9))])) _
    refine XS.aloadN X138.here hx rfl (hb hby own_d_jdk_42_method_66_code_40) rfl rfl ?_
    show Steps p.tables e below (T138.setTop (mkF m 41 #[.val (.ref (A 5)), .val (.ref b92), .val (.ref b92)] [(.ref b92), (.ref (A 9))])) _
    refine st139 _ ?_
    show Steps p.tables e below (T139.setTop (mkF m 44 #[.val (.ref (A 5)), .val (.ref b92), .val (.ref b92)] [(.ref b124_b122_b110_b96), (.ref (A 9))])) _
    refine st151 _ ?_
    show Steps p.tables e below (T151.setTop (mkF m 47 #[.val (.ref (A 5)), .val (.ref b92), .val (.ref b92)] [(.int (0 : Int32))])) _
    refine XS.ifYes X151.here hx rfl (pc0 := 47) (pc' := 54) rfl (hb hby own_d_jdk_42_method_66_code_47) rfl ((if0 _ _).trans (teq (by decide : (0 : Int32) = (0 : Int32))).1) (by decide) (by decide) ?_
    show Steps p.tables e below (T151.setTop (mkF m 54 #[.val (.ref (A 5)), .val (.ref b92), .val (.ref b92)] [])) _
    refine XS.iconst X151.here hx rfl (hb hby own_d_jdk_42_method_66_code_54) ?_
    show Steps p.tables e below (T151.setTop (mkF m 55 #[.val (.ref (A 5)), .val (.ref b92), .val (.ref b92)] [(.int (0 : Int32))])) _
    exact retN X151 hx (t := .boolean) Bd.returns (by simp) (hb hby own_d_jdk_42_method_66_code_55) hr
  · show PQ (some (.int (0 : Int32))) h0 n0 _ T151.heap _
    rw [e151]
    exact ⟨rfl, N151, rfl⟩
theorem own_ef_rm21 (m : MethodId) (p1 : Int32) (A : Nat → Addr) (K : Nat → ClassId) (cs : Int32)  (b124_b122_b110_b96 : Addr) (k124_k122_k110_k96 : ClassId) : entryFrame m #[(.ref (A 10)), (.ref b124_b122_b110_b96)] 3 = mkF m 0 #[.val (.ref (A 10)), .val (.ref b124_b122_b110_b96), .unset] [] := by first | (simp [entryFrame, mkF, argsToLocals, Value.category, maxLocals]; done) | rfl
set_option maxRecDepth 65536 in
set_option maxHeartbeats 40000000 in
theorem rm21 (l : Launch) (Z : State) (a0 : Array Value) (hw : ∀ d ∈ tables_1, d.before a0 Z = true) (ws : List Jvm.Cond) (h0 : Heap) (n0 : Nat) (p1 : Int32) (A : Nat → Addr) (K : Nat → ClassId) (cs : Int32)  (b124_b122_b110_b96 : Addr) (k124_k122_k110_k96 : ClassId) (EN : own_St Z A K cs) (OL0 : Old Z n0 h0) (G_A_b124_b122_b110_b96 : Arv Z h0 b124_b122_b110_b96 k124_k122_k110_k96 .byte (3 : Int32) [(.int (51 : Int32)), (.int (46 : Int32)), (.int (49 : Int32))] (.int (0 : Int32))) :
    MetFree l own_m1 (head1 (Jvm.Cond.code own_m1 jdk_43_method_13_code 3 (some .boolean) :: ws) ({ frames := 0, cells := 0, slots := 0, locals := 0 } : Room)) (fun a U => a = #[(.ref (A 10)), (.ref b124_b122_b110_b96)] ∧ Z.Warmed39 U.vm ∧ U.heap = h0) (fun _ _ _ _ _ => True) (fun _ U o U' => ∃ v L, o = .returned v ∧ (PQ (some (.int (1 : Int32))) h0 n0) v U'.heap L ∧ FrameEnd U o U' L ({ frames := 0, cells := 0, slots := 0, locals := 0 } : Room).cells ({ frames := 0, cells := 0, slots := 0, locals := 0 } : Room).slots) := by
  refine MetFree.of_bodySF (plainFor_of_name own_pn3) hisR ?_
  intro p e s m args below meth c s₁ Bd hml0 hP hK
  obtain ⟨rfl, hZ, hh⟩ := hP
  have hx := Bd.exec
  have hby := Bd.bytes
  have hml : c.maxLocals = 3 := hml0
  have hown : s.vm.findClass "java/lang/StringLatin1" = some m.cls := findClass_of_methodNamed Bd.named
  have hnm := (name_of_methodNamed Bd.named Bd.method).1
  have X0 : Stand p l e ({ frames := 0, cells := 0, slots := 0, locals := 0 } : Room) s m #[(.ref (A 10)), (.ref b124_b122_b110_b96)] below meth c s₁ [] 0 0 := Stand.of_body Bd
  have e0 : s₁.heap = h0 := by rw [← hh, Bd.state]; rfl
  have N0 := Fr.nil n0
  have pre0 : ∀ t, Steps p.tables e below (s₁.setTop (mkF m 0 #[.val (.ref (A 10)), .val (.ref b124_b122_b110_b96), .unset] [])) t → Steps p.tables e below (s₁.setTop (entryFrame m #[(.ref (A 10)), (.ref b124_b122_b110_b96)] 3)) t := fun t k => castTop (own_ef_rm21 m p1 A K cs b124_b122_b110_b96 k124_k122_k110_k96) k
  have KK0 : Keep h0 h0 [] := Keep.refl _ _
  obtain ⟨cl166, Ar166, -, Sz166, Nn166, -, -⟩ := (id (EN.2.2.1.2.2.2.2.2.2.1.ext OL0.2))
  obtain ⟨cl167, Ar167, -, Sz167, Nn167, -, -⟩ := (id G_A_b124_b122_b110_b96)
  obtain ⟨cl168, Ar168, -, Sz168, Nn168, -, -⟩ := (id (EN.2.2.1.2.2.2.2.2.2.1.ext OL0.2))
  obtain ⟨cl169, Ar169, q169, Sz169, Nn169, Hh169, Gg169⟩ := (id (EN.2.2.1.2.2.2.2.2.2.1.ext OL0.2))
  have hin169 : ¬ ((0 : Int32) < 0 ∨ cl169.slots.size ≤ ((0 : Int32)).toNatClampNeg) := inb_of Sz169 ⟨by decide, by decide⟩
  have hat169 : cl169.slots[((0 : Int32)).toNatClampNeg]? = some (.int (51 : Int32)) := Has.at Hh169 hin169 rfl
  obtain ⟨cl170, Ar170, q170, Sz170, Nn170, Hh170, Gg170⟩ := (id G_A_b124_b122_b110_b96)
  have hin170 : ¬ ((0 : Int32) < 0 ∨ cl170.slots.size ≤ ((0 : Int32)).toNatClampNeg) := inb_of Sz170 ⟨by decide, by decide⟩
  have hat170 : cl170.slots[((0 : Int32)).toNatClampNeg]? = some (.int (51 : Int32)) := Has.at Hh170 hin170 rfl
  obtain ⟨cl171, Ar171, -, Sz171, Nn171, -, -⟩ := (id (EN.2.2.1.2.2.2.2.2.2.1.ext OL0.2))
  obtain ⟨cl172, Ar172, q172, Sz172, Nn172, Hh172, Gg172⟩ := (id (EN.2.2.1.2.2.2.2.2.2.1.ext OL0.2))
  have hin172 : ¬ ((1 : Int32) < 0 ∨ cl172.slots.size ≤ ((1 : Int32)).toNatClampNeg) := inb_of Sz172 ⟨by decide, by decide⟩
  have hat172 : cl172.slots[((1 : Int32)).toNatClampNeg]? = some (.int (46 : Int32)) := Has.at Hh172 hin172 rfl
  obtain ⟨cl173, Ar173, q173, Sz173, Nn173, Hh173, Gg173⟩ := (id G_A_b124_b122_b110_b96)
  have hin173 : ¬ ((1 : Int32) < 0 ∨ cl173.slots.size ≤ ((1 : Int32)).toNatClampNeg) := inb_of Sz173 ⟨by decide, by decide⟩
  have hat173 : cl173.slots[((1 : Int32)).toNatClampNeg]? = some (.int (46 : Int32)) := Has.at Hh173 hin173 rfl
  obtain ⟨cl174, Ar174, -, Sz174, Nn174, -, -⟩ := (id (EN.2.2.1.2.2.2.2.2.2.1.ext OL0.2))
  obtain ⟨cl175, Ar175, q175, Sz175, Nn175, Hh175, Gg175⟩ := (id (EN.2.2.1.2.2.2.2.2.2.1.ext OL0.2))
  have hin175 : ¬ ((2 : Int32) < 0 ∨ cl175.slots.size ≤ ((2 : Int32)).toNatClampNeg) := inb_of Sz175 ⟨by decide, by decide⟩
  have hat175 : cl175.slots[((2 : Int32)).toNatClampNeg]? = some (.int (49 : Int32)) := Has.at Hh175 hin175 rfl
  obtain ⟨cl176, Ar176, q176, Sz176, Nn176, Hh176, Gg176⟩ := (id G_A_b124_b122_b110_b96)
  have hin176 : ¬ ((2 : Int32) < 0 ∨ cl176.slots.size ≤ ((2 : Int32)).toNatClampNeg) := inb_of Sz176 ⟨by decide, by decide⟩
  have hat176 : cl176.slots[((2 : Int32)).toNatClampNeg]? = some (.int (49 : Int32)) := Has.at Hh176 hin176 rfl
  obtain ⟨cl177, Ar177, -, Sz177, Nn177, -, -⟩ := (id (EN.2.2.1.2.2.2.2.2.2.1.ext OL0.2))
  obtain ⟨fs, hr, hrun, hended, hW, hsame⟩ := X0.leave (v := some (.int (1 : Int32))) (fun h => by rw [Bd.returns] at h; cases h)
  refine ⟨_, _, pre0 _ ?_, hrun, hended, _, _, rfl, ?_, ⟨_, rfl⟩, hW, hsame.mono (by decide) (by decide)⟩
  · show Steps p.tables e below (s₁.setTop (mkF m 0 #[.val (.ref (A 10)), .val (.ref b124_b122_b110_b96), .unset] [])) _
    refine XS.aloadN X0.here hx rfl (hb hby own_d_jdk_43_method_13_code_0) rfl rfl ?_
    show Steps p.tables e below (s₁.setTop (mkF m 1 #[.val (.ref (A 10)), .val (.ref b124_b122_b110_b96), .unset] [(.ref (A 10))])) _
    refine X0.arraylength hx (by rw [e0]; exact Ar166.1) (State.isArrayOf_alike hZ.alike Ar166.2.1) (g := (mkF m 1 #[.val (.ref (A 10)), .val (.ref b124_b122_b110_b96), .unset] [(.ref (A 10))])) rfl rfl (hb hby own_d_jdk_43_method_13_code_1) _ ?_
    rw [len_of Sz166 Nn166]
    show Steps p.tables e below (s₁.setTop (mkF m 2 #[.val (.ref (A 10)), .val (.ref b124_b122_b110_b96), .unset] [(.int (3 : Int32))])) _
    refine XS.aloadN X0.here hx rfl (hb hby own_d_jdk_43_method_13_code_2) rfl rfl ?_
    show Steps p.tables e below (s₁.setTop (mkF m 3 #[.val (.ref (A 10)), .val (.ref b124_b122_b110_b96), .unset] [(.ref b124_b122_b110_b96), (.int (3 : Int32))])) _
    refine X0.arraylength hx (by rw [e0]; exact Ar167.1) (State.isArrayOf_alike hZ.alike Ar167.2.1) (g := (mkF m 3 #[.val (.ref (A 10)), .val (.ref b124_b122_b110_b96), .unset] [(.ref b124_b122_b110_b96), (.int (3 : Int32))])) rfl rfl (hb hby own_d_jdk_43_method_13_code_3) _ ?_
    rw [len_of Sz167 Nn167]
    show Steps p.tables e below (s₁.setTop (mkF m 4 #[.val (.ref (A 10)), .val (.ref b124_b122_b110_b96), .unset] [(.int (3 : Int32)), (.int (3 : Int32))])) _
    refine XS.icmpNo X0.here hx rfl (hb hby own_d_jdk_43_method_13_code_4) rfl (teq (by decide : (3 : Int32) = (3 : Int32))).2 ?_
    show Steps p.tables e below (s₁.setTop (mkF m 7 #[.val (.ref (A 10)), .val (.ref b124_b122_b110_b96), .unset] [])) _
    refine XS.iconst X0.here hx rfl (hb hby own_d_jdk_43_method_13_code_7) ?_
    show Steps p.tables e below (s₁.setTop (mkF m 8 #[.val (.ref (A 10)), .val (.ref b124_b122_b110_b96), .unset] [(.int (0 : Int32))])) _
    refine XS.istoreN X0.here hx rfl (hb hby own_d_jdk_43_method_13_code_8) rfl (l' := #[.val (.ref (A 10)), .val (.ref b124_b122_b110_b96), .val (.int (0 : Int32))]) rfl ?_
    show Steps p.tables e below (s₁.setTop (mkF m 9 #[.val (.ref (A 10)), .val (.ref b124_b122_b110_b96), .val (.int (0 : Int32))] [])) _
    refine XS.iloadN X0.here hx rfl (hb hby own_d_jdk_43_method_13_code_9) rfl ?_
    show Steps p.tables e below (s₁.setTop (mkF m 10 #[.val (.ref (A 10)), .val (.ref b124_b122_b110_b96), .val (.int (0 : Int32))] [(.int (0 : Int32))])) _
    refine XS.aloadN X0.here hx rfl (hb hby own_d_jdk_43_method_13_code_10) rfl rfl ?_
    show Steps p.tables e below (s₁.setTop (mkF m 11 #[.val (.ref (A 10)), .val (.ref b124_b122_b110_b96), .val (.int (0 : Int32))] [(.ref (A 10)), (.int (0 : Int32))])) _
    refine X0.arraylength hx (by rw [e0]; exact Ar168.1) (State.isArrayOf_alike hZ.alike Ar168.2.1) (g := (mkF m 11 #[.val (.ref (A 10)), .val (.ref b124_b122_b110_b96), .val (.int (0 : Int32))] [(.ref (A 10)), (.int (0 : Int32))])) rfl rfl (hb hby own_d_jdk_43_method_13_code_11) _ ?_
    rw [len_of Sz168 Nn168]
    show Steps p.tables e below (s₁.setTop (mkF m 12 #[.val (.ref (A 10)), .val (.ref b124_b122_b110_b96), .val (.int (0 : Int32))] [(.int (3 : Int32)), (.int (0 : Int32))])) _
    refine XS.icmpNo X0.here hx rfl (hb hby own_d_jdk_43_method_13_code_12) rfl (tlt (by decide : (0 : Int32) < (3 : Int32))).2.1 ?_
    show Steps p.tables e below (s₁.setTop (mkF m 15 #[.val (.ref (A 10)), .val (.ref b124_b122_b110_b96), .val (.int (0 : Int32))] [])) _
    refine XS.aloadN X0.here hx rfl (hb hby own_d_jdk_43_method_13_code_15) rfl rfl ?_
    show Steps p.tables e below (s₁.setTop (mkF m 16 #[.val (.ref (A 10)), .val (.ref b124_b122_b110_b96), .val (.int (0 : Int32))] [(.ref (A 10))])) _
    refine XS.iloadN X0.here hx rfl (hb hby own_d_jdk_43_method_13_code_16) rfl ?_
    show Steps p.tables e below (s₁.setTop (mkF m 17 #[.val (.ref (A 10)), .val (.ref b124_b122_b110_b96), .val (.int (0 : Int32))] [(.int (0 : Int32)), (.ref (A 10))])) _
    refine X0.baloadBytes hx (j := (0 : Int32)) (v := (.int (51 : Int32))) (by rw [e0]; exact Ar169.1) (State.isArrayOf_alike hZ.alike Ar169.2.1) Ar169.2.2 hin169 hat169 (g := (mkF m 17 #[.val (.ref (A 10)), .val (.ref b124_b122_b110_b96), .val (.int (0 : Int32))] [(.int (0 : Int32)), (.ref (A 10))])) rfl rfl (hb hby own_d_jdk_43_method_13_code_17) _ ?_
    show Steps p.tables e below (s₁.setTop (mkF m 18 #[.val (.ref (A 10)), .val (.ref b124_b122_b110_b96), .val (.int (0 : Int32))] [(.int (51 : Int32))])) _
    refine XS.aloadN X0.here hx rfl (hb hby own_d_jdk_43_method_13_code_18) rfl rfl ?_
    show Steps p.tables e below (s₁.setTop (mkF m 19 #[.val (.ref (A 10)), .val (.ref b124_b122_b110_b96), .val (.int (0 : Int32))] [(.ref b124_b122_b110_b96), (.int (51 : Int32))])) _
    refine XS.iloadN X0.here hx rfl (hb hby own_d_jdk_43_method_13_code_19) rfl ?_
    show Steps p.tables e below (s₁.setTop (mkF m 20 #[.val (.ref (A 10)), .val (.ref b124_b122_b110_b96), .val (.int (0 : Int32))] [(.int (0 : Int32)), (.ref b124_b122_b110_b96), (.int (51 : Int32))])) _
    refine X0.baloadBytes hx (j := (0 : Int32)) (v := (.int (51 : Int32))) (by rw [e0]; exact Ar170.1) (State.isArrayOf_alike hZ.alike Ar170.2.1) Ar170.2.2 hin170 hat170 (g := (mkF m 20 #[.val (.ref (A 10)), .val (.ref b124_b122_b110_b96), .val (.int (0 : Int32))] [(.int (0 : Int32)), (.ref b124_b122_b110_b96), (.int (51 : Int32))])) rfl rfl (hb hby own_d_jdk_43_method_13_code_20) _ ?_
    show Steps p.tables e below (s₁.setTop (mkF m 21 #[.val (.ref (A 10)), .val (.ref b124_b122_b110_b96), .val (.int (0 : Int32))] [(.int (51 : Int32)), (.int (51 : Int32))])) _
    refine XS.icmpYes X0.here hx rfl (pc0 := 21) (pc' := 26) rfl (hb hby own_d_jdk_43_method_13_code_21) rfl (teq (by decide : (51 : Int32) = (51 : Int32))).1 (by decide) (by decide) ?_
    show Steps p.tables e below (s₁.setTop (mkF m 26 #[.val (.ref (A 10)), .val (.ref b124_b122_b110_b96), .val (.int (0 : Int32))] [])) _
    refine XS.iinc X0.here hx rfl (hb hby own_d_jdk_43_method_13_code_26) rfl (l' := #[.val (.ref (A 10)), .val (.ref b124_b122_b110_b96), .val (.int (1 : Int32))]) rfl ?_
    show Steps p.tables e below (s₁.setTop (mkF m 29 #[.val (.ref (A 10)), .val (.ref b124_b122_b110_b96), .val (.int (1 : Int32))] [])) _
    refine XS.goto X0.here hx rfl (pc0 := 29) (pc' := 9) rfl (hb hby own_d_jdk_43_method_13_code_29) (by decide) (by decide) ?_
    show Steps p.tables e below (s₁.setTop (mkF m 9 #[.val (.ref (A 10)), .val (.ref b124_b122_b110_b96), .val (.int (1 : Int32))] [])) _
    refine XS.iloadN X0.here hx rfl (hb hby own_d_jdk_43_method_13_code_9) rfl ?_
    show Steps p.tables e below (s₁.setTop (mkF m 10 #[.val (.ref (A 10)), .val (.ref b124_b122_b110_b96), .val (.int (1 : Int32))] [(.int (1 : Int32))])) _
    refine XS.aloadN X0.here hx rfl (hb hby own_d_jdk_43_method_13_code_10) rfl rfl ?_
    show Steps p.tables e below (s₁.setTop (mkF m 11 #[.val (.ref (A 10)), .val (.ref b124_b122_b110_b96), .val (.int (1 : Int32))] [(.ref (A 10)), (.int (1 : Int32))])) _
    refine X0.arraylength hx (by rw [e0]; exact Ar171.1) (State.isArrayOf_alike hZ.alike Ar171.2.1) (g := (mkF m 11 #[.val (.ref (A 10)), .val (.ref b124_b122_b110_b96), .val (.int (1 : Int32))] [(.ref (A 10)), (.int (1 : Int32))])) rfl rfl (hb hby own_d_jdk_43_method_13_code_11) _ ?_
    rw [len_of Sz171 Nn171]
    show Steps p.tables e below (s₁.setTop (mkF m 12 #[.val (.ref (A 10)), .val (.ref b124_b122_b110_b96), .val (.int (1 : Int32))] [(.int (3 : Int32)), (.int (1 : Int32))])) _
    refine XS.icmpNo X0.here hx rfl (hb hby own_d_jdk_43_method_13_code_12) rfl (tlt (by decide : (1 : Int32) < (3 : Int32))).2.1 ?_
    show Steps p.tables e below (s₁.setTop (mkF m 15 #[.val (.ref (A 10)), .val (.ref b124_b122_b110_b96), .val (.int (1 : Int32))] [])) _
    refine XS.aloadN X0.here hx rfl (hb hby own_d_jdk_43_method_13_code_15) rfl rfl ?_
    show Steps p.tables e below (s₁.setTop (mkF m 16 #[.val (.ref (A 10)), .val (.ref b124_b122_b110_b96), .val (.int (1 : Int32))] [(.ref (A 10))])) _
    refine XS.iloadN X0.here hx rfl (hb hby own_d_jdk_43_method_13_code_16) rfl ?_
    show Steps p.tables e below (s₁.setTop (mkF m 17 #[.val (.ref (A 10)), .val (.ref b124_b122_b110_b96), .val (.int (1 : Int32))] [(.int (1 : Int32)), (.ref (A 10))])) _
    refine X0.baloadBytes hx (j := (1 : Int32)) (v := (.int (46 : Int32))) (by rw [e0]; exact Ar172.1) (State.isArrayOf_alike hZ.alike Ar172.2.1) Ar172.2.2 hin172 hat172 (g := (mkF m 17 #[.val (.ref (A 10)), .val (.ref b124_b122_b110_b96), .val (.int (1 : Int32))] [(.int (1 : Int32)), (.ref (A 10))])) rfl rfl (hb hby own_d_jdk_43_method_13_code_17) _ ?_
    show Steps p.tables e below (s₁.setTop (mkF m 18 #[.val (.ref (A 10)), .val (.ref b124_b122_b110_b96), .val (.int (1 : Int32))] [(.int (46 : Int32))])) _
    refine XS.aloadN X0.here hx rfl (hb hby own_d_jdk_43_method_13_code_18) rfl rfl ?_
    show Steps p.tables e below (s₁.setTop (mkF m 19 #[.val (.ref (A 10)), .val (.ref b124_b122_b110_b96), .val (.int (1 : Int32))] [(.ref b124_b122_b110_b96), (.int (46 : Int32))])) _
    refine XS.iloadN X0.here hx rfl (hb hby own_d_jdk_43_method_13_code_19) rfl ?_
    show Steps p.tables e below (s₁.setTop (mkF m 20 #[.val (.ref (A 10)), .val (.ref b124_b122_b110_b96), .val (.int (1 : Int32))] [(.int (1 : Int32)), (.ref b124_b122_b110_b96), (.int (46 : Int32))])) _
    refine X0.baloadBytes hx (j := (1 : Int32)) (v := (.int (46 : Int32))) (by rw [e0]; exact Ar173.1) (State.isArrayOf_alike hZ.alike Ar173.2.1) Ar173.2.2 hin173 hat173 (g := (mkF m 20 #[.val (.ref (A 10)), .val (.ref b124_b122_b110_b96), .val (.int (1 : Int32))] [(.int (1 : Int32)), (.ref b124_b122_b110_b96), (.int (46 : Int32))])) rfl rfl (hb hby own_d_jdk_43_method_13_code_20) _ ?_
    show Steps p.tables e below (s₁.setTop (mkF m 21 #[.val (.ref (A 10)), .val (.ref b124_b122_b110_b96), .val (.int (1 : Int32))] [(.int (46 : Int32)), (.int (46 : Int32))])) _
    refine XS.icmpYes X0.here hx rfl (pc0 := 21) (pc' := 26) rfl (hb hby own_d_jdk_43_method_13_code_21) rfl (teq (by decide : (46 : Int32) = (46 : Int32))).1 (by decide) (by decide) ?_
    show Steps p.tables e below (s₁.setTop (mkF m 26 #[.val (.ref (A 10)), .val (.ref b124_b122_b110_b96), .val (.int (1 : Int32))] [])) _
    refine XS.iinc X0.here hx rfl (hb hby own_d_jdk_43_method_13_code_26) rfl (l' := #[.val (.ref (A 10)), .val (.ref b124_b122_b110_b96), .val (.int (2 : Int32))]) rfl ?_
    show Steps p.tables e below (s₁.setTop (mkF m 29 #[.val (.ref (A 10)), .val (.ref b124_b122_b110_b96), .val (.int (2 : Int32))] [])) _
    refine XS.goto X0.here hx rfl (pc0 := 29) (pc' := 9) rfl (hb hby own_d_jdk_43_method_13_code_29) (by decide) (by decide) ?_
    show Steps p.tables e below (s₁.setTop (mkF m 9 #[.val (.ref (A 10)), .val (.ref b124_b122_b110_b96), .val (.int (2 : Int32))] [])) _
    refine XS.iloadN X0.here hx rfl (hb hby own_d_jdk_43_method_13_code_9) rfl ?_
    show Steps p.tables e below (s₁.setTop (mkF m 10 #[.val (.ref (A 10)), .val (.ref b124_b122_b110_b96), .val (.int (2 : Int32))] [(.int (2 : Int32))])) _
    refine XS.aloadN X0.here hx rfl (hb hby own_d_jdk_43_method_13_code_10) rfl rfl ?_
    show Steps p.tables e below (s₁.setTop (mkF m 11 #[.val (.ref (A 10)), .val (.ref b124_b122_b110_b96), .val (.int (2 : Int32))] [(.ref (A 10)), (.int (2 : Int32))])) _
    refine X0.arraylength hx (by rw [e0]; exact Ar174.1) (State.isArrayOf_alike hZ.alike Ar174.2.1) (g := (mkF m 11 #[.val (.ref (A 10)), .val (.ref b124_b122_b110_b96), .val (.int (2 : Int32))] [(.ref (A 10)), (.int (2 : Int32))])) rfl rfl (hb hby own_d_jdk_43_method_13_code_11) _ ?_
    rw [len_of Sz174 Nn174]
    show Steps p.tables e below (s₁.setTop (mkF m 12 #[.val (.ref (A 10)), .val (.ref b124_b122_b110_b96), .val (.int (2 : Int32))] [(.int (3 : Int32)), (.int (2 : Int32))])) _
    refine XS.icmpNo X0.here hx rfl (hb hby own_d_jdk_43_method_13_code_12) rfl (tlt (by decide : (2 : Int32) < (3 : Int32))).2.1 ?_
    show Steps p.tables e below (s₁.setTop (mkF m 15 #[.val (.ref (A 10)), .val (.ref b124_b122_b110_b96), .val (.int (2 : Int32))] [])) _
    refine XS.aloadN X0.here hx rfl (hb hby own_d_jdk_43_method_13_code_15) rfl rfl ?_
    show Steps p.tables e below (s₁.setTop (mkF m 16 #[.val (.ref (A 10)), .val (.ref b124_b122_b110_b96), .val (.int (2 : Int32))] [(.ref (A 10))])) _
    refine XS.iloadN X0.here hx rfl (hb hby own_d_jdk_43_method_13_code_16) rfl ?_
    show Steps p.tables e below (s₁.setTop (mkF m 17 #[.val (.ref (A 10)), .val (.ref b124_b122_b110_b96), .val (.int (2 : Int32))] [(.int (2 : Int32)), (.ref (A 10))])) _
    refine X0.baloadBytes hx (j := (2 : Int32)) (v := (.int (49 : Int32))) (by rw [e0]; exact Ar175.1) (State.isArrayOf_alike hZ.alike Ar175.2.1) Ar175.2.2 hin175 hat175 (g := (mkF m 17 #[.val (.ref (A 10)), .val (.ref b124_b122_b110_b96), .val (.int (2 : Int32))] [(.int (2 : Int32)), (.ref (A 10))])) rfl rfl (hb hby own_d_jdk_43_method_13_code_17) _ ?_
    show Steps p.tables e below (s₁.setTop (mkF m 18 #[.val (.ref (A 10)), .val (.ref b124_b122_b110_b96), .val (.int (2 : Int32))] [(.int (49 : Int32))])) _
    refine XS.aloadN X0.here hx rfl (hb hby own_d_jdk_43_method_13_code_18) rfl rfl ?_
    show Steps p.tables e below (s₁.setTop (mkF m 19 #[.val (.ref (A 10)), .val (.ref b124_b122_b110_b96), .val (.int (2 : Int32))] [(.ref b124_b122_b110_b96), (.int (49 : Int32))])) _
    refine XS.iloadN X0.here hx rfl (hb hby own_d_jdk_43_method_13_code_19) rfl ?_
    show Steps p.tables e below (s₁.setTop (mkF m 20 #[.val (.ref (A 10)), .val (.ref b124_b122_b110_b96), .val (.int (2 : Int32))] [(.int (2 : Int32)), (.ref b124_b122_b110_b96), (.int (49 : Int32))])) _
    refine X0.baloadBytes hx (j := (2 : Int32)) (v := (.int (49 : Int32))) (by rw [e0]; exact Ar176.1) (State.isArrayOf_alike hZ.alike Ar176.2.1) Ar176.2.2 hin176 hat176 (g := (mkF m 20 #[.val (.ref (A 10)), .val (.ref b124_b122_b110_b96), .val (.int (2 : Int32))] [(.int (2 : Int32)), (.ref b124_b122_b110_b96), (.int (49 : Int32))])) rfl rfl (hb hby own_d_jdk_43_method_13_code_20) _ ?_
    show Steps p.tables e below (s₁.setTop (mkF m 21 #[.val (.ref (A 10)), .val (.ref b124_b122_b110_b96), .val (.int (2 : Int32))] [(.int (49 : Int32)), (.int (49 : Int32))])) _
    refine XS.icmpYes X0.here hx rfl (pc0 := 21) (pc' := 26) rfl (hb hby own_d_jdk_43_method_13_code_21) rfl (teq (by decide : (49 : Int32) = (49 : Int32))).1 (by decide) (by decide) ?_
    show Steps p.tables e below (s₁.setTop (mkF m 26 #[.val (.ref (A 10)), .val (.ref b124_b122_b110_b96), .val (.int (2 : Int32))] [])) _
    refine XS.iinc X0.here hx rfl (hb hby own_d_jdk_43_method_13_code_26) rfl (l' := #[.val (.ref (A 10)), .val (.ref b124_b122_b110_b96), .val (.int (3 : Int32))]) rfl ?_
    show Steps p.tables e below (s₁.setTop (mkF m 29 #[.val (.ref (A 10)), .val (.ref b124_b122_b110_b96), .val (.int (3 : Int32))] [])) _
    refine XS.goto X0.here hx rfl (pc0 := 29) (pc' := 9) rfl (hb hby own_d_jdk_43_method_13_code_29) (by decide) (by decide) ?_
    show Steps p.tables e below (s₁.setTop (mkF m 9 #[.val (.ref (A 10)), .val (.ref b124_b122_b110_b96), .val (.int (3 : Int32))] [])) _
    refine XS.iloadN X0.here hx rfl (hb hby own_d_jdk_43_method_13_code_9) rfl ?_
    show Steps p.tables e below (s₁.setTop (mkF m 10 #[.val (.ref (A 10)), .val (.ref b124_b122_b110_b96), .val (.int (3 : Int32))] [(.int (3 : Int32))])) _
    refine XS.aloadN X0.here hx rfl (hb hby own_d_jdk_43_method_13_code_10) rfl rfl ?_
    show Steps p.tables e below (s₁.setTop (mkF m 11 #[.val (.ref (A 10)), .val (.ref b124_b122_b110_b96), .val (.int (3 : Int32))] [(.ref (A 10)), (.int (3 : Int32))])) _
    refine X0.arraylength hx (by rw [e0]; exact Ar177.1) (State.isArrayOf_alike hZ.alike Ar177.2.1) (g := (mkF m 11 #[.val (.ref (A 10)), .val (.ref b124_b122_b110_b96), .val (.int (3 : Int32))] [(.ref (A 10)), (.int (3 : Int32))])) rfl rfl (hb hby own_d_jdk_43_method_13_code_11) _ ?_
    rw [len_of Sz177 Nn177]
    show Steps p.tables e below (s₁.setTop (mkF m 12 #[.val (.ref (A 10)), .val (.ref b124_b122_b110_b96), .val (.int (3 : Int32))] [(.int (3 : Int32)), (.int (3 : Int32))])) _
    refine XS.icmpYes X0.here hx rfl (pc0 := 12) (pc' := 32) rfl (hb hby own_d_jdk_43_method_13_code_12) rfl (flt (by decide : ¬ ((3 : Int32) < (3 : Int32)))).2.1 (by decide) (by decide) ?_
    show Steps p.tables e below (s₁.setTop (mkF m 32 #[.val (.ref (A 10)), .val (.ref b124_b122_b110_b96), .val (.int (3 : Int32))] [])) _
    refine XS.iconst X0.here hx rfl (hb hby own_d_jdk_43_method_13_code_32) ?_
    show Steps p.tables e below (s₁.setTop (mkF m 33 #[.val (.ref (A 10)), .val (.ref b124_b122_b110_b96), .val (.int (3 : Int32))] [(.int (1 : Int32))])) _
    exact retN X0 hx (t := .boolean) Bd.returns (by simp) (hb hby own_d_jdk_43_method_13_code_33) hr
  · show PQ (some (.int (1 : Int32))) h0 n0 _ s₁.heap _
    rw [e0]
    exact ⟨rfl, N0, rfl⟩
theorem own_ef_rm20 (m : MethodId) (p1 : Int32) (A : Nat → Addr) (K : Nat → ClassId) (cs : Int32)  (b92 : Addr) (b124_b122_b110_b96 : Addr) (k124_k122_k110_k96 : ClassId) : entryFrame m #[(.ref (A 6)), (.ref b92)] 3 = mkF m 0 #[.val (.ref (A 6)), .val (.ref b92), .unset] [] := by first | (simp [entryFrame, mkF, argsToLocals, Value.category, maxLocals]; done) | rfl
set_option maxRecDepth 65536 in
set_option maxHeartbeats 40000000 in
theorem rm20 (l : Launch) (Z : State) (a0 : Array Value) (hw : ∀ d ∈ tables_1, d.before a0 Z = true) (ws : List Jvm.Cond) (h0 : Heap) (n0 : Nat) (p1 : Int32) (A : Nat → Addr) (K : Nat → ClassId) (cs : Int32)  (b92 : Addr) (b124_b122_b110_b96 : Addr) (k124_k122_k110_k96 : ClassId) (EN : own_St Z A K cs) (OL0 : Old Z n0 h0) (G_F_b92_java_lang_String_value : Fld Z h0 b92 "java/lang/String" "value" "[B" (.ref b124_b122_b110_b96)) (G_A_b124_b122_b110_b96 : Arv Z h0 b124_b122_b110_b96 k124_k122_k110_k96 .byte (3 : Int32) [(.int (51 : Int32)), (.int (46 : Int32)), (.int (49 : Int32))] (.int (0 : Int32))) (G_E_b92 : Exa Z h0 b92 "java/lang/String") (G_F_b92_java_lang_String_coder : Fld Z h0 b92 "java/lang/String" "coder" "B" (.int (0 : Int32))) (gn_b92 : n0 ≤ b92) :
    MetFree l own_m0 (head1 (Jvm.Cond.code own_m0 jdk_42_method_66_code 3 (some .boolean) :: ws) ({ frames := 1, cells := 0, slots := 0, locals := 14 } : Room)) (fun a U => a = #[(.ref (A 6)), (.ref b92)] ∧ Z.Warmed39 U.vm ∧ U.heap = h0) (fun _ _ _ _ _ => True) (fun _ U o U' => ∃ v L, o = .returned v ∧ (PQ (some (.int (1 : Int32))) h0 n0) v U'.heap L ∧ FrameEnd U o U' L ({ frames := 1, cells := 0, slots := 0, locals := 14 } : Room).cells ({ frames := 1, cells := 0, slots := 0, locals := 14 } : Room).slots) := by
  refine MetFree.of_bodySF (plainFor_of_name own_pn1) hisR ?_
  intro p e s m args below meth c s₁ Bd hml0 hP hK
  obtain ⟨rfl, hZ, hh⟩ := hP
  have hx := Bd.exec
  have hby := Bd.bytes
  have hml : c.maxLocals = 3 := hml0
  have hown : s.vm.findClass "java/lang/String" = some m.cls := findClass_of_methodNamed Bd.named
  have hnm := (name_of_methodNamed Bd.named Bd.method).1
  have X0 : Stand p l e ({ frames := 1, cells := 0, slots := 0, locals := 14 } : Room) s m #[(.ref (A 6)), (.ref b92)] below meth c s₁ [] 0 0 := Stand.of_body Bd
  have e0 : s₁.heap = h0 := by rw [← hh, Bd.state]; rfl
  have N0 := Fr.nil n0
  have pre0 : ∀ t, Steps p.tables e below (s₁.setTop (mkF m 0 #[.val (.ref (A 6)), .val (.ref b92), .unset] [])) t → Steps p.tables e below (s₁.setTop (entryFrame m #[(.ref (A 6)), (.ref b92)] 3)) t := fun t k => castTop (own_ef_rm20 m p1 A K cs b92 b124_b122_b110_b96 k124_k122_k110_k96) k
  have KK0 : Keep h0 h0 [] := Keep.refl _ _
  obtain ⟨T159, X159, e159, st159⟩ := instY X0 hx hZ hown (hw _ (List.mem_of_getElem? (i := 61) rfl)) e0 (Ins.self G_E_b92) (g := (mkF m 8 #[.val (.ref (A 6)), .val (.ref b92), .unset] [(.ref b92)])) rfl rfl (hb hby own_d_jdk_42_method_66_code_8)
  obtain ⟨T160, X160, e160, st160⟩ := castY X159 hx hZ hown (hw _ (List.mem_of_getElem? (i := 61) rfl)) e159 (Ins.self G_E_b92) (g := (mkF m 15 #[.val (.ref (A 6)), .val (.ref b92), .unset] [(.ref b92)])) rfl rfl (hb hby own_d_jdk_42_method_66_code_15)
  obtain ⟨T161, X161, e161, st161⟩ := getS2 X160 hx hZ hown (host := "") (Or.inl (hw _ (List.mem_of_getElem? (i := 14) rfl))) Via.refl e160 (EN.2.2.2.1.2.2.2.1.ext OL0.2) (g := (mkF m 19 #[.val (.ref (A 6)), .val (.ref b92), .val (.ref b92)] [])) rfl (hb hby own_d_jdk_42_method_66_code_19)
  obtain ⟨T162, X162, e162, st162⟩ := getF X161 hx hZ hown (host := "") (Or.inl (hw _ (List.mem_of_getElem? (i := 26) rfl))) Via.refl e161 (EN.2.2.2.1.2.2.2.2.2.2.2.1.ext OL0.2) (g := (mkF m 26 #[.val (.ref (A 6)), .val (.ref b92), .val (.ref b92)] [(.ref (A 6))])) rfl rfl (hb hby own_d_jdk_42_method_66_code_26)
  obtain ⟨T163, X163, e163, st163⟩ := getF X162 hx hZ hown (host := "") (Or.inl (hw _ (List.mem_of_getElem? (i := 26) rfl))) Via.refl e162 G_F_b92_java_lang_String_coder (g := (mkF m 30 #[.val (.ref (A 6)), .val (.ref b92), .val (.ref b92)] [(.ref b92), (.int (0 : Int32))])) rfl rfl (hb hby own_d_jdk_42_method_66_code_30)
  obtain ⟨T164, X164, e164, st164⟩ := getF X163 hx hZ hown (host := "") (Or.inl (hw _ (List.mem_of_getElem? (i := 28) rfl))) Via.refl e163 (EN.2.2.1.2.2.2.2.2.1.ext OL0.2) (g := (mkF m 37 #[.val (.ref (A 6)), .val (.ref b92), .val (.ref b92)] [(.ref (A 6))])) rfl rfl (hb hby own_d_jdk_42_method_66_code_37)
  obtain ⟨T165, X165, e165, st165⟩ := getF X164 hx hZ hown (host := "") (Or.inl (hw _ (List.mem_of_getElem? (i := 28) rfl))) Via.refl e164 G_F_b92_java_lang_String_value (g := (mkF m 41 #[.val (.ref (A 6)), .val (.ref b92), .val (.ref b92)] [(.ref b92), (.ref (A 10))])) rfl rfl (hb hby own_d_jdk_42_method_66_code_41)
  obtain ⟨_, _, ⟨T178, L178, k178, n178⟩, -, X178, ⟨Lc178, hQ178, l178, y178, z178⟩, st178⟩ := Jvm.LawKit.callS X165 hx (y := own_m1) hown (mvT hZ (hw _ (List.mem_of_getElem? (i := 62) rfl))) (mvT hZ (hw _ (List.mem_of_getElem? (i := 63) rfl))) (mvT hZ (hw _ (List.mem_of_getElem? (i := 64) rfl))) (mvT hZ (hw _ (List.mem_of_getElem? (i := 65) rfl))) (by decide) (backOf (W := 0) (rm21 l Z a0 hw [] h0 n0 p1 A K cs b124_b122_b110_b96 k124_k122_k110_k96 EN OL0 G_A_b124_b122_b110_b96) hZ (hw _ (List.mem_of_getElem? (i := 65) rfl)) (hw _ (List.mem_of_getElem? (i := 64) rfl)) (by decide) (by decide)) (g := (mkF m 44 #[.val (.ref (A 6)), .val (.ref b92), .val (.ref b92)] [(.ref b124_b122_b110_b96), (.ref (A 10))])) rfl (by rw [hml]; rfl) (argsL := [(.ref (A 10)), (.ref b124_b122_b110_b96)]) (rest := []) (lenOf own_pd6 rfl) rfl (by show 2 * 0 + _ ≤ _; exact Nat.le_of_eq rfl) (hb hby own_d_jdk_42_method_66_code_44) (fun _ _ => ⟨rfl, e165, (by decide : 0 + 0 ≤ _), (by decide : 0 + 0 ≤ _)⟩)
  dsimp only [Pt.U, Pt.locs, Pt.cells, Pt.slots] at X178 l178 y178 z178 st178 hQ178
  subst l178 y178 z178
  obtain ⟨rfl, N178q, e178⟩ := hQ178
  have N178 := Fr.app N0 N178q
  obtain ⟨fs, hr, hrun, hended, hW, hsame⟩ := X178.leave (v := some (.int (1 : Int32))) (fun h => by rw [Bd.returns] at h; cases h)
  refine ⟨_, _, pre0 _ ?_, hrun, hended, _, _, rfl, ?_, ⟨_, rfl⟩, hW, hsame.mono (by decide) (by decide)⟩
  · show Steps p.tables e below (s₁.setTop (mkF m 0 #[.val (.ref (A 6)), .val (.ref b92), .unset] [])) _
    refine XS.aloadN X0.here hx rfl (hb hby own_d_jdk_42_method_66_code_0) rfl rfl ?_
    show Steps p.tables e below (s₁.setTop (mkF m 1 #[.val (.ref (A 6)), .val (.ref b92), .unset] [(.ref (A 6))])) _
    refine XS.aloadN X0.here hx rfl (hb hby own_d_jdk_42_method_66_code_1) rfl rfl ?_
    show Steps p.tables e below (s₁.setTop (mkF m 2 #[.val (.ref (A 6)), .val (.ref b92), .unset] [(.ref b92), (.ref (A 6))])) _
    refine Jvm.RoadKit.acmp (g := (mkF m 2 #[.val (.ref (A 6)), .val (.ref b92), .unset] [(.ref b92), (.ref (A 6))])) X0 hx rfl rfl rfl (pc0 := 2) (pc' := 7) (same := false) rfl (hb hby own_d_jdk_42_method_66_code_2) rfl (decide_eq_false fun q => (OL0.ne EN.2.1.2.2.2.2.2.2.1.lt gn_b92) (Value.ref.inj q)) (by decide) (by decide) ?_
    show Steps p.tables e below (s₁.setTop (mkF m 7 #[.val (.ref (A 6)), .val (.ref b92), .unset] [])) _
    refine XS.aloadN X0.here hx rfl (hb hby own_d_jdk_42_method_66_code_7) rfl rfl ?_
    show Steps p.tables e below (s₁.setTop (mkF m 8 #[.val (.ref (A 6)), .val (.ref b92), .unset] [(.ref b92)])) _
    refine st159 _ ?_
    show Steps p.tables e below (T159.setTop (mkF m 11 #[.val (.ref (A 6)), .val (.ref b92), .unset] [(.int (1 : Int32))])) _
    refine XS.ifNo X159.here hx rfl (hb hby own_d_jdk_42_method_66_code_11) rfl ((if0 _ _).trans (feq (by decide : ¬ ((1 : Int32) = (0 : Int32)))).1) ?_
    show Steps p.tables e below (T159.setTop (mkF m 14 #[.val (.ref (A 6)), .val (.ref b92), .unset] [])) _
    refine XS.aloadN X159.here hx rfl (hb hby own_d_jdk_42_method_66_code_14) rfl rfl ?_
    show Steps p.tables e below (T159.setTop (mkF m 15 #[.val (.ref (A 6)), .val (.ref b92), .unset] [(.ref b92)])) _
    refine st160 _ ?_
    show Steps p.tables e below (T160.setTop (mkF m 18 #[.val (.ref (A 6)), .val (.ref b92), .unset] [(.ref b92)])) _
    refine XS.astoreN X160.here hx rfl (hb hby own_d_jdk_42_method_66_code_18) rfl rfl (l' := #[.val (.ref (A 6)), .val (.ref b92), .val (.ref b92)]) rfl ?_
    show Steps p.tables e below (T160.setTop (mkF m 19 #[.val (.ref (A 6)), .val (.ref b92), .val (.ref b92)] [])) _
    refine st161 _ ?_
    show Steps p.tables e below (T161.setTop (mkF m 22 #[.val (.ref (A 6)), .val (.ref b92), .val (.ref b92)] [(.int cs)])) _
    refine XS.ifNo X161.here hx rfl (hb hby own_d_jdk_42_method_66_code_22) rfl ((if0 _ _).trans (feq EN.2.2.2.1.2.2.2.2.1).1) ?_
    show Steps p.tables e below (T161.setTop (mkF m 25 #[.val (.ref (A 6)), .val (.ref b92), .val (.ref b92)] [])) _
    refine XS.aloadN X161.here hx rfl (hb hby own_d_jdk_42_method_66_code_25) rfl rfl ?_
    show Steps p.tables e below (T161.setTop (mkF m 26 #[.val (.ref (A 6)), .val (.ref b92), .val (.ref b92)] [(.ref (A 6))])) _
    refine st162 _ ?_
    show Steps p.tables e below (T162.setTop (mkF m 29 #[.val (.ref (A 6)), .val (.ref b92), .val (.ref b92)] [(.int (0 : Int32))])) _
    refine XS.aloadN X162.here hx rfl (hb hby own_d_jdk_42_method_66_code_29) rfl rfl ?_
    show Steps p.tables e below (T162.setTop (mkF m 30 #[.val (.ref (A 6)), .val (.ref b92), .val (.ref b92)] [(.ref b92), (.int (0 : Int32))])) _
    refine st163 _ ?_
    show Steps p.tables e below (T163.setTop (mkF m 33 #[.val (.ref (A 6)), .val (.ref b92), .val (.ref b92)] [(.int (0 : Int32)), (.int (0 : Int32))])) _
    refine XS.icmpNo X163.here hx rfl (hb hby own_d_jdk_42_method_66_code_33) rfl (teq (by decide : (0 : Int32) = (0 : Int32))).2 ?_
    show Steps p.tables e below (T163.setTop (mkF m 36 #[.val (.ref (A 6)), .val (.ref b92), .val (.ref b92)] [])) _
    refine XS.aloadN X163.here hx rfl (hb hby own_d_jdk_42_method_66_code_36) rfl rfl ?_
    show Steps p.tables e below (T163.setTop (mkF m 37 #[.val (.ref (A 6)), .val (.ref b92), .val (.ref b92)] [(.ref (A 6))])) _
    refine st164 _ ?_
    show Steps p.tables e below (T164.setTop (mkF m 40 #[.val (.ref (A 6)), .val (.ref b92), .val (.ref b92)] [(.ref (A 10))])) _
    refine XS.aloadN X164.here hx rfl (hb hby own_d_jdk_42_method_66_code_40) rfl rfl ?_
    show Steps p.tables e below (T164.setTop (mkF m 41 #[.val (.ref (A 6)), .val (.ref b92), .val (.ref b92)] [(.ref b92), (.ref (A 10))])) _
    refine st165 _ ?_
    show Steps p.tables e below (T165.setTop (mkF m 44 #[.val (.ref (A 6)), .val (.ref b92), .val (.ref b92)] [(.ref b124_b122_b110_b96), (.ref (A 10))])) _
    refine st178 _ ?_
    show Steps p.tables e below (T178.setTop (mkF m 47 #[.val (.ref (A 6)), .val (.ref b92), .val (.ref b92)] [(.int (1 : Int32))])) _
    refine XS.ifNo X178.here hx rfl (hb hby own_d_jdk_42_method_66_code_47) rfl ((if0 _ _).trans (feq (by decide : ¬ ((1 : Int32) = (0 : Int32)))).1) ?_
    show Steps p.tables e below (T178.setTop (mkF m 50 #[.val (.ref (A 6)), .val (.ref b92), .val (.ref b92)] [])) _
    refine XS.iconst X178.here hx rfl (hb hby own_d_jdk_42_method_66_code_50) ?_
    show Steps p.tables e below (T178.setTop (mkF m 51 #[.val (.ref (A 6)), .val (.ref b92), .val (.ref b92)] [(.int (1 : Int32))])) _
    refine XS.goto X178.here hx rfl (pc0 := 51) (pc' := 55) rfl (hb hby own_d_jdk_42_method_66_code_51) (by decide) (by decide) ?_
    show Steps p.tables e below (T178.setTop (mkF m 55 #[.val (.ref (A 6)), .val (.ref b92), .val (.ref b92)] [(.int (1 : Int32))])) _
    exact retN X178 hx (t := .boolean) Bd.returns (by simp) (hb hby own_d_jdk_42_method_66_code_55) hr
  · show PQ (some (.int (1 : Int32))) h0 n0 _ T178.heap _
    rw [e178]
    exact ⟨rfl, N178, rfl⟩
def Q_rm16 (Z : State) (p1 : Int32) (A : Nat → Addr) (K : Nat → ClassId) (cs : Int32) (b85 : Addr) (b92 : Addr) (b124_b122_b110_b96 : Addr) (k124_k122_k110_k96 : ClassId) (k85 : ClassId) (h0 : Heap) (n0 : Nat) (v : Option Value) (h : Heap) (L : List Loc) : Prop := ∃ b129_b127 : Addr, v = (some (.ref (A 1))) ∧ Fr n0 L ∧ Keep h0 h [] ∧ (n0 ≤ b129_b127 ∧ h0.size ≤ b129_b127) ∧ (Arv Z h b129_b127 (K 0) (.object "com/example/dongl/dongl/crypto/ProtocolVersion") (4 : Int32) [(.ref (A 0)), (.ref (A 1)), (.ref (A 2)), (.ref (A 3))] .null) ∧ (Exa Z h b129_b127 "[Lcom/example/dongl/dongl/crypto/ProtocolVersion;")
theorem own_d_prog_26_method_4_code_34 : decode prog_26_method_4_code 34 = .ok (.iinc 3 1, 3) := by decide +kernel
theorem own_d_prog_26_method_4_code_37 : decode prog_26_method_4_code 37 = .ok (.goto (-28), 3) := by decide +kernel
theorem own_ef_rm16 (m : MethodId) (p1 : Int32) (A : Nat → Addr) (K : Nat → ClassId) (cs : Int32)  (b85 : Addr) (b92 : Addr) (b124_b122_b110_b96 : Addr) (k124_k122_k110_k96 : ClassId) (k85 : ClassId) : entryFrame m #[(.ref b92)] 5 = mkF m 0 #[.val (.ref b92), .unset, .unset, .unset, .unset] [] := by first | (simp [entryFrame, mkF, argsToLocals, Value.category, maxLocals]; done) | rfl
set_option maxRecDepth 65536 in
set_option maxHeartbeats 40000000 in
theorem rm16 (l : Launch) (Z : State) (a0 : Array Value) (hw : ∀ d ∈ tables_1, d.before a0 Z = true) (ws : List Jvm.Cond) (h0 : Heap) (n0 : Nat) (p1 : Int32) (A : Nat → Addr) (K : Nat → ClassId) (cs : Int32)  (b85 : Addr) (b92 : Addr) (b124_b122_b110_b96 : Addr) (k124_k122_k110_k96 : ClassId) (k85 : ClassId) (EN : own_St Z A K cs) (OL0 : Old Z n0 h0) (G_A_b85 : Arv Z h0 b85 k85 .char (3 : Int32) [(.int (51 : Int32)), (.int (46 : Int32)), (.int (49 : Int32))] (.int (0 : Int32))) (G_E_b92 : Exa Z h0 b92 "java/lang/String") (G_A_b124_b122_b110_b96 : Arv Z h0 b124_b122_b110_b96 k124_k122_k110_k96 .byte (3 : Int32) [(.int (51 : Int32)), (.int (46 : Int32)), (.int (49 : Int32))] (.int (0 : Int32))) (G_F_b92_java_lang_String_value : Fld Z h0 b92 "java/lang/String" "value" "[B" (.ref b124_b122_b110_b96)) (G_F_b92_java_lang_String_coder : Fld Z h0 b92 "java/lang/String" "coder" "B" (.int (0 : Int32))) (gn_b92 : n0 ≤ b92) :
    MetFree l own_m9 (head1 (Jvm.Cond.code own_m9 prog_26_method_4_code 5 (some (.object "com/example/dongl/dongl/crypto/ProtocolVersion")) :: ws) ({ frames := 2, cells := 1, slots := 4, locals := 28 } : Room)) (fun a U => a = #[(.ref b92)] ∧ Z.Warmed39 U.vm ∧ U.heap = h0) (fun _ _ _ _ _ => True) (fun _ U o U' => ∃ v L, o = .returned v ∧ Q_rm16 Z p1 A K cs b85 b92 b124_b122_b110_b96 k124_k122_k110_k96 k85 h0 n0 v U'.heap L ∧ FrameEnd U o U' L ({ frames := 2, cells := 1, slots := 4, locals := 28 } : Room).cells ({ frames := 2, cells := 1, slots := 4, locals := 28 } : Room).slots) := by
  refine MetFree.of_bodySF (plainFor_of_name own_pn2) hisR ?_
  intro p e s m args below meth c s₁ Bd hml0 hP hK
  obtain ⟨rfl, hZ, hh⟩ := hP
  have hx := Bd.exec
  have hby := Bd.bytes
  have hml : c.maxLocals = 5 := hml0
  have hown : s.vm.findClass "com/example/dongl/dongl/crypto/ProtocolVersion" = some m.cls := findClass_of_methodNamed Bd.named
  have hnm := (name_of_methodNamed Bd.named Bd.method).1
  have X0 : Stand p l e ({ frames := 2, cells := 1, slots := 4, locals := 28 } : Room) s m #[(.ref b92)] below meth c s₁ [] 0 0 := Stand.of_body Bd
  have e0 : s₁.heap = h0 := by rw [← hh, Bd.state]; rfl
  have N0 := Fr.nil n0
  have pre0 : ∀ t, Steps p.tables e below (s₁.setTop (mkF m 0 #[.val (.ref b92), .unset, .unset, .unset, .unset] [])) t → Steps p.tables e below (s₁.setTop (entryFrame m #[(.ref b92)] 5)) t := fun t k => castTop (own_ef_rm16 m p1 A K cs b85 b92 b124_b122_b110_b96 k124_k122_k110_k96 k85) k
  have KK0 : Keep h0 h0 [] := Keep.refl _ _
  obtain ⟨_, _, ⟨T129, L129, k129, n129⟩, -, X129, ⟨Lc129, hQ129, l129, y129, z129⟩, st129⟩ := Jvm.LawKit.callS X0 hx (y := own_m8) hown (mvT hZ (hw _ (List.mem_of_getElem? (i := 36) rfl))) (mvT hZ (hw _ (List.mem_of_getElem? (i := 37) rfl))) (mvT hZ (hw _ (List.mem_of_getElem? (i := 31) rfl))) (mvT hZ (hw _ (List.mem_of_getElem? (i := 38) rfl))) (by decide) (backOf (W := 0) (rm17 l Z a0 hw [] h0 n0 p1 A K cs b85 b92 b124_b122_b110_b96 k124_k122_k110_k96 k85 EN OL0 G_A_b85 G_E_b92 G_A_b124_b122_b110_b96) hZ (hw _ (List.mem_of_getElem? (i := 38) rfl)) (hw _ (List.mem_of_getElem? (i := 31) rfl)) (by decide) (by decide)) (g := (mkF m 0 #[.val (.ref b92), .unset, .unset, .unset, .unset] [])) rfl (by rw [hml]; rfl) (argsL := []) (rest := []) (lenOf own_pd5 rfl) rfl (by show 2 * 0 + _ ≤ _; exact Nat.le_of_eq rfl) (hb hby own_d_prog_26_method_4_code_0) (fun _ _ => ⟨rfl, e0, (by decide : 0 + 1 ≤ _), (by decide : 0 + 4 ≤ _)⟩)
  dsimp only [Pt.U, Pt.locs, Pt.cells, Pt.slots] at X129 l129 y129 z129 st129 hQ129
  subst l129 y129 z129
  obtain ⟨b129_b127, rfl, N129q, K129c, ⟨gn_b129_b127, szc_b129_b127⟩, f129_0, f129_1⟩ := hQ129
  have N129 := Fr.app N0 N129q
  have lt_b85_b129_b127 : b85 < b129_b127 := Nat.lt_of_lt_of_le G_A_b85.lt szc_b129_b127
  have lt_b92_b129_b127 : b92 < b129_b127 := Nat.lt_of_lt_of_le G_E_b92.lt szc_b129_b127
  have lt_b124_b122_b110_b96_b129_b127 : b124_b122_b110_b96 < b129_b127 := Nat.lt_of_lt_of_le G_A_b124_b122_b110_b96.lt szc_b129_b127
  have sz_b129_b127 : h0.size ≤ b129_b127 := Nat.le_trans KK0.1 szc_b129_b127
  have OL129 : Old Z n0 T129.heap := OL0.keep K129c all0
  have KK129 : Keep h0 T129.heap [] := KK0.trans K129c all0
  obtain ⟨cl130, Ar130, -, Sz130, Nn130, -, -⟩ := (id f129_0)
  obtain ⟨cl131, Ar131, q131, Sz131, Nn131, Hh131, Gg131⟩ := (id f129_0)
  have hin131 : ¬ ((0 : Int32) < 0 ∨ cl131.slots.size ≤ ((0 : Int32)).toNatClampNeg) := inb_of Sz131 ⟨by decide, by decide⟩
  have hat131 : cl131.slots[((0 : Int32)).toNatClampNeg]? = some (.ref (A 0)) := Has.at Hh131 hin131 rfl
  obtain ⟨T132, X132, e132, st132⟩ := getF X129 hx hZ hown (host := "") (Or.inl (hw _ (List.mem_of_getElem? (i := 54) rfl))) Via.refl rfl (EN.2.1.2.2.2.1.ext OL129.2) (g := (mkF m 21 #[.val (.ref b92), .val (.ref b129_b127), .val (.int (4 : Int32)), .val (.int (0 : Int32)), .val (.ref (A 0))] [(.ref (A 0))])) rfl rfl (hb hby own_d_prog_26_method_4_code_21)
  have fx152 : Fld Z T129.heap b92 "java/lang/String" "value" "[B" (.ref b124_b122_b110_b96) := (G_F_b92_java_lang_String_value.keep K129c nin0)
  have fx153 : Arv Z T129.heap b124_b122_b110_b96 k124_k122_k110_k96 .byte (3 : Int32) [(.int (51 : Int32)), (.int (46 : Int32)), (.int (49 : Int32))] (.int (0 : Int32)) := (G_A_b124_b122_b110_b96.keep K129c nin0)
  have fx154 : Exa Z T129.heap b92 "java/lang/String" := (G_E_b92.keep K129c)
  have fx155 : Fld Z T129.heap b92 "java/lang/String" "coder" "B" (.int (0 : Int32)) := (G_F_b92_java_lang_String_coder.keep K129c nin0)
  obtain ⟨cq156, kq156, q156a, q156b, q156c⟩ := isOf hZ e132 (EN.2.1.2.2.2.2.1.ext OL129.2)
  obtain ⟨_, _, ⟨T156, L156, k156, n156⟩, -, X156, ⟨Lc156, hQ156, l156, y156, z156⟩, st156⟩ := X132.virtualBack hx (y := own_m0) (z := own_m0) hown (mvT hZ (hw _ (List.mem_of_getElem? (i := 56) rfl))) (mvT hZ (hw _ (List.mem_of_getElem? (i := 57) rfl))) (notFace_of_selects (args := #[]) (mvT hZ (hw _ (List.mem_of_getElem? (i := 59) rfl)))) (mvT hZ (hw _ (List.mem_of_getElem? (i := 59) rfl))) (mvT hZ (hw _ (List.mem_of_getElem? (i := 58) rfl))) (by decide) (backOf (W := 0) (rm18 l Z a0 hw [] T129.heap n0 p1 A K cs b92 b124_b122_b110_b96 k124_k122_k110_k96 EN OL129 fx152 fx153 fx154 fx155) hZ (hw _ (List.mem_of_getElem? (i := 60) rfl)) (hw _ (List.mem_of_getElem? (i := 3) rfl)) (by decide) (by decide)) q156a q156c (g := (mkF m 25 #[.val (.ref b92), .val (.ref b129_b127), .val (.int (4 : Int32)), .val (.int (0 : Int32)), .val (.ref (A 0))] [(.ref b92), (.ref (A 5))])) rfl (by rw [hml]; rfl) (Steps.refl _) (argsL := [(.ref b92)]) (rest := []) (lenOf own_pd7 rfl) rfl (by show 2 * 0 + _ ≤ _; exact Nat.le_of_eq rfl) (hb hby own_d_prog_26_method_4_code_25) (fun _ _ => ⟨rfl, e132, (by decide : 1 + 0 ≤ _), (by decide : 4 + 0 ≤ _)⟩)
  dsimp only [Pt.U, Pt.locs, Pt.cells, Pt.slots] at X156 l156 y156 z156 st156 hQ156
  subst l156 y156 z156
  obtain ⟨rfl, N156q, e156⟩ := hQ156
  have N156 := Fr.app N129 N156q
  obtain ⟨cl157, Ar157, q157, Sz157, Nn157, Hh157, Gg157⟩ := (id f129_0)
  have hin157 : ¬ ((1 : Int32) < 0 ∨ cl157.slots.size ≤ ((1 : Int32)).toNatClampNeg) := inb_of Sz157 ⟨by decide, by decide⟩
  have hat157 : cl157.slots[((1 : Int32)).toNatClampNeg]? = some (.ref (A 1)) := Has.at Hh157 hin157 rfl
  obtain ⟨T158, X158, e158, st158⟩ := getF X156 hx hZ hown (host := "") (Or.inl (hw _ (List.mem_of_getElem? (i := 54) rfl))) Via.refl e156 (EN.2.1.2.2.2.2.2.1.ext OL129.2) (g := (mkF m 21 #[.val (.ref b92), .val (.ref b129_b127), .val (.int (4 : Int32)), .val (.int (1 : Int32)), .val (.ref (A 1))] [(.ref (A 1))])) rfl rfl (hb hby own_d_prog_26_method_4_code_21)
  obtain ⟨cq179, kq179, q179a, q179b, q179c⟩ := isOf hZ e158 (EN.2.1.2.2.2.2.2.2.1.ext OL129.2)
  obtain ⟨_, _, ⟨T179, L179, k179, n179⟩, -, X179, ⟨Lc179, hQ179, l179, y179, z179⟩, st179⟩ := X158.virtualBack hx (y := own_m0) (z := own_m0) hown (mvT hZ (hw _ (List.mem_of_getElem? (i := 56) rfl))) (mvT hZ (hw _ (List.mem_of_getElem? (i := 57) rfl))) (notFace_of_selects (args := #[]) (mvT hZ (hw _ (List.mem_of_getElem? (i := 59) rfl)))) (mvT hZ (hw _ (List.mem_of_getElem? (i := 59) rfl))) (mvT hZ (hw _ (List.mem_of_getElem? (i := 58) rfl))) (by decide) (backOf (W := 0) (rm20 l Z a0 hw [] T129.heap n0 p1 A K cs b92 b124_b122_b110_b96 k124_k122_k110_k96 EN OL129 fx152 fx153 fx154 fx155 gn_b92) hZ (hw _ (List.mem_of_getElem? (i := 60) rfl)) (hw _ (List.mem_of_getElem? (i := 3) rfl)) (by decide) (by decide)) q179a q179c (g := (mkF m 25 #[.val (.ref b92), .val (.ref b129_b127), .val (.int (4 : Int32)), .val (.int (1 : Int32)), .val (.ref (A 1))] [(.ref b92), (.ref (A 6))])) rfl (by rw [hml]; rfl) (Steps.refl _) (argsL := [(.ref b92)]) (rest := []) (lenOf own_pd7 rfl) rfl (by show 2 * 0 + _ ≤ _; exact Nat.le_of_eq rfl) (hb hby own_d_prog_26_method_4_code_25) (fun _ _ => ⟨rfl, e158, (by decide : 1 + 0 ≤ _), (by decide : 4 + 0 ≤ _)⟩)
  dsimp only [Pt.U, Pt.locs, Pt.cells, Pt.slots] at X179 l179 y179 z179 st179 hQ179
  subst l179 y179 z179
  obtain ⟨rfl, N179q, e179⟩ := hQ179
  have N179 := Fr.app N156 N179q
  obtain ⟨fs, hr, hrun, hended, hW, hsame⟩ := X179.leave (v := some (.ref (A 1))) (fun h => by rw [Bd.returns] at h; cases h)
  refine ⟨_, _, pre0 _ ?_, hrun, hended, _, _, rfl, ?_, ⟨_, rfl⟩, hW, hsame.mono (by decide) (by decide)⟩
  · show Steps p.tables e below (s₁.setTop (mkF m 0 #[.val (.ref b92), .unset, .unset, .unset, .unset] [])) _
    refine st129 _ ?_
    show Steps p.tables e below (T129.setTop (mkF m 3 #[.val (.ref b92), .unset, .unset, .unset, .unset] [(.ref b129_b127)])) _
    refine XS.astoreN X129.here hx rfl (hb hby own_d_prog_26_method_4_code_3) rfl rfl (l' := #[.val (.ref b92), .val (.ref b129_b127), .unset, .unset, .unset]) rfl ?_
    show Steps p.tables e below (T129.setTop (mkF m 4 #[.val (.ref b92), .val (.ref b129_b127), .unset, .unset, .unset] [])) _
    refine XS.aloadN X129.here hx rfl (hb hby own_d_prog_26_method_4_code_4) rfl rfl ?_
    show Steps p.tables e below (T129.setTop (mkF m 5 #[.val (.ref b92), .val (.ref b129_b127), .unset, .unset, .unset] [(.ref b129_b127)])) _
    refine X129.arraylength hx (by exact Ar130.1) (State.isArrayOf_alike hZ.alike Ar130.2.1) (g := (mkF m 5 #[.val (.ref b92), .val (.ref b129_b127), .unset, .unset, .unset] [(.ref b129_b127)])) rfl rfl (hb hby own_d_prog_26_method_4_code_5) _ ?_
    rw [len_of Sz130 Nn130]
    show Steps p.tables e below (T129.setTop (mkF m 6 #[.val (.ref b92), .val (.ref b129_b127), .unset, .unset, .unset] [(.int (4 : Int32))])) _
    refine XS.istoreN X129.here hx rfl (hb hby own_d_prog_26_method_4_code_6) rfl (l' := #[.val (.ref b92), .val (.ref b129_b127), .val (.int (4 : Int32)), .unset, .unset]) rfl ?_
    show Steps p.tables e below (T129.setTop (mkF m 7 #[.val (.ref b92), .val (.ref b129_b127), .val (.int (4 : Int32)), .unset, .unset] [])) _
    refine XS.iconst X129.here hx rfl (hb hby own_d_prog_26_method_4_code_7) ?_
    show Steps p.tables e below (T129.setTop (mkF m 8 #[.val (.ref b92), .val (.ref b129_b127), .val (.int (4 : Int32)), .unset, .unset] [(.int (0 : Int32))])) _
    refine XS.istoreN X129.here hx rfl (hb hby own_d_prog_26_method_4_code_8) rfl (l' := #[.val (.ref b92), .val (.ref b129_b127), .val (.int (4 : Int32)), .val (.int (0 : Int32)), .unset]) rfl ?_
    show Steps p.tables e below (T129.setTop (mkF m 9 #[.val (.ref b92), .val (.ref b129_b127), .val (.int (4 : Int32)), .val (.int (0 : Int32)), .unset] [])) _
    refine XS.iloadN X129.here hx rfl (hb hby own_d_prog_26_method_4_code_9) rfl ?_
    show Steps p.tables e below (T129.setTop (mkF m 10 #[.val (.ref b92), .val (.ref b129_b127), .val (.int (4 : Int32)), .val (.int (0 : Int32)), .unset] [(.int (0 : Int32))])) _
    refine XS.iloadN X129.here hx rfl (hb hby own_d_prog_26_method_4_code_10) rfl ?_
    show Steps p.tables e below (T129.setTop (mkF m 11 #[.val (.ref b92), .val (.ref b129_b127), .val (.int (4 : Int32)), .val (.int (0 : Int32)), .unset] [(.int (4 : Int32)), (.int (0 : Int32))])) _
    refine XS.icmpNo X129.here hx rfl (hb hby own_d_prog_26_method_4_code_11) rfl (tlt (by decide : (0 : Int32) < (4 : Int32))).2.1 ?_
    show Steps p.tables e below (T129.setTop (mkF m 14 #[.val (.ref b92), .val (.ref b129_b127), .val (.int (4 : Int32)), .val (.int (0 : Int32)), .unset] [])) _
    refine XS.aloadN X129.here hx rfl (hb hby own_d_prog_26_method_4_code_14) rfl rfl ?_
    show Steps p.tables e below (T129.setTop (mkF m 15 #[.val (.ref b92), .val (.ref b129_b127), .val (.int (4 : Int32)), .val (.int (0 : Int32)), .unset] [(.ref b129_b127)])) _
    refine XS.iloadN X129.here hx rfl (hb hby own_d_prog_26_method_4_code_15) rfl ?_
    show Steps p.tables e below (T129.setTop (mkF m 16 #[.val (.ref b92), .val (.ref b129_b127), .val (.int (4 : Int32)), .val (.int (0 : Int32)), .unset] [(.int (0 : Int32)), (.ref b129_b127)])) _
    refine X129.aaload hx (j := (0 : Int32)) (v := (.ref (A 0))) (by exact Ar131.1) (State.isArrayOf_alike hZ.alike Ar131.2.1) rfl Ar131.2.2 hin131 hat131 (g := (mkF m 16 #[.val (.ref b92), .val (.ref b129_b127), .val (.int (4 : Int32)), .val (.int (0 : Int32)), .unset] [(.int (0 : Int32)), (.ref b129_b127)])) rfl rfl (hb hby own_d_prog_26_method_4_code_16) _ ?_
    show Steps p.tables e below (T129.setTop (mkF m 17 #[.val (.ref b92), .val (.ref b129_b127), .val (.int (4 : Int32)), .val (.int (0 : Int32)), .unset] [(.ref (A 0))])) _
    refine XS.astore X129.here hx rfl (hb hby own_d_prog_26_method_4_code_17) rfl rfl (l' := #[.val (.ref b92), .val (.ref b129_b127), .val (.int (4 : Int32)), .val (.int (0 : Int32)), .val (.ref (A 0))]) rfl ?_
    show Steps p.tables e below (T129.setTop (mkF m 19 #[.val (.ref b92), .val (.ref b129_b127), .val (.int (4 : Int32)), .val (.int (0 : Int32)), .val (.ref (A 0))] [])) _
    refine XS.aload X129.here hx rfl (hb hby own_d_prog_26_method_4_code_19) rfl rfl ?_
    show Steps p.tables e below (T129.setTop (mkF m 21 #[.val (.ref b92), .val (.ref b129_b127), .val (.int (4 : Int32)), .val (.int (0 : Int32)), .val (.ref (A 0))] [(.ref (A 0))])) _
    refine st132 _ ?_
    show Steps p.tables e below (T132.setTop (mkF m 24 #[.val (.ref b92), .val (.ref b129_b127), .val (.int (4 : Int32)), .val (.int (0 : Int32)), .val (.ref (A 0))] [(.ref (A 5))])) _
    refine XS.aloadN X132.here hx rfl (hb hby own_d_prog_26_method_4_code_24) rfl rfl ?_
    show Steps p.tables e below (T132.setTop (mkF m 25 #[.val (.ref b92), .val (.ref b129_b127), .val (.int (4 : Int32)), .val (.int (0 : Int32)), .val (.ref (A 0))] [(.ref b92), (.ref (A 5))])) _
    refine st156.trans ?_
    show Steps p.tables e below (T156.setTop (mkF m 28 #[.val (.ref b92), .val (.ref b129_b127), .val (.int (4 : Int32)), .val (.int (0 : Int32)), .val (.ref (A 0))] [(.int (0 : Int32))])) _
    refine XS.ifYes X156.here hx rfl (pc0 := 28) (pc' := 34) rfl (hb hby own_d_prog_26_method_4_code_28) rfl ((if0 _ _).trans (teq (by decide : (0 : Int32) = (0 : Int32))).1) (by decide) (by decide) ?_
    show Steps p.tables e below (T156.setTop (mkF m 34 #[.val (.ref b92), .val (.ref b129_b127), .val (.int (4 : Int32)), .val (.int (0 : Int32)), .val (.ref (A 0))] [])) _
    refine XS.iinc X156.here hx rfl (hb hby own_d_prog_26_method_4_code_34) rfl (l' := #[.val (.ref b92), .val (.ref b129_b127), .val (.int (4 : Int32)), .val (.int (1 : Int32)), .val (.ref (A 0))]) rfl ?_
    show Steps p.tables e below (T156.setTop (mkF m 37 #[.val (.ref b92), .val (.ref b129_b127), .val (.int (4 : Int32)), .val (.int (1 : Int32)), .val (.ref (A 0))] [])) _
    refine XS.goto X156.here hx rfl (pc0 := 37) (pc' := 9) rfl (hb hby own_d_prog_26_method_4_code_37) (by decide) (by decide) ?_
    show Steps p.tables e below (T156.setTop (mkF m 9 #[.val (.ref b92), .val (.ref b129_b127), .val (.int (4 : Int32)), .val (.int (1 : Int32)), .val (.ref (A 0))] [])) _
    refine XS.iloadN X156.here hx rfl (hb hby own_d_prog_26_method_4_code_9) rfl ?_
    show Steps p.tables e below (T156.setTop (mkF m 10 #[.val (.ref b92), .val (.ref b129_b127), .val (.int (4 : Int32)), .val (.int (1 : Int32)), .val (.ref (A 0))] [(.int (1 : Int32))])) _
    refine XS.iloadN X156.here hx rfl (hb hby own_d_prog_26_method_4_code_10) rfl ?_
    show Steps p.tables e below (T156.setTop (mkF m 11 #[.val (.ref b92), .val (.ref b129_b127), .val (.int (4 : Int32)), .val (.int (1 : Int32)), .val (.ref (A 0))] [(.int (4 : Int32)), (.int (1 : Int32))])) _
    refine XS.icmpNo X156.here hx rfl (hb hby own_d_prog_26_method_4_code_11) rfl (tlt (by decide : (1 : Int32) < (4 : Int32))).2.1 ?_
    show Steps p.tables e below (T156.setTop (mkF m 14 #[.val (.ref b92), .val (.ref b129_b127), .val (.int (4 : Int32)), .val (.int (1 : Int32)), .val (.ref (A 0))] [])) _
    refine XS.aloadN X156.here hx rfl (hb hby own_d_prog_26_method_4_code_14) rfl rfl ?_
    show Steps p.tables e below (T156.setTop (mkF m 15 #[.val (.ref b92), .val (.ref b129_b127), .val (.int (4 : Int32)), .val (.int (1 : Int32)), .val (.ref (A 0))] [(.ref b129_b127)])) _
    refine XS.iloadN X156.here hx rfl (hb hby own_d_prog_26_method_4_code_15) rfl ?_
    show Steps p.tables e below (T156.setTop (mkF m 16 #[.val (.ref b92), .val (.ref b129_b127), .val (.int (4 : Int32)), .val (.int (1 : Int32)), .val (.ref (A 0))] [(.int (1 : Int32)), (.ref b129_b127)])) _
    refine X156.aaload hx (j := (1 : Int32)) (v := (.ref (A 1))) (by rw [e156]; exact Ar157.1) (State.isArrayOf_alike hZ.alike Ar157.2.1) rfl Ar157.2.2 hin157 hat157 (g := (mkF m 16 #[.val (.ref b92), .val (.ref b129_b127), .val (.int (4 : Int32)), .val (.int (1 : Int32)), .val (.ref (A 0))] [(.int (1 : Int32)), (.ref b129_b127)])) rfl rfl (hb hby own_d_prog_26_method_4_code_16) _ ?_
    show Steps p.tables e below (T156.setTop (mkF m 17 #[.val (.ref b92), .val (.ref b129_b127), .val (.int (4 : Int32)), .val (.int (1 : Int32)), .val (.ref (A 0))] [(.ref (A 1))])) _
    refine XS.astore X156.here hx rfl (hb hby own_d_prog_26_method_4_code_17) rfl rfl (l' := #[.val (.ref b92), .val (.ref b129_b127), .val (.int (4 : Int32)), .val (.int (1 : Int32)), .val (.ref (A 1))]) rfl ?_
    show Steps p.tables e below (T156.setTop (mkF m 19 #[.val (.ref b92), .val (.ref b129_b127), .val (.int (4 : Int32)), .val (.int (1 : Int32)), .val (.ref (A 1))] [])) _
    refine XS.aload X156.here hx rfl (hb hby own_d_prog_26_method_4_code_19) rfl rfl ?_
    show Steps p.tables e below (T156.setTop (mkF m 21 #[.val (.ref b92), .val (.ref b129_b127), .val (.int (4 : Int32)), .val (.int (1 : Int32)), .val (.ref (A 1))] [(.ref (A 1))])) _
    refine st158 _ ?_
    show Steps p.tables e below (T158.setTop (mkF m 24 #[.val (.ref b92), .val (.ref b129_b127), .val (.int (4 : Int32)), .val (.int (1 : Int32)), .val (.ref (A 1))] [(.ref (A 6))])) _
    refine XS.aloadN X158.here hx rfl (hb hby own_d_prog_26_method_4_code_24) rfl rfl ?_
    show Steps p.tables e below (T158.setTop (mkF m 25 #[.val (.ref b92), .val (.ref b129_b127), .val (.int (4 : Int32)), .val (.int (1 : Int32)), .val (.ref (A 1))] [(.ref b92), (.ref (A 6))])) _
    refine st179.trans ?_
    show Steps p.tables e below (T179.setTop (mkF m 28 #[.val (.ref b92), .val (.ref b129_b127), .val (.int (4 : Int32)), .val (.int (1 : Int32)), .val (.ref (A 1))] [(.int (1 : Int32))])) _
    refine XS.ifNo X179.here hx rfl (hb hby own_d_prog_26_method_4_code_28) rfl ((if0 _ _).trans (feq (by decide : ¬ ((1 : Int32) = (0 : Int32)))).1) ?_
    show Steps p.tables e below (T179.setTop (mkF m 31 #[.val (.ref b92), .val (.ref b129_b127), .val (.int (4 : Int32)), .val (.int (1 : Int32)), .val (.ref (A 1))] [])) _
    refine XS.aload X179.here hx rfl (hb hby own_d_prog_26_method_4_code_31) rfl rfl ?_
    show Steps p.tables e below (T179.setTop (mkF m 33 #[.val (.ref b92), .val (.ref b129_b127), .val (.int (4 : Int32)), .val (.int (1 : Int32)), .val (.ref (A 1))] [(.ref (A 1))])) _
    exact retOut X179 hx Bd.returns rfl (Or.inr (Or.inr (Or.inr (Or.inr ⟨rfl, rfl, rfl⟩)))) (hb hby own_d_prog_26_method_4_code_33) hr
  · show Q_rm16 Z p1 A K cs b85 b92 b124_b122_b110_b96 k124_k122_k110_k96 k85 h0 n0 _ T179.heap _
    rw [e179]
    exact ⟨b129_b127, rfl, N179, KK129, ⟨gn_b129_b127, sz_b129_b127⟩, f129_0, f129_1⟩
theorem own_ef_rm22 (m : MethodId) (p1 : Int32) (A : Nat → Addr) (K : Nat → ClassId) (cs : Int32)  : entryFrame m #[(.ref (A 1))] 1 = mkF m 0 #[.val (.ref (A 1))] [] := by first | (simp [entryFrame, mkF, argsToLocals, Value.category, maxLocals]; done) | rfl
set_option maxRecDepth 65536 in
set_option maxHeartbeats 40000000 in
theorem rm22 (l : Launch) (Z : State) (a0 : Array Value) (hw : ∀ d ∈ tables_1, d.before a0 Z = true) (ws : List Jvm.Cond) (h0 : Heap) (n0 : Nat) (p1 : Int32) (A : Nat → Addr) (K : Nat → ClassId) (cs : Int32)  (EN : own_St Z A K cs) (OL0 : Old Z n0 h0) :
    MetFree l own_m2 (head1 (Jvm.Cond.code own_m2 prog_26_method_5_code 1 (some (.object "java/lang/String")) :: ws) ({ frames := 0, cells := 0, slots := 0, locals := 0 } : Room)) (fun a U => a = #[(.ref (A 1))] ∧ Z.Warmed39 U.vm ∧ U.heap = h0) (fun _ _ _ _ _ => True) (fun _ U o U' => ∃ v L, o = .returned v ∧ (PQ (some (.ref (A 6))) h0 n0) v U'.heap L ∧ FrameEnd U o U' L ({ frames := 0, cells := 0, slots := 0, locals := 0 } : Room).cells ({ frames := 0, cells := 0, slots := 0, locals := 0 } : Room).slots) := by
  refine MetFree.of_bodySF (plainFor_of_name own_pn2) hisR ?_
  intro p e s m args below meth c s₁ Bd hml0 hP hK
  obtain ⟨rfl, hZ, hh⟩ := hP
  have hx := Bd.exec
  have hby := Bd.bytes
  have hml : c.maxLocals = 1 := hml0
  have hown : s.vm.findClass "com/example/dongl/dongl/crypto/ProtocolVersion" = some m.cls := findClass_of_methodNamed Bd.named
  have hnm := (name_of_methodNamed Bd.named Bd.method).1
  have X0 : Stand p l e ({ frames := 0, cells := 0, slots := 0, locals := 0 } : Room) s m #[(.ref (A 1))] below meth c s₁ [] 0 0 := Stand.of_body Bd
  have e0 : s₁.heap = h0 := by rw [← hh, Bd.state]; rfl
  have N0 := Fr.nil n0
  have pre0 : ∀ t, Steps p.tables e below (s₁.setTop (mkF m 0 #[.val (.ref (A 1))] [])) t → Steps p.tables e below (s₁.setTop (entryFrame m #[(.ref (A 1))] 1)) t := fun t k => castTop (own_ef_rm22 m p1 A K cs ) k
  have KK0 : Keep h0 h0 [] := Keep.refl _ _
  obtain ⟨T182, X182, e182, st182⟩ := getF X0 hx hZ hown (host := "") (Or.inl (hw _ (List.mem_of_getElem? (i := 54) rfl))) Via.refl e0 (EN.2.1.2.2.2.2.2.1.ext OL0.2) (g := (mkF m 1 #[.val (.ref (A 1))] [(.ref (A 1))])) rfl rfl (hb hby own_d_prog_26_method_5_code_1)
  obtain ⟨fs, hr, hrun, hended, hW, hsame⟩ := X182.leave (v := some (.ref (A 6))) (fun h => by rw [Bd.returns] at h; cases h)
  refine ⟨_, _, pre0 _ ?_, hrun, hended, _, _, rfl, ?_, ⟨_, rfl⟩, hW, hsame.mono (by decide) (by decide)⟩
  · show Steps p.tables e below (s₁.setTop (mkF m 0 #[.val (.ref (A 1))] [])) _
    refine XS.aloadN X0.here hx rfl (hb hby own_d_prog_26_method_5_code_0) rfl rfl ?_
    show Steps p.tables e below (s₁.setTop (mkF m 1 #[.val (.ref (A 1))] [(.ref (A 1))])) _
    refine st182 _ ?_
    show Steps p.tables e below (T182.setTop (mkF m 4 #[.val (.ref (A 1))] [(.ref (A 6))])) _
    exact retOut X182 hx Bd.returns rfl (Or.inr (Or.inr (Or.inr (Or.inr ⟨rfl, rfl, rfl⟩)))) (hb hby own_d_prog_26_method_5_code_4) hr
  · show PQ (some (.ref (A 6))) h0 n0 _ T182.heap _
    rw [e182]
    exact ⟨rfl, N0, rfl⟩
def Q_rm26 (Z : State) (p1 : Int32) (A : Nat → Addr) (K : Nat → ClassId) (cs : Int32) (b189 : Addr) (b200 : Addr) (k189 : ClassId) (k200 : ClassId) (h0 : Heap) (n0 : Nat) (v : Option Value) (h : Heap) (L : List Loc) : Prop := v = (some (.int (3 : Int32))) ∧ Fr n0 L ∧ Keep h0 h [b200] ∧ (Arv Z h b200 k200 .byte (3 : Int32) [(.int (51 : Int32)), (.int (46 : Int32)), (.int (50 : Int32))] (.int (0 : Int32)))
theorem own_ef_rm26 (m : MethodId) (p1 : Int32) (A : Nat → Addr) (K : Nat → ClassId) (cs : Int32)  (b189 : Addr) (b200 : Addr) (k189 : ClassId) (k200 : ClassId) : entryFrame m #[(.ref b189), (.int (0 : Int32)), (.ref b200), (.int (0 : Int32)), (.int (3 : Int32))] 7 = mkF m 0 #[.val (.ref b189), .val (.int (0 : Int32)), .val (.ref b200), .val (.int (0 : Int32)), .val (.int (3 : Int32)), .unset, .unset] [] := by first | (simp [entryFrame, mkF, argsToLocals, Value.category, maxLocals]; done) | rfl
set_option maxRecDepth 65536 in
set_option maxHeartbeats 40000000 in
theorem rm26 (l : Launch) (Z : State) (a0 : Array Value) (hw : ∀ d ∈ tables_1, d.before a0 Z = true) (ws : List Jvm.Cond) (h0 : Heap) (n0 : Nat) (p1 : Int32) (A : Nat → Addr) (K : Nat → ClassId) (cs : Int32)  (b189 : Addr) (b200 : Addr) (k189 : ClassId) (k200 : ClassId) (EN : own_St Z A K cs) (OL0 : Old Z n0 h0) (G_A_b189 : Arv Z h0 b189 k189 .char (3 : Int32) [(.int (51 : Int32)), (.int (46 : Int32)), (.int (50 : Int32))] (.int (0 : Int32))) (G_A_b200 : Arv Z h0 b200 k200 .byte (3 : Int32) [] (.int (0 : Int32))) (ne_b189_b200 : b189 ≠ b200) (gn_b200 : n0 ≤ b200) :
    MetFree l own_m3 (head1 (Jvm.Cond.code own_m3 jdk_52_method_21_code 7 (some .int) :: ws) ({ frames := 0, cells := 0, slots := 0, locals := 0 } : Room)) (fun a U => a = #[(.ref b189), (.int (0 : Int32)), (.ref b200), (.int (0 : Int32)), (.int (3 : Int32))] ∧ Z.Warmed39 U.vm ∧ U.heap = h0) (fun _ _ _ _ _ => True) (fun _ U o U' => ∃ v L, o = .returned v ∧ Q_rm26 Z p1 A K cs b189 b200 k189 k200 h0 n0 v U'.heap L ∧ FrameEnd U o U' L ({ frames := 0, cells := 0, slots := 0, locals := 0 } : Room).cells ({ frames := 0, cells := 0, slots := 0, locals := 0 } : Room).slots) := by
  refine MetFree.of_bodySF (plainFor_of_name own_pn0) hisR ?_
  intro p e s m args below meth c s₁ Bd hml0 hP hK
  obtain ⟨rfl, hZ, hh⟩ := hP
  have hx := Bd.exec
  have hby := Bd.bytes
  have hml : c.maxLocals = 7 := hml0
  have hown : s.vm.findClass "java/lang/StringUTF16" = some m.cls := findClass_of_methodNamed Bd.named
  have hnm := (name_of_methodNamed Bd.named Bd.method).1
  have X0 : Stand p l e ({ frames := 0, cells := 0, slots := 0, locals := 0 } : Room) s m #[(.ref b189), (.int (0 : Int32)), (.ref b200), (.int (0 : Int32)), (.int (3 : Int32))] below meth c s₁ [] 0 0 := Stand.of_body Bd
  have e0 : s₁.heap = h0 := by rw [← hh, Bd.state]; rfl
  have N0 := Fr.nil n0
  have pre0 : ∀ t, Steps p.tables e below (s₁.setTop (mkF m 0 #[.val (.ref b189), .val (.int (0 : Int32)), .val (.ref b200), .val (.int (0 : Int32)), .val (.int (3 : Int32)), .unset, .unset] [])) t → Steps p.tables e below (s₁.setTop (entryFrame m #[(.ref b189), (.int (0 : Int32)), (.ref b200), (.int (0 : Int32)), (.int (3 : Int32))] 7)) t := fun t k => castTop (own_ef_rm26 m p1 A K cs b189 b200 k189 k200) k
  have KK0 : Keep h0 h0 [b200] := Keep.refl _ _
  obtain ⟨cl201, Ar201, q201, Sz201, Nn201, Hh201, Gg201⟩ := (id G_A_b189)
  have hin201 : ¬ ((0 : Int32) < 0 ∨ cl201.slots.size ≤ ((0 : Int32)).toNatClampNeg) := inb_of Sz201 ⟨by decide, by decide⟩
  have hat201 : cl201.slots[((0 : Int32)).toNatClampNeg]? = some (.int (51 : Int32)) := Has.at Hh201 hin201 rfl
  obtain ⟨cl202, Ar202, q202, Sz202, Nn202, Hh202, Gg202⟩ := (id (Arv.pad G_A_b200 (pad_rep [] (.int (0 : Int32)) 1)))
  have hin202 : ¬ ((0 : Int32) < 0 ∨ cl202.slots.size ≤ ((0 : Int32)).toNatClampNeg) := inb_of Sz202 ⟨by decide, by decide⟩
  obtain ⟨T203, h203, X203, e203, W203, st203⟩ := stB X0 hx hZ e0 Ar202 (j := (0 : Int32)) hin202 (g := (mkF m 31 #[.val (.ref b189), .val (.int (0 : Int32)), .val (.ref b200), .val (.int (0 : Int32)), .val (.int (3 : Int32)), .val (.int (0 : Int32)), .val (.int (51 : Int32))] [(.int (51 : Int32)), (.int (0 : Int32)), (.ref b200)])) rfl rfl (hb hby own_d_jdk_52_method_21_code_31)
  have NF203 := Fr.snoc X203 N0 gn_b200
  have OL203 : Old Z n0 h203 := OL0.wr W203 gn_b200
  have KK203 : Keep h0 h203 [b200] := KK0.wr W203 (Or.inl (List.mem_of_getElem? (i := 0) rfl))
  have V203 : Arv Z h203 b200 k200 .byte (3 : Int32) [(.int (51 : Int32))] (.int (0 : Int32)) := Arv.set Ar202 q202 Sz202 Nn202 Hh202 Gg202 (fits_nar_byte _) W203 0 (by decide) (by decide)
  have fx204 : Arv Z h203 b189 k189 .char (3 : Int32) [(.int (51 : Int32)), (.int (46 : Int32)), (.int (50 : Int32))] (.int (0 : Int32)) := (G_A_b189.other W203 ne_b189_b200)
  obtain ⟨cl205, Ar205, q205, Sz205, Nn205, Hh205, Gg205⟩ := (id fx204)
  have hin205 : ¬ ((1 : Int32) < 0 ∨ cl205.slots.size ≤ ((1 : Int32)).toNatClampNeg) := inb_of Sz205 ⟨by decide, by decide⟩
  have hat205 : cl205.slots[((1 : Int32)).toNatClampNeg]? = some (.int (46 : Int32)) := Has.at Hh205 hin205 rfl
  obtain ⟨cl206, Ar206, q206, Sz206, Nn206, Hh206, Gg206⟩ := (id (Arv.pad V203 (pad_rep [(.int (51 : Int32))] (.int (0 : Int32)) 1)))
  have hin206 : ¬ ((1 : Int32) < 0 ∨ cl206.slots.size ≤ ((1 : Int32)).toNatClampNeg) := inb_of Sz206 ⟨by decide, by decide⟩
  obtain ⟨T207, h207, X207, e207, W207, st207⟩ := stB X203 hx hZ e203 Ar206 (j := (1 : Int32)) hin206 (g := (mkF m 31 #[.val (.ref b189), .val (.int (1 : Int32)), .val (.ref b200), .val (.int (1 : Int32)), .val (.int (3 : Int32)), .val (.int (1 : Int32)), .val (.int (46 : Int32))] [(.int (46 : Int32)), (.int (1 : Int32)), (.ref b200)])) rfl rfl (hb hby own_d_jdk_52_method_21_code_31)
  have NF207 := Fr.snoc X207 NF203 gn_b200
  have OL207 : Old Z n0 h207 := OL203.wr W207 gn_b200
  have KK207 : Keep h0 h207 [b200] := KK203.wr W207 (Or.inl (List.mem_of_getElem? (i := 0) rfl))
  have V207 : Arv Z h207 b200 k200 .byte (3 : Int32) [(.int (51 : Int32)), (.int (46 : Int32))] (.int (0 : Int32)) := Arv.set Ar206 q206 Sz206 Nn206 Hh206 Gg206 (fits_nar_byte _) W207 1 (by decide) (by decide)
  have fx208 : Arv Z h207 b189 k189 .char (3 : Int32) [(.int (51 : Int32)), (.int (46 : Int32)), (.int (50 : Int32))] (.int (0 : Int32)) := (fx204.other W207 ne_b189_b200)
  obtain ⟨cl209, Ar209, q209, Sz209, Nn209, Hh209, Gg209⟩ := (id fx208)
  have hin209 : ¬ ((2 : Int32) < 0 ∨ cl209.slots.size ≤ ((2 : Int32)).toNatClampNeg) := inb_of Sz209 ⟨by decide, by decide⟩
  have hat209 : cl209.slots[((2 : Int32)).toNatClampNeg]? = some (.int (50 : Int32)) := Has.at Hh209 hin209 rfl
  obtain ⟨cl210, Ar210, q210, Sz210, Nn210, Hh210, Gg210⟩ := (id (Arv.pad V207 (pad_rep [(.int (51 : Int32)), (.int (46 : Int32))] (.int (0 : Int32)) 1)))
  have hin210 : ¬ ((2 : Int32) < 0 ∨ cl210.slots.size ≤ ((2 : Int32)).toNatClampNeg) := inb_of Sz210 ⟨by decide, by decide⟩
  obtain ⟨T211, h211, X211, e211, W211, st211⟩ := stB X207 hx hZ e207 Ar210 (j := (2 : Int32)) hin210 (g := (mkF m 31 #[.val (.ref b189), .val (.int (2 : Int32)), .val (.ref b200), .val (.int (2 : Int32)), .val (.int (3 : Int32)), .val (.int (2 : Int32)), .val (.int (50 : Int32))] [(.int (50 : Int32)), (.int (2 : Int32)), (.ref b200)])) rfl rfl (hb hby own_d_jdk_52_method_21_code_31)
  have NF211 := Fr.snoc X211 NF207 gn_b200
  have OL211 : Old Z n0 h211 := OL207.wr W211 gn_b200
  have KK211 : Keep h0 h211 [b200] := KK207.wr W211 (Or.inl (List.mem_of_getElem? (i := 0) rfl))
  have V211 : Arv Z h211 b200 k200 .byte (3 : Int32) [(.int (51 : Int32)), (.int (46 : Int32)), (.int (50 : Int32))] (.int (0 : Int32)) := Arv.set Ar210 q210 Sz210 Nn210 Hh210 Gg210 (fits_nar_byte _) W211 2 (by decide) (by decide)
  obtain ⟨fs, hr, hrun, hended, hW, hsame⟩ := X211.leave (v := some (.int (3 : Int32))) (fun h => by rw [Bd.returns] at h; cases h)
  refine ⟨_, _, pre0 _ ?_, hrun, hended, _, _, rfl, ?_, ⟨_, rfl⟩, hW, hsame.mono (by decide) (by decide)⟩
  · show Steps p.tables e below (s₁.setTop (mkF m 0 #[.val (.ref b189), .val (.int (0 : Int32)), .val (.ref b200), .val (.int (0 : Int32)), .val (.int (3 : Int32)), .unset, .unset] [])) _
    refine XS.iconst X0.here hx rfl (hb hby own_d_jdk_52_method_21_code_0) ?_
    show Steps p.tables e below (s₁.setTop (mkF m 1 #[.val (.ref b189), .val (.int (0 : Int32)), .val (.ref b200), .val (.int (0 : Int32)), .val (.int (3 : Int32)), .unset, .unset] [(.int (0 : Int32))])) _
    refine XS.istore X0.here hx rfl (hb hby own_d_jdk_52_method_21_code_1) rfl (l' := #[.val (.ref b189), .val (.int (0 : Int32)), .val (.ref b200), .val (.int (0 : Int32)), .val (.int (3 : Int32)), .val (.int (0 : Int32)), .unset]) rfl ?_
    show Steps p.tables e below (s₁.setTop (mkF m 3 #[.val (.ref b189), .val (.int (0 : Int32)), .val (.ref b200), .val (.int (0 : Int32)), .val (.int (3 : Int32)), .val (.int (0 : Int32)), .unset] [])) _
    refine XS.iload X0.here hx rfl (hb hby own_d_jdk_52_method_21_code_3) rfl ?_
    show Steps p.tables e below (s₁.setTop (mkF m 5 #[.val (.ref b189), .val (.int (0 : Int32)), .val (.ref b200), .val (.int (0 : Int32)), .val (.int (3 : Int32)), .val (.int (0 : Int32)), .unset] [(.int (0 : Int32))])) _
    refine XS.iload X0.here hx rfl (hb hby own_d_jdk_52_method_21_code_5) rfl ?_
    show Steps p.tables e below (s₁.setTop (mkF m 7 #[.val (.ref b189), .val (.int (0 : Int32)), .val (.ref b200), .val (.int (0 : Int32)), .val (.int (3 : Int32)), .val (.int (0 : Int32)), .unset] [(.int (3 : Int32)), (.int (0 : Int32))])) _
    refine XS.icmpNo X0.here hx rfl (hb hby own_d_jdk_52_method_21_code_7) rfl (tlt (by decide : (0 : Int32) < (3 : Int32))).2.1 ?_
    show Steps p.tables e below (s₁.setTop (mkF m 10 #[.val (.ref b189), .val (.int (0 : Int32)), .val (.ref b200), .val (.int (0 : Int32)), .val (.int (3 : Int32)), .val (.int (0 : Int32)), .unset] [])) _
    refine XS.aloadN X0.here hx rfl (hb hby own_d_jdk_52_method_21_code_10) rfl rfl ?_
    show Steps p.tables e below (s₁.setTop (mkF m 11 #[.val (.ref b189), .val (.int (0 : Int32)), .val (.ref b200), .val (.int (0 : Int32)), .val (.int (3 : Int32)), .val (.int (0 : Int32)), .unset] [(.ref b189)])) _
    refine XS.iloadN X0.here hx rfl (hb hby own_d_jdk_52_method_21_code_11) rfl ?_
    show Steps p.tables e below (s₁.setTop (mkF m 12 #[.val (.ref b189), .val (.int (0 : Int32)), .val (.ref b200), .val (.int (0 : Int32)), .val (.int (3 : Int32)), .val (.int (0 : Int32)), .unset] [(.int (0 : Int32)), (.ref b189)])) _
    refine X0.caload hx (j := (0 : Int32)) (v := (.int (51 : Int32))) (by rw [e0]; exact Ar201.1) (State.isArrayOf_alike hZ.alike Ar201.2.1) Ar201.2.2 hin201 hat201 (g := (mkF m 12 #[.val (.ref b189), .val (.int (0 : Int32)), .val (.ref b200), .val (.int (0 : Int32)), .val (.int (3 : Int32)), .val (.int (0 : Int32)), .unset] [(.int (0 : Int32)), (.ref b189)])) rfl rfl (hb hby own_d_jdk_52_method_21_code_12) _ ?_
    show Steps p.tables e below (s₁.setTop (mkF m 13 #[.val (.ref b189), .val (.int (0 : Int32)), .val (.ref b200), .val (.int (0 : Int32)), .val (.int (3 : Int32)), .val (.int (0 : Int32)), .unset] [(.int (51 : Int32))])) _
    refine XS.istore X0.here hx rfl (hb hby own_d_jdk_52_method_21_code_13) rfl (l' := #[.val (.ref b189), .val (.int (0 : Int32)), .val (.ref b200), .val (.int (0 : Int32)), .val (.int (3 : Int32)), .val (.int (0 : Int32)), .val (.int (51 : Int32))]) rfl ?_
    show Steps p.tables e below (s₁.setTop (mkF m 15 #[.val (.ref b189), .val (.int (0 : Int32)), .val (.ref b200), .val (.int (0 : Int32)), .val (.int (3 : Int32)), .val (.int (0 : Int32)), .val (.int (51 : Int32))] [])) _
    refine XS.iload X0.here hx rfl (hb hby own_d_jdk_52_method_21_code_15) rfl ?_
    show Steps p.tables e below (s₁.setTop (mkF m 17 #[.val (.ref b189), .val (.int (0 : Int32)), .val (.ref b200), .val (.int (0 : Int32)), .val (.int (3 : Int32)), .val (.int (0 : Int32)), .val (.int (51 : Int32))] [(.int (51 : Int32))])) _
    refine XS.sipush X0.here hx rfl (hb hby own_d_jdk_52_method_21_code_17) ?_
    show Steps p.tables e below (s₁.setTop (mkF m 20 #[.val (.ref b189), .val (.int (0 : Int32)), .val (.ref b200), .val (.int (0 : Int32)), .val (.int (3 : Int32)), .val (.int (0 : Int32)), .val (.int (51 : Int32))] [(.int (255 : Int32)), (.int (51 : Int32))])) _
    refine XS.icmpYes X0.here hx rfl (pc0 := 20) (pc' := 26) rfl (hb hby own_d_jdk_52_method_21_code_20) rfl (flt (by decide : ¬ ((255 : Int32) < (51 : Int32)))).2.2.2 (by decide) (by decide) ?_
    show Steps p.tables e below (s₁.setTop (mkF m 26 #[.val (.ref b189), .val (.int (0 : Int32)), .val (.ref b200), .val (.int (0 : Int32)), .val (.int (3 : Int32)), .val (.int (0 : Int32)), .val (.int (51 : Int32))] [])) _
    refine XS.aloadN X0.here hx rfl (hb hby own_d_jdk_52_method_21_code_26) rfl rfl ?_
    show Steps p.tables e below (s₁.setTop (mkF m 27 #[.val (.ref b189), .val (.int (0 : Int32)), .val (.ref b200), .val (.int (0 : Int32)), .val (.int (3 : Int32)), .val (.int (0 : Int32)), .val (.int (51 : Int32))] [(.ref b200)])) _
    refine XS.iloadN X0.here hx rfl (hb hby own_d_jdk_52_method_21_code_27) rfl ?_
    show Steps p.tables e below (s₁.setTop (mkF m 28 #[.val (.ref b189), .val (.int (0 : Int32)), .val (.ref b200), .val (.int (0 : Int32)), .val (.int (3 : Int32)), .val (.int (0 : Int32)), .val (.int (51 : Int32))] [(.int (0 : Int32)), (.ref b200)])) _
    refine XS.iload X0.here hx rfl (hb hby own_d_jdk_52_method_21_code_28) rfl ?_
    show Steps p.tables e below (s₁.setTop (mkF m 30 #[.val (.ref b189), .val (.int (0 : Int32)), .val (.ref b200), .val (.int (0 : Int32)), .val (.int (3 : Int32)), .val (.int (0 : Int32)), .val (.int (51 : Int32))] [(.int (51 : Int32)), (.int (0 : Int32)), (.ref b200)])) _
    refine XS.i2b X0.here hx rfl (hb hby own_d_jdk_52_method_21_code_30) rfl ?_
    show Steps p.tables e below (s₁.setTop (mkF m 31 #[.val (.ref b189), .val (.int (0 : Int32)), .val (.ref b200), .val (.int (0 : Int32)), .val (.int (3 : Int32)), .val (.int (0 : Int32)), .val (.int (51 : Int32))] [(.int (51 : Int32)), (.int (0 : Int32)), (.ref b200)])) _
    refine st203 _ ?_
    show Steps p.tables e below (T203.setTop (mkF m 32 #[.val (.ref b189), .val (.int (0 : Int32)), .val (.ref b200), .val (.int (0 : Int32)), .val (.int (3 : Int32)), .val (.int (0 : Int32)), .val (.int (51 : Int32))] [])) _
    refine XS.iinc X203.here hx rfl (hb hby own_d_jdk_52_method_21_code_32) rfl (l' := #[.val (.ref b189), .val (.int (1 : Int32)), .val (.ref b200), .val (.int (0 : Int32)), .val (.int (3 : Int32)), .val (.int (0 : Int32)), .val (.int (51 : Int32))]) rfl ?_
    show Steps p.tables e below (T203.setTop (mkF m 35 #[.val (.ref b189), .val (.int (1 : Int32)), .val (.ref b200), .val (.int (0 : Int32)), .val (.int (3 : Int32)), .val (.int (0 : Int32)), .val (.int (51 : Int32))] [])) _
    refine XS.iinc X203.here hx rfl (hb hby own_d_jdk_52_method_21_code_35) rfl (l' := #[.val (.ref b189), .val (.int (1 : Int32)), .val (.ref b200), .val (.int (1 : Int32)), .val (.int (3 : Int32)), .val (.int (0 : Int32)), .val (.int (51 : Int32))]) rfl ?_
    show Steps p.tables e below (T203.setTop (mkF m 38 #[.val (.ref b189), .val (.int (1 : Int32)), .val (.ref b200), .val (.int (1 : Int32)), .val (.int (3 : Int32)), .val (.int (0 : Int32)), .val (.int (51 : Int32))] [])) _
    refine XS.iinc X203.here hx rfl (hb hby own_d_jdk_52_method_21_code_38) rfl (l' := #[.val (.ref b189), .val (.int (1 : Int32)), .val (.ref b200), .val (.int (1 : Int32)), .val (.int (3 : Int32)), .val (.int (1 : Int32)), .val (.int (51 : Int32))]) rfl ?_
    show Steps p.tables e below (T203.setTop (mkF m 41 #[.val (.ref b189), .val (.int (1 : Int32)), .val (.ref b200), .val (.int (1 : Int32)), .val (.int (3 : Int32)), .val (.int (1 : Int32)), .val (.int (51 : Int32))] [])) _
    refine XS.goto X203.here hx rfl (pc0 := 41) (pc' := 3) rfl (hb hby own_d_jdk_52_method_21_code_41) (by decide) (by decide) ?_
    show Steps p.tables e below (T203.setTop (mkF m 3 #[.val (.ref b189), .val (.int (1 : Int32)), .val (.ref b200), .val (.int (1 : Int32)), .val (.int (3 : Int32)), .val (.int (1 : Int32)), .val (.int (51 : Int32))] [])) _
    refine XS.iload X203.here hx rfl (hb hby own_d_jdk_52_method_21_code_3) rfl ?_
    show Steps p.tables e below (T203.setTop (mkF m 5 #[.val (.ref b189), .val (.int (1 : Int32)), .val (.ref b200), .val (.int (1 : Int32)), .val (.int (3 : Int32)), .val (.int (1 : Int32)), .val (.int (51 : Int32))] [(.int (1 : Int32))])) _
    refine XS.iload X203.here hx rfl (hb hby own_d_jdk_52_method_21_code_5) rfl ?_
    show Steps p.tables e below (T203.setTop (mkF m 7 #[.val (.ref b189), .val (.int (1 : Int32)), .val (.ref b200), .val (.int (1 : Int32)), .val (.int (3 : Int32)), .val (.int (1 : Int32)), .val (.int (51 : Int32))] [(.int (3 : Int32)), (.int (1 : Int32))])) _
    refine XS.icmpNo X203.here hx rfl (hb hby own_d_jdk_52_method_21_code_7) rfl (tlt (by decide : (1 : Int32) < (3 : Int32))).2.1 ?_
    show Steps p.tables e below (T203.setTop (mkF m 10 #[.val (.ref b189), .val (.int (1 : Int32)), .val (.ref b200), .val (.int (1 : Int32)), .val (.int (3 : Int32)), .val (.int (1 : Int32)), .val (.int (51 : Int32))] [])) _
    refine XS.aloadN X203.here hx rfl (hb hby own_d_jdk_52_method_21_code_10) rfl rfl ?_
    show Steps p.tables e below (T203.setTop (mkF m 11 #[.val (.ref b189), .val (.int (1 : Int32)), .val (.ref b200), .val (.int (1 : Int32)), .val (.int (3 : Int32)), .val (.int (1 : Int32)), .val (.int (51 : Int32))] [(.ref b189)])) _
    refine XS.iloadN X203.here hx rfl (hb hby own_d_jdk_52_method_21_code_11) rfl ?_
    show Steps p.tables e below (T203.setTop (mkF m 12 #[.val (.ref b189), .val (.int (1 : Int32)), .val (.ref b200), .val (.int (1 : Int32)), .val (.int (3 : Int32)), .val (.int (1 : Int32)), .val (.int (51 : Int32))] [(.int (1 : Int32)), (.ref b189)])) _
    refine X203.caload hx (j := (1 : Int32)) (v := (.int (46 : Int32))) (by rw [e203]; exact Ar205.1) (State.isArrayOf_alike hZ.alike Ar205.2.1) Ar205.2.2 hin205 hat205 (g := (mkF m 12 #[.val (.ref b189), .val (.int (1 : Int32)), .val (.ref b200), .val (.int (1 : Int32)), .val (.int (3 : Int32)), .val (.int (1 : Int32)), .val (.int (51 : Int32))] [(.int (1 : Int32)), (.ref b189)])) rfl rfl (hb hby own_d_jdk_52_method_21_code_12) _ ?_
    show Steps p.tables e below (T203.setTop (mkF m 13 #[.val (.ref b189), .val (.int (1 : Int32)), .val (.ref b200), .val (.int (1 : Int32)), .val (.int (3 : Int32)), .val (.int (1 : Int32)), .val (.int (51 : Int32))] [(.int (46 : Int32))])) _
    refine XS.istore X203.here hx rfl (hb hby own_d_jdk_52_method_21_code_13) rfl (l' := #[.val (.ref b189), .val (.int (1 : Int32)), .val (.ref b200), .val (.int (1 : Int32)), .val (.int (3 : Int32)), .val (.int (1 : Int32)), .val (.int (46 : Int32))]) rfl ?_
    show Steps p.tables e below (T203.setTop (mkF m 15 #[.val (.ref b189), .val (.int (1 : Int32)), .val (.ref b200), .val (.int (1 : Int32)), .val (.int (3 : Int32)), .val (.int (1 : Int32)), .val (.int (46 : Int32))] [])) _
    refine XS.iload X203.here hx rfl (hb hby own_d_jdk_52_method_21_code_15) rfl ?_
    show Steps p.tables e below (T203.setTop (mkF m 17 #[.val (.ref b189), .val (.int (1 : Int32)), .val (.ref b200), .val (.int (1 : Int32)), .val (.int (3 : Int32)), .val (.int (1 : Int32)), .val (.int (46 : Int32))] [(.int (46 : Int32))])) _
    refine XS.sipush X203.here hx rfl (hb hby own_d_jdk_52_method_21_code_17) ?_
    show Steps p.tables e below (T203.setTop (mkF m 20 #[.val (.ref b189), .val (.int (1 : Int32)), .val (.ref b200), .val (.int (1 : Int32)), .val (.int (3 : Int32)), .val (.int (1 : Int32)), .val (.int (46 : Int32))] [(.int (255 : Int32)), (.int (46 : Int32))])) _
    refine XS.icmpYes X203.here hx rfl (pc0 := 20) (pc' := 26) rfl (hb hby own_d_jdk_52_method_21_code_20) rfl (flt (by decide : ¬ ((255 : Int32) < (46 : Int32)))).2.2.2 (by decide) (by decide) ?_
    show Steps p.tables e below (T203.setTop (mkF m 26 #[.val (.ref b189), .val (.int (1 : Int32)), .val (.ref b200), .val (.int (1 : Int32)), .val (.int (3 : Int32)), .val (.int (1 : Int32)), .val (.int (46 : Int32))] [])) _
    refine XS.aloadN X203.here hx rfl (hb hby own_d_jdk_52_method_21_code_26) rfl rfl ?_
    show Steps p.tables e below (T203.setTop (mkF m 27 #[.val (.ref b189), .val (.int (1 : Int32)), .val (.ref b200), .val (.int (1 : Int32)), .val (.int (3 : Int32)), .val (.int (1 : Int32)), .val (.int (46 : Int32))] [(.ref b200)])) _
    refine XS.iloadN X203.here hx rfl (hb hby own_d_jdk_52_method_21_code_27) rfl ?_
    show Steps p.tables e below (T203.setTop (mkF m 28 #[.val (.ref b189), .val (.int (1 : Int32)), .val (.ref b200), .val (.int (1 : Int32)), .val (.int (3 : Int32)), .val (.int (1 : Int32)), .val (.int (46 : Int32))] [(.int (1 : Int32)), (.ref b200)])) _
    refine XS.iload X203.here hx rfl (hb hby own_d_jdk_52_method_21_code_28) rfl ?_
    show Steps p.tables e below (T203.setTop (mkF m 30 #[.val (.ref b189), .val (.int (1 : Int32)), .val (.ref b200), .val (.int (1 : Int32)), .val (.int (3 : Int32)), .val (.int (1 : Int32)), .val (.int (46 : Int32))] [(.int (46 : Int32)), (.int (1 : Int32)), (.ref b200)])) _
    refine XS.i2b X203.here hx rfl (hb hby own_d_jdk_52_method_21_code_30) rfl ?_
    show Steps p.tables e below (T203.setTop (mkF m 31 #[.val (.ref b189), .val (.int (1 : Int32)), .val (.ref b200), .val (.int (1 : Int32)), .val (.int (3 : Int32)), .val (.int (1 : Int32)), .val (.int (46 : Int32))] [(.int (46 : Int32)), (.int (1 : Int32)), (.ref b200)])) _
    refine st207 _ ?_
    show Steps p.tables e below (T207.setTop (mkF m 32 #[.val (.ref b189), .val (.int (1 : Int32)), .val (.ref b200), .val (.int (1 : Int32)), .val (.int (3 : Int32)), .val (.int (1 : Int32)), .val (.int (46 : Int32))] [])) _
    refine XS.iinc X207.here hx rfl (hb hby own_d_jdk_52_method_21_code_32) rfl (l' := #[.val (.ref b189), .val (.int (2 : Int32)), .val (.ref b200), .val (.int (1 : Int32)), .val (.int (3 : Int32)), .val (.int (1 : Int32)), .val (.int (46 : Int32))]) rfl ?_
    show Steps p.tables e below (T207.setTop (mkF m 35 #[.val (.ref b189), .val (.int (2 : Int32)), .val (.ref b200), .val (.int (1 : Int32)), .val (.int (3 : Int32)), .val (.int (1 : Int32)), .val (.int (46 : Int32))] [])) _
    refine XS.iinc X207.here hx rfl (hb hby own_d_jdk_52_method_21_code_35) rfl (l' := #[.val (.ref b189), .val (.int (2 : Int32)), .val (.ref b200), .val (.int (2 : Int32)), .val (.int (3 : Int32)), .val (.int (1 : Int32)), .val (.int (46 : Int32))]) rfl ?_
    show Steps p.tables e below (T207.setTop (mkF m 38 #[.val (.ref b189), .val (.int (2 : Int32)), .val (.ref b200), .val (.int (2 : Int32)), .val (.int (3 : Int32)), .val (.int (1 : Int32)), .val (.int (46 : Int32))] [])) _
    refine XS.iinc X207.here hx rfl (hb hby own_d_jdk_52_method_21_code_38) rfl (l' := #[.val (.ref b189), .val (.int (2 : Int32)), .val (.ref b200), .val (.int (2 : Int32)), .val (.int (3 : Int32)), .val (.int (2 : Int32)), .val (.int (46 : Int32))]) rfl ?_
    show Steps p.tables e below (T207.setTop (mkF m 41 #[.val (.ref b189), .val (.int (2 : Int32)), .val (.ref b200), .val (.int (2 : Int32)), .val (.int (3 : Int32)), .val (.int (2 : Int32)), .val (.int (46 : Int32))] [])) _
    refine XS.goto X207.here hx rfl (pc0 := 41) (pc' := 3) rfl (hb hby own_d_jdk_52_method_21_code_41) (by decide) (by decide) ?_
    show Steps p.tables e below (T207.setTop (mkF m 3 #[.val (.ref b189), .val (.int (2 : Int32)), .val (.ref b200), .val (.int (2 : Int32)), .val (.int (3 : Int32)), .val (.int (2 : Int32)), .val (.int (46 : Int32))] [])) _
    refine XS.iload X207.here hx rfl (hb hby own_d_jdk_52_method_21_code_3) rfl ?_
    show Steps p.tables e below (T207.setTop (mkF m 5 #[.val (.ref b189), .val (.int (2 : Int32)), .val (.ref b200), .val (.int (2 : Int32)), .val (.int (3 : Int32)), .val (.int (2 : Int32)), .val (.int (46 : Int32))] [(.int (2 : Int32))])) _
    refine XS.iload X207.here hx rfl (hb hby own_d_jdk_52_method_21_code_5) rfl ?_
    show Steps p.tables e below (T207.setTop (mkF m 7 #[.val (.ref b189), .val (.int (2 : Int32)), .val (.ref b200), .val (.int (2 : Int32)), .val (.int (3 : Int32)), .val (.int (2 : Int32)), .val (.int (46 : Int32))] [(.int (3 : Int32)), (.int (2 : Int32))])) _
    refine XS.icmpNo X207.here hx rfl (hb hby own_d_jdk_52_method_21_code_7) rfl (tlt (by decide : (2 : Int32) < (3 : Int32))).2.1 ?_
    show Steps p.tables e below (T207.setTop (mkF m 10 #[.val (.ref b189), .val (.int (2 : Int32)), .val (.ref b200), .val (.int (2 : Int32)), .val (.int (3 : Int32)), .val (.int (2 : Int32)), .val (.int (46 : Int32))] [])) _
    refine XS.aloadN X207.here hx rfl (hb hby own_d_jdk_52_method_21_code_10) rfl rfl ?_
    show Steps p.tables e below (T207.setTop (mkF m 11 #[.val (.ref b189), .val (.int (2 : Int32)), .val (.ref b200), .val (.int (2 : Int32)), .val (.int (3 : Int32)), .val (.int (2 : Int32)), .val (.int (46 : Int32))] [(.ref b189)])) _
    refine XS.iloadN X207.here hx rfl (hb hby own_d_jdk_52_method_21_code_11) rfl ?_
    show Steps p.tables e below (T207.setTop (mkF m 12 #[.val (.ref b189), .val (.int (2 : Int32)), .val (.ref b200), .val (.int (2 : Int32)), .val (.int (3 : Int32)), .val (.int (2 : Int32)), .val (.int (46 : Int32))] [(.int (2 : Int32)), (.ref b189)])) _
    refine X207.caload hx (j := (2 : Int32)) (v := (.int (50 : Int32))) (by rw [e207]; exact Ar209.1) (State.isArrayOf_alike hZ.alike Ar209.2.1) Ar209.2.2 hin209 hat209 (g := (mkF m 12 #[.val (.ref b189), .val (.int (2 : Int32)), .val (.ref b200), .val (.int (2 : Int32)), .val (.int (3 : Int32)), .val (.int (2 : Int32)), .val (.int (46 : Int32))] [(.int (2 : Int32)), (.ref b189)])) rfl rfl (hb hby own_d_jdk_52_method_21_code_12) _ ?_
    show Steps p.tables e below (T207.setTop (mkF m 13 #[.val (.ref b189), .val (.int (2 : Int32)), .val (.ref b200), .val (.int (2 : Int32)), .val (.int (3 : Int32)), .val (.int (2 : Int32)), .val (.int (46 : Int32))] [(.int (50 : Int32))])) _
    refine XS.istore X207.here hx rfl (hb hby own_d_jdk_52_method_21_code_13) rfl (l' := #[.val (.ref b189), .val (.int (2 : Int32)), .val (.ref b200), .val (.int (2 : Int32)), .val (.int (3 : Int32)), .val (.int (2 : Int32)), .val (.int (50 : Int32))]) rfl ?_
    show Steps p.tables e below (T207.setTop (mkF m 15 #[.val (.ref b189), .val (.int (2 : Int32)), .val (.ref b200), .val (.int (2 : Int32)), .val (.int (3 : Int32)), .val (.int (2 : Int32)), .val (.int (50 : Int32))] [])) _
    refine XS.iload X207.here hx rfl (hb hby own_d_jdk_52_method_21_code_15) rfl ?_
    show Steps p.tables e below (T207.setTop (mkF m 17 #[.val (.ref b189), .val (.int (2 : Int32)), .val (.ref b200), .val (.int (2 : Int32)), .val (.int (3 : Int32)), .val (.int (2 : Int32)), .val (.int (50 : Int32))] [(.int (50 : Int32))])) _
    refine XS.sipush X207.here hx rfl (hb hby own_d_jdk_52_method_21_code_17) ?_
    show Steps p.tables e below (T207.setTop (mkF m 20 #[.val (.ref b189), .val (.int (2 : Int32)), .val (.ref b200), .val (.int (2 : Int32)), .val (.int (3 : Int32)), .val (.int (2 : Int32)), .val (.int (50 : Int32))] [(.int (255 : Int32)), (.int (50 : Int32))])) _
    refine XS.icmpYes X207.here hx rfl (pc0 := 20) (pc' := 26) rfl (hb hby own_d_jdk_52_method_21_code_20) rfl (flt (by decide : ¬ ((255 : Int32) < (50 : Int32)))).2.2.2 (by decide) (by decide) ?_
    show Steps p.tables e below (T207.setTop (mkF m 26 #[.val (.ref b189), .val (.int (2 : Int32)), .val (.ref b200), .val (.int (2 : Int32)), .val (.int (3 : Int32)), .val (.int (2 : Int32)), .val (.int (50 : Int32))] [])) _
    refine XS.aloadN X207.here hx rfl (hb hby own_d_jdk_52_method_21_code_26) rfl rfl ?_
    show Steps p.tables e below (T207.setTop (mkF m 27 #[.val (.ref b189), .val (.int (2 : Int32)), .val (.ref b200), .val (.int (2 : Int32)), .val (.int (3 : Int32)), .val (.int (2 : Int32)), .val (.int (50 : Int32))] [(.ref b200)])) _
    refine XS.iloadN X207.here hx rfl (hb hby own_d_jdk_52_method_21_code_27) rfl ?_
    show Steps p.tables e below (T207.setTop (mkF m 28 #[.val (.ref b189), .val (.int (2 : Int32)), .val (.ref b200), .val (.int (2 : Int32)), .val (.int (3 : Int32)), .val (.int (2 : Int32)), .val (.int (50 : Int32))] [(.int (2 : Int32)), (.ref b200)])) _
    refine XS.iload X207.here hx rfl (hb hby own_d_jdk_52_method_21_code_28) rfl ?_
    show Steps p.tables e below (T207.setTop (mkF m 30 #[.val (.ref b189), .val (.int (2 : Int32)), .val (.ref b200), .val (.int (2 : Int32)), .val (.int (3 : Int32)), .val (.int (2 : Int32)), .val (.int (50 : Int32))] [(.int (50 : Int32)), (.int (2 : Int32)), (.ref b200)])) _
    refine XS.i2b X207.here hx rfl (hb hby own_d_jdk_52_method_21_code_30) rfl ?_
    show Steps p.tables e below (T207.setTop (mkF m 31 #[.val (.ref b189), .val (.int (2 : Int32)), .val (.ref b200), .val (.int (2 : Int32)), .val (.int (3 : Int32)), .val (.int (2 : Int32)), .val (.int (50 : Int32))] [(.int (50 : Int32)), (.int (2 : Int32)), (.ref b200)])) _
    refine st211 _ ?_
    show Steps p.tables e below (T211.setTop (mkF m 32 #[.val (.ref b189), .val (.int (2 : Int32)), .val (.ref b200), .val (.int (2 : Int32)), .val (.int (3 : Int32)), .val (.int (2 : Int32)), .val (.int (50 : Int32))] [])) _
    refine XS.iinc X211.here hx rfl (hb hby own_d_jdk_52_method_21_code_32) rfl (l' := #[.val (.ref b189), .val (.int (3 : Int32)), .val (.ref b200), .val (.int (2 : Int32)), .val (.int (3 : Int32)), .val (.int (2 : Int32)), .val (.int (50 : Int32))]) rfl ?_
    show Steps p.tables e below (T211.setTop (mkF m 35 #[.val (.ref b189), .val (.int (3 : Int32)), .val (.ref b200), .val (.int (2 : Int32)), .val (.int (3 : Int32)), .val (.int (2 : Int32)), .val (.int (50 : Int32))] [])) _
    refine XS.iinc X211.here hx rfl (hb hby own_d_jdk_52_method_21_code_35) rfl (l' := #[.val (.ref b189), .val (.int (3 : Int32)), .val (.ref b200), .val (.int (3 : Int32)), .val (.int (3 : Int32)), .val (.int (2 : Int32)), .val (.int (50 : Int32))]) rfl ?_
    show Steps p.tables e below (T211.setTop (mkF m 38 #[.val (.ref b189), .val (.int (3 : Int32)), .val (.ref b200), .val (.int (3 : Int32)), .val (.int (3 : Int32)), .val (.int (2 : Int32)), .val (.int (50 : Int32))] [])) _
    refine XS.iinc X211.here hx rfl (hb hby own_d_jdk_52_method_21_code_38) rfl (l' := #[.val (.ref b189), .val (.int (3 : Int32)), .val (.ref b200), .val (.int (3 : Int32)), .val (.int (3 : Int32)), .val (.int (3 : Int32)), .val (.int (50 : Int32))]) rfl ?_
    show Steps p.tables e below (T211.setTop (mkF m 41 #[.val (.ref b189), .val (.int (3 : Int32)), .val (.ref b200), .val (.int (3 : Int32)), .val (.int (3 : Int32)), .val (.int (3 : Int32)), .val (.int (50 : Int32))] [])) _
    refine XS.goto X211.here hx rfl (pc0 := 41) (pc' := 3) rfl (hb hby own_d_jdk_52_method_21_code_41) (by decide) (by decide) ?_
    show Steps p.tables e below (T211.setTop (mkF m 3 #[.val (.ref b189), .val (.int (3 : Int32)), .val (.ref b200), .val (.int (3 : Int32)), .val (.int (3 : Int32)), .val (.int (3 : Int32)), .val (.int (50 : Int32))] [])) _
    refine XS.iload X211.here hx rfl (hb hby own_d_jdk_52_method_21_code_3) rfl ?_
    show Steps p.tables e below (T211.setTop (mkF m 5 #[.val (.ref b189), .val (.int (3 : Int32)), .val (.ref b200), .val (.int (3 : Int32)), .val (.int (3 : Int32)), .val (.int (3 : Int32)), .val (.int (50 : Int32))] [(.int (3 : Int32))])) _
    refine XS.iload X211.here hx rfl (hb hby own_d_jdk_52_method_21_code_5) rfl ?_
    show Steps p.tables e below (T211.setTop (mkF m 7 #[.val (.ref b189), .val (.int (3 : Int32)), .val (.ref b200), .val (.int (3 : Int32)), .val (.int (3 : Int32)), .val (.int (3 : Int32)), .val (.int (50 : Int32))] [(.int (3 : Int32)), (.int (3 : Int32))])) _
    refine XS.icmpYes X211.here hx rfl (pc0 := 7) (pc' := 44) rfl (hb hby own_d_jdk_52_method_21_code_7) rfl (flt (by decide : ¬ ((3 : Int32) < (3 : Int32)))).2.1 (by decide) (by decide) ?_
    show Steps p.tables e below (T211.setTop (mkF m 44 #[.val (.ref b189), .val (.int (3 : Int32)), .val (.ref b200), .val (.int (3 : Int32)), .val (.int (3 : Int32)), .val (.int (3 : Int32)), .val (.int (50 : Int32))] [])) _
    refine XS.iload X211.here hx rfl (hb hby own_d_jdk_52_method_21_code_44) rfl ?_
    show Steps p.tables e below (T211.setTop (mkF m 46 #[.val (.ref b189), .val (.int (3 : Int32)), .val (.ref b200), .val (.int (3 : Int32)), .val (.int (3 : Int32)), .val (.int (3 : Int32)), .val (.int (50 : Int32))] [(.int (3 : Int32))])) _
    exact retI X211 hx Bd.returns (hb hby own_d_jdk_52_method_21_code_46) hr
  · show Q_rm26 Z p1 A K cs b189 b200 k189 k200 h0 n0 _ T211.heap _
    rw [e211]
    exact ⟨rfl, NF211, KK211, V211⟩
def Q_rm25 (Z : State) (p1 : Int32) (A : Nat → Addr) (K : Nat → ClassId) (cs : Int32) (b189 : Addr) (b196 : Addr) (k189 : ClassId) (h0 : Heap) (n0 : Nat) (v : Option Value) (h : Heap) (L : List Loc) : Prop := ∃ b200 : Addr, ∃ k200 : ClassId, v = (some (.ref b200)) ∧ Fr n0 L ∧ Keep h0 h [] ∧ (n0 ≤ b200 ∧ h0.size ≤ b200) ∧ (Arv Z h b200 k200 .byte (3 : Int32) [(.int (51 : Int32)), (.int (46 : Int32)), (.int (50 : Int32))] (.int (0 : Int32)))
theorem own_ef_rm25 (m : MethodId) (p1 : Int32) (A : Nat → Addr) (K : Nat → ClassId) (cs : Int32)  (b189 : Addr) (b196 : Addr) (k189 : ClassId) : entryFrame m #[(.ref b189), (.int (0 : Int32)), (.int (3 : Int32))] 6 = mkF m 0 #[.val (.ref b189), .val (.int (0 : Int32)), .val (.int (3 : Int32)), .unset, .unset, .unset] [] := by first | (simp [entryFrame, mkF, argsToLocals, Value.category, maxLocals]; done) | rfl
set_option maxRecDepth 65536 in
set_option maxHeartbeats 40000000 in
theorem rm25 (l : Launch) (Z : State) (a0 : Array Value) (hw : ∀ d ∈ tables_1, d.before a0 Z = true) (ws : List Jvm.Cond) (h0 : Heap) (n0 : Nat) (p1 : Int32) (A : Nat → Addr) (K : Nat → ClassId) (cs : Int32)  (b189 : Addr) (b196 : Addr) (k189 : ClassId) (EN : own_St Z A K cs) (OL0 : Old Z n0 h0) (G_A_b189 : Arv Z h0 b189 k189 .char (3 : Int32) [(.int (51 : Int32)), (.int (46 : Int32)), (.int (50 : Int32))] (.int (0 : Int32))) (G_E_b196 : Exa Z h0 b196 "java/lang/String") :
    MetFree l own_m4 (head1 (Jvm.Cond.code own_m4 jdk_52_method_16_code 6 (some (.array .byte)) :: ws) ({ frames := 1, cells := 1, slots := 3, locals := 18 } : Room)) (fun a U => a = #[(.ref b189), (.int (0 : Int32)), (.int (3 : Int32))] ∧ Z.Warmed39 U.vm ∧ U.heap = h0) (fun _ _ _ _ _ => True) (fun _ U o U' => ∃ v L, o = .returned v ∧ Q_rm25 Z p1 A K cs b189 b196 k189 h0 n0 v U'.heap L ∧ FrameEnd U o U' L ({ frames := 1, cells := 1, slots := 3, locals := 18 } : Room).cells ({ frames := 1, cells := 1, slots := 3, locals := 18 } : Room).slots) := by
  refine MetFree.of_bodySF (plainFor_of_name own_pn0) hisR ?_
  intro p e s m args below meth c s₁ Bd hml0 hP hK
  obtain ⟨rfl, hZ, hh⟩ := hP
  have hx := Bd.exec
  have hby := Bd.bytes
  have hml : c.maxLocals = 6 := hml0
  have hown : s.vm.findClass "java/lang/StringUTF16" = some m.cls := findClass_of_methodNamed Bd.named
  have hnm := (name_of_methodNamed Bd.named Bd.method).1
  have X0 : Stand p l e ({ frames := 1, cells := 1, slots := 3, locals := 18 } : Room) s m #[(.ref b189), (.int (0 : Int32)), (.int (3 : Int32))] below meth c s₁ [] 0 0 := Stand.of_body Bd
  have e0 : s₁.heap = h0 := by rw [← hh, Bd.state]; rfl
  have N0 := Fr.nil n0
  have pre0 : ∀ t, Steps p.tables e below (s₁.setTop (mkF m 0 #[.val (.ref b189), .val (.int (0 : Int32)), .val (.int (3 : Int32)), .unset, .unset, .unset] [])) t → Steps p.tables e below (s₁.setTop (entryFrame m #[(.ref b189), (.int (0 : Int32)), (.int (3 : Int32))] 6)) t := fun t k => castTop (own_ef_rm25 m p1 A K cs b189 b196 k189) k
  have KK0 : Keep h0 h0 [] := Keep.refl _ _
  obtain ⟨T200, h200, k200, X200, e200, E200, A200, st200⟩ := newP X0 hx hZ (hw _ (List.mem_of_getElem? (i := 19) rfl)) e0 (g := (mkF m 1 #[.val (.ref b189), .val (.int (0 : Int32)), .val (.int (3 : Int32)), .unset, .unset, .unset] [(.int (3 : Int32))])) rfl (hb hby own_d_jdk_52_method_16_code_1) rfl (by decide) (cap := 3) (by decide) (by decide) (by decide) (by decide)
  obtain ⟨b200, g200⟩ : ∃ z, z = h0.size := ⟨_, rfl⟩
  rw [← g200] at A200 st200
  have gn_b200 : n0 ≤ b200 := Nat.le_trans (OL0.1 ▸ OL0.2.1) (Nat.le_of_eq g200.symm)
  have sz_b200 : h0.size ≤ b200 := Nat.le_trans KK0.1 (Nat.le_of_eq g200.symm)
  have lt_b189_b200 : b189 < b200 := Nat.lt_of_lt_of_le G_A_b189.lt (Nat.le_of_eq g200.symm)
  have lt_b196_b200 : b196 < b200 := Nat.lt_of_lt_of_le G_E_b196.lt (Nat.le_of_eq g200.symm)
  have OL200 : Old Z n0 h200 := OL0.ext E200
  have KK200 : Keep h0 h200 [] := KK0.ext E200
  have V200 : Arv Z h200 b200 k200 .byte (3 : Int32) [] (.int (0 : Int32)) := Arv.new A200 (by decide)
  have fx212 : Arv Z h200 b189 k189 .char (3 : Int32) [(.int (51 : Int32)), (.int (46 : Int32)), (.int (50 : Int32))] (.int (0 : Int32)) := (G_A_b189.ext E200)
  obtain ⟨_, _, ⟨T213, L213, k213, n213⟩, -, X213, ⟨Lc213, hQ213, l213, y213, z213⟩, st213⟩ := Jvm.LawKit.callS X200 hx (y := own_m3) hown (mvT hZ (hw _ (List.mem_of_getElem? (i := 20) rfl))) (mvT hZ (hw _ (List.mem_of_getElem? (i := 21) rfl))) (mvT hZ (hw _ (List.mem_of_getElem? (i := 17) rfl))) (mvT hZ (hw _ (List.mem_of_getElem? (i := 22) rfl))) (by decide) (backOf (W := 0) (rm26 l Z a0 hw [] h200 n0 p1 A K cs b189 b200 k189 k200 EN OL200 fx212 V200 (Nat.ne_of_lt lt_b189_b200) gn_b200) hZ (hw _ (List.mem_of_getElem? (i := 22) rfl)) (hw _ (List.mem_of_getElem? (i := 17) rfl)) (by decide) (by decide)) (g := (mkF m 9 #[.val (.ref b189), .val (.int (0 : Int32)), .val (.int (3 : Int32)), .val (.ref b200), .unset, .unset] [(.int (3 : Int32)), (.int (0 : Int32)), (.ref b200), (.int (0 : Int32)), (.ref b189)])) rfl (by rw [hml]; rfl) (argsL := [(.ref b189), (.int (0 : Int32)), (.ref b200), (.int (0 : Int32)), (.int (3 : Int32))]) (rest := []) (lenOf own_pd0 rfl) rfl (by show 2 * 0 + _ ≤ _; exact Nat.le_of_eq rfl) (hb hby own_d_jdk_52_method_16_code_9) (fun _ _ => ⟨rfl, e200, (by decide : 1 + 0 ≤ _), (by decide : 3 + 0 ≤ _)⟩)
  dsimp only [Pt.U, Pt.locs, Pt.cells, Pt.slots] at X213 l213 y213 z213 st213 hQ213
  subst l213 y213 z213
  obtain ⟨rfl, N213q, K213c, f213_0⟩ := hQ213
  have N213 := Fr.app N0 N213q
  have OL213 : Old Z n0 T213.heap := OL200.keep K213c (allS gn_b200 all0)
  have KK213 : Keep h0 T213.heap [] := KK200.trans K213c (allS (Or.inr sz_b200) all0)
  obtain ⟨fs, hr, hrun, hended, hW, hsame⟩ := X213.leave (v := some (.ref b200)) (fun h => by rw [Bd.returns] at h; cases h)
  refine ⟨_, _, pre0 _ ?_, hrun, hended, _, _, rfl, ?_, ⟨_, rfl⟩, hW, hsame.mono (by decide) (by decide)⟩
  · show Steps p.tables e below (s₁.setTop (mkF m 0 #[.val (.ref b189), .val (.int (0 : Int32)), .val (.int (3 : Int32)), .unset, .unset, .unset] [])) _
    refine XS.iloadN X0.here hx rfl (hb hby own_d_jdk_52_method_16_code_0) rfl ?_
    show Steps p.tables e below (s₁.setTop (mkF m 1 #[.val (.ref b189), .val (.int (0 : Int32)), .val (.int (3 : Int32)), .unset, .unset, .unset] [(.int (3 : Int32))])) _
    refine st200 _ ?_
    show Steps p.tables e below (T200.setTop (mkF m 3 #[.val (.ref b189), .val (.int (0 : Int32)), .val (.int (3 : Int32)), .unset, .unset, .unset] [(.ref b200)])) _
    refine XS.astoreN X200.here hx rfl (hb hby own_d_jdk_52_method_16_code_3) rfl rfl (l' := #[.val (.ref b189), .val (.int (0 : Int32)), .val (.int (3 : Int32)), .val (.ref b200), .unset, .unset]) rfl ?_
    show Steps p.tables e below (T200.setTop (mkF m 4 #[.val (.ref b189), .val (.int (0 : Int32)), .val (.int (3 : Int32)), .val (.ref b200), .unset, .unset] [])) _
    refine XS.aloadN X200.here hx rfl (hb hby own_d_jdk_52_method_16_code_4) rfl rfl ?_
    show Steps p.tables e below (T200.setTop (mkF m 5 #[.val (.ref b189), .val (.int (0 : Int32)), .val (.int (3 : Int32)), .val (.ref b200), .unset, .unset] [(.ref b189)])) _
    refine XS.iloadN X200.here hx rfl (hb hby own_d_jdk_52_method_16_code_5) rfl ?_
    show Steps p.tables e below (T200.setTop (mkF m 6 #[.val (.ref b189), .val (.int (0 : Int32)), .val (.int (3 : Int32)), .val (.ref b200), .unset, .unset] [(.int (0 : Int32)), (.ref b189)])) _
    refine XS.aloadN X200.here hx rfl (hb hby own_d_jdk_52_method_16_code_6) rfl rfl ?_
    show Steps p.tables e below (T200.setTop (mkF m 7 #[.val (.ref b189), .val (.int (0 : Int32)), .val (.int (3 : Int32)), .val (.ref b200), .unset, .unset] [(.ref b200), (.int (0 : Int32)), (.ref b189)])) _
    refine XS.iconst X200.here hx rfl (hb hby own_d_jdk_52_method_16_code_7) ?_
    show Steps p.tables e below (T200.setTop (mkF m 8 #[.val (.ref b189), .val (.int (0 : Int32)), .val (.int (3 : Int32)), .val (.ref b200), .unset, .unset] [(.int (0 : Int32)), (.ref b200), (.int (0 : Int32)), (.ref b189)])) _
    refine XS.iloadN X200.here hx rfl (hb hby own_d_jdk_52_method_16_code_8) rfl ?_
    show Steps p.tables e below (T200.setTop (mkF m 9 #[.val (.ref b189), .val (.int (0 : Int32)), .val (.int (3 : Int32)), .val (.ref b200), .unset, .unset] [(.int (3 : Int32)), (.int (0 : Int32)), (.ref b200), (.int (0 : Int32)), (.ref b189)])) _
    refine st213 _ ?_
    show Steps p.tables e below (T213.setTop (mkF m 12 #[.val (.ref b189), .val (.int (0 : Int32)), .val (.int (3 : Int32)), .val (.ref b200), .unset, .unset] [(.int (3 : Int32))])) _
    refine XS.istore X213.here hx rfl (hb hby own_d_jdk_52_method_16_code_12) rfl (l' := #[.val (.ref b189), .val (.int (0 : Int32)), .val (.int (3 : Int32)), .val (.ref b200), .val (.int (3 : Int32)), .unset]) rfl ?_
    show Steps p.tables e below (T213.setTop (mkF m 14 #[.val (.ref b189), .val (.int (0 : Int32)), .val (.int (3 : Int32)), .val (.ref b200), .val (.int (3 : Int32)), .unset] [])) _
    refine XS.iload X213.here hx rfl (hb hby own_d_jdk_52_method_16_code_14) rfl ?_
    show Steps p.tables e below (T213.setTop (mkF m 16 #[.val (.ref b189), .val (.int (0 : Int32)), .val (.int (3 : Int32)), .val (.ref b200), .val (.int (3 : Int32)), .unset] [(.int (3 : Int32))])) _
    refine XS.iloadN X213.here hx rfl (hb hby own_d_jdk_52_method_16_code_16) rfl ?_
    show Steps p.tables e below (T213.setTop (mkF m 17 #[.val (.ref b189), .val (.int (0 : Int32)), .val (.int (3 : Int32)), .val (.ref b200), .val (.int (3 : Int32)), .unset] [(.int (3 : Int32)), (.int (3 : Int32))])) _
    refine XS.icmpYes X213.here hx rfl (pc0 := 17) (pc' := 57) rfl (hb hby own_d_jdk_52_method_16_code_17) rfl (teq (by decide : (3 : Int32) = (3 : Int32))).1 (by decide) (by decide) ?_
    show Steps p.tables e below (T213.setTop (mkF m 57 #[.val (.ref b189), .val (.int (0 : Int32)), .val (.int (3 : Int32)), .val (.ref b200), .val (.int (3 : Int32)), .unset] [])) _
    refine XS.aloadN X213.here hx rfl (hb hby own_d_jdk_52_method_16_code_57) rfl rfl ?_
    show Steps p.tables e below (T213.setTop (mkF m 58 #[.val (.ref b189), .val (.int (0 : Int32)), .val (.int (3 : Int32)), .val (.ref b200), .val (.int (3 : Int32)), .unset] [(.ref b200)])) _
    exact retOut X213 hx Bd.returns rfl (Or.inr (Or.inr (Or.inr (Or.inr ⟨rfl, rfl, rfl⟩)))) (hb hby own_d_jdk_52_method_16_code_58) hr
  · show Q_rm25 Z p1 A K cs b189 b196 k189 h0 n0 _ T213.heap _
    exact ⟨b200, k200, rfl, N213, KK213, ⟨gn_b200, sz_b200⟩, f213_0⟩
theorem own_ef_rm27 (m : MethodId) (p1 : Int32) (A : Nat → Addr) (K : Nat → ClassId) (cs : Int32)  (b214_b200 : Addr) (k214_k200 : ClassId) : entryFrame m #[(.ref b214_b200), (.int (3 : Int32))] 2 = mkF m 0 #[.val (.ref b214_b200), .val (.int (3 : Int32))] [] := by first | (simp [entryFrame, mkF, argsToLocals, Value.category, maxLocals]; done) | rfl
set_option maxRecDepth 65536 in
set_option maxHeartbeats 40000000 in
theorem rm27 (l : Launch) (Z : State) (a0 : Array Value) (hw : ∀ d ∈ tables_1, d.before a0 Z = true) (ws : List Jvm.Cond) (h0 : Heap) (n0 : Nat) (p1 : Int32) (A : Nat → Addr) (K : Nat → ClassId) (cs : Int32)  (b214_b200 : Addr) (k214_k200 : ClassId) (EN : own_St Z A K cs) (OL0 : Old Z n0 h0) (G_A_b214_b200 : Arv Z h0 b214_b200 k214_k200 .byte (3 : Int32) [(.int (51 : Int32)), (.int (46 : Int32)), (.int (50 : Int32))] (.int (0 : Int32))) :
    MetFree l own_m5 (head1 (Jvm.Cond.code own_m5 jdk_52_method_15_code 2 (some .byte) :: ws) ({ frames := 0, cells := 0, slots := 0, locals := 0 } : Room)) (fun a U => a = #[(.ref b214_b200), (.int (3 : Int32))] ∧ Z.Warmed39 U.vm ∧ U.heap = h0) (fun _ _ _ _ _ => True) (fun _ U o U' => ∃ v L, o = .returned v ∧ (PQ (some (.int (0 : Int32))) h0 n0) v U'.heap L ∧ FrameEnd U o U' L ({ frames := 0, cells := 0, slots := 0, locals := 0 } : Room).cells ({ frames := 0, cells := 0, slots := 0, locals := 0 } : Room).slots) := by
  refine MetFree.of_bodySF (plainFor_of_name own_pn0) hisR ?_
  intro p e s m args below meth c s₁ Bd hml0 hP hK
  obtain ⟨rfl, hZ, hh⟩ := hP
  have hx := Bd.exec
  have hby := Bd.bytes
  have hml : c.maxLocals = 2 := hml0
  have hown : s.vm.findClass "java/lang/StringUTF16" = some m.cls := findClass_of_methodNamed Bd.named
  have hnm := (name_of_methodNamed Bd.named Bd.method).1
  have X0 : Stand p l e ({ frames := 0, cells := 0, slots := 0, locals := 0 } : Room) s m #[(.ref b214_b200), (.int (3 : Int32))] below meth c s₁ [] 0 0 := Stand.of_body Bd
  have e0 : s₁.heap = h0 := by rw [← hh, Bd.state]; rfl
  have N0 := Fr.nil n0
  have pre0 : ∀ t, Steps p.tables e below (s₁.setTop (mkF m 0 #[.val (.ref b214_b200), .val (.int (3 : Int32))] [])) t → Steps p.tables e below (s₁.setTop (entryFrame m #[(.ref b214_b200), (.int (3 : Int32))] 2)) t := fun t k => castTop (own_ef_rm27 m p1 A K cs b214_b200 k214_k200) k
  have KK0 : Keep h0 h0 [] := Keep.refl _ _
  obtain ⟨cl215, Ar215, -, Sz215, Nn215, -, -⟩ := (id G_A_b214_b200)
  obtain ⟨fs, hr, hrun, hended, hW, hsame⟩ := X0.leave (v := some (.int (0 : Int32))) (fun h => by rw [Bd.returns] at h; cases h)
  refine ⟨_, _, pre0 _ ?_, hrun, hended, _, _, rfl, ?_, ⟨_, rfl⟩, hW, hsame.mono (by decide) (by decide)⟩
  · show Steps p.tables e below (s₁.setTop (mkF m 0 #[.val (.ref b214_b200), .val (.int (3 : Int32))] [])) _
    refine XS.iloadN X0.here hx rfl (hb hby own_d_jdk_52_method_15_code_0) rfl ?_
    show Steps p.tables e below (s₁.setTop (mkF m 1 #[.val (.ref b214_b200), .val (.int (3 : Int32))] [(.int (3 : Int32))])) _
    refine XS.aloadN X0.here hx rfl (hb hby own_d_jdk_52_method_15_code_1) rfl rfl ?_
    show Steps p.tables e below (s₁.setTop (mkF m 2 #[.val (.ref b214_b200), .val (.int (3 : Int32))] [(.ref b214_b200), (.int (3 : Int32))])) _
    refine X0.arraylength hx (by rw [e0]; exact Ar215.1) (State.isArrayOf_alike hZ.alike Ar215.2.1) (g := (mkF m 2 #[.val (.ref b214_b200), .val (.int (3 : Int32))] [(.ref b214_b200), (.int (3 : Int32))])) rfl rfl (hb hby own_d_jdk_52_method_15_code_2) _ ?_
    rw [len_of Sz215 Nn215]
    show Steps p.tables e below (s₁.setTop (mkF m 3 #[.val (.ref b214_b200), .val (.int (3 : Int32))] [(.int (3 : Int32)), (.int (3 : Int32))])) _
    refine XS.isub X0.here hx rfl (hb hby own_d_jdk_52_method_15_code_3) rfl ?_
    show Steps p.tables e below (s₁.setTop (mkF m 4 #[.val (.ref b214_b200), .val (.int (3 : Int32))] [(.int (0 : Int32))])) _
    refine XS.bipush X0.here hx rfl (hb hby own_d_jdk_52_method_15_code_4) ?_
    show Steps p.tables e below (s₁.setTop (mkF m 6 #[.val (.ref b214_b200), .val (.int (3 : Int32))] [(.int (31 : Int32)), (.int (0 : Int32))])) _
    refine XS.iushr X0.here hx rfl (hb hby own_d_jdk_52_method_15_code_6) rfl ?_
    show Steps p.tables e below (s₁.setTop (mkF m 7 #[.val (.ref b214_b200), .val (.int (3 : Int32))] [(.int (0 : Int32))])) _
    refine XS.i2b X0.here hx rfl (hb hby own_d_jdk_52_method_15_code_7) rfl ?_
    show Steps p.tables e below (s₁.setTop (mkF m 8 #[.val (.ref b214_b200), .val (.int (3 : Int32))] [(.int (0 : Int32))])) _
    exact retN X0 hx (t := .byte) Bd.returns (by simp) (hb hby own_d_jdk_52_method_15_code_8) hr
  · show PQ (some (.int (0 : Int32))) h0 n0 _ s₁.heap _
    rw [e0]
    exact ⟨rfl, N0, rfl⟩
def Q_rm24 (Z : State) (p1 : Int32) (A : Nat → Addr) (K : Nat → ClassId) (cs : Int32) (b189 : Addr) (b196 : Addr) (k189 : ClassId) (h0 : Heap) (n0 : Nat) (v : Option Value) (h : Heap) (L : List Loc) : Prop := ∃ b214_b200 : Addr, ∃ k214_k200 : ClassId, v = none ∧ Fr n0 L ∧ Keep h0 h [b196] ∧ (n0 ≤ b214_b200 ∧ h0.size ≤ b214_b200) ∧ (Exa Z h b196 "java/lang/String") ∧ (Fld Z h b196 "java/lang/String" "coder" "B" (.int (0 : Int32))) ∧ (Fld Z h b196 "java/lang/String" "value" "[B" (.ref b214_b200)) ∧ (Arv Z h b214_b200 k214_k200 .byte (3 : Int32) [(.int (51 : Int32)), (.int (46 : Int32)), (.int (50 : Int32))] (.int (0 : Int32)))
theorem own_ef_rm24 (m : MethodId) (p1 : Int32) (A : Nat → Addr) (K : Nat → ClassId) (cs : Int32)  (b189 : Addr) (b196 : Addr) (k189 : ClassId) : entryFrame m #[(.ref b196), (.ref b189), (.int (0 : Int32)), (.int (3 : Int32)), .null] 6 = mkF m 0 #[.val (.ref b196), .val (.ref b189), .val (.int (0 : Int32)), .val (.int (3 : Int32)), .val .null, .unset] [] := by first | (simp [entryFrame, mkF, argsToLocals, Value.category, maxLocals]; done) | rfl
set_option maxRecDepth 65536 in
set_option maxHeartbeats 40000000 in
theorem rm24 (l : Launch) (Z : State) (a0 : Array Value) (hw : ∀ d ∈ tables_1, d.before a0 Z = true) (ws : List Jvm.Cond) (h0 : Heap) (n0 : Nat) (p1 : Int32) (A : Nat → Addr) (K : Nat → ClassId) (cs : Int32)  (b189 : Addr) (b196 : Addr) (k189 : ClassId) (EN : own_St Z A K cs) (OL0 : Old Z n0 h0) (G_A_b189 : Arv Z h0 b189 k189 .char (3 : Int32) [(.int (51 : Int32)), (.int (46 : Int32)), (.int (50 : Int32))] (.int (0 : Int32))) (G_E_b196 : Exa Z h0 b196 "java/lang/String") (G_F_b196_java_lang_String_coder : Fld Z h0 b196 "java/lang/String" "coder" "B" (.int (0 : Int32))) (G_F_b196_java_lang_String_value : Fld Z h0 b196 "java/lang/String" "value" "[B" .null) (gn_b196 : n0 ≤ b196) :
    MetFree l own_m6 (head1 (Jvm.Cond.code own_m6 jdk_42_method_149_code 6 none :: ws) ({ frames := 2, cells := 1, slots := 3, locals := 35 } : Room)) (fun a U => a = #[(.ref b196), (.ref b189), (.int (0 : Int32)), (.int (3 : Int32)), .null] ∧ Z.Warmed39 U.vm ∧ U.heap = h0) (fun _ _ _ _ _ => True) (fun _ U o U' => ∃ v L, o = .returned v ∧ Q_rm24 Z p1 A K cs b189 b196 k189 h0 n0 v U'.heap L ∧ FrameEnd U o U' L ({ frames := 2, cells := 1, slots := 3, locals := 35 } : Room).cells ({ frames := 2, cells := 1, slots := 3, locals := 35 } : Room).slots) := by
  refine MetFree.of_bodySF (plainFor_of_name own_pn1) hisR ?_
  intro p e s m args below meth c s₁ Bd hml0 hP hK
  obtain ⟨rfl, hZ, hh⟩ := hP
  have hx := Bd.exec
  have hby := Bd.bytes
  have hml : c.maxLocals = 6 := hml0
  have hown : s.vm.findClass "java/lang/String" = some m.cls := findClass_of_methodNamed Bd.named
  have hnm := (name_of_methodNamed Bd.named Bd.method).1
  have X0 : Stand p l e ({ frames := 2, cells := 1, slots := 3, locals := 35 } : Room) s m #[(.ref b196), (.ref b189), (.int (0 : Int32)), (.int (3 : Int32)), .null] below meth c s₁ [] 0 0 := Stand.of_body Bd
  have e0 : s₁.heap = h0 := by rw [← hh, Bd.state]; rfl
  have N0 := Fr.nil n0
  have pre0 : ∀ t, Steps p.tables e below (s₁.setTop (mkF m 0 #[.val (.ref b196), .val (.ref b189), .val (.int (0 : Int32)), .val (.int (3 : Int32)), .val .null, .unset] [])) t → Steps p.tables e below (s₁.setTop (entryFrame m #[(.ref b196), (.ref b189), (.int (0 : Int32)), (.int (3 : Int32)), .null] 6)) t := fun t k => castTop (own_ef_rm24 m p1 A K cs b189 b196 k189) k
  have KK0 : Keep h0 h0 [b196] := Keep.refl _ _
  obtain ⟨T198, X198, e198, st198⟩ := initO X0 hx hZ hown (hw _ (List.mem_of_getElem? (i := 11) rfl)) (hw _ (List.mem_of_getElem? (i := 12) rfl)) (hw _ (List.mem_of_getElem? (i := 13) rfl)) e0 (g := (mkF m 1 #[.val (.ref b196), .val (.ref b189), .val (.int (0 : Int32)), .val (.int (3 : Int32)), .val .null, .unset] [(.ref b196)])) rfl (by rw [hml]; rfl) rfl (hb hby own_d_jdk_42_method_149_code_1) (by decide) (W := 0) (by show 2 * 0 + _ ≤ _; exact Nat.le_of_eq rfl) (by decide)
  obtain ⟨T199, X199, e199, st199⟩ := getS2 X198 hx hZ hown (host := "") (Or.inl (hw _ (List.mem_of_getElem? (i := 14) rfl))) Via.refl e198 (EN.2.2.2.1.2.2.2.1.ext OL0.2) (g := (mkF m 27 #[.val (.ref b196), .val (.ref b189), .val (.int (0 : Int32)), .val (.int (3 : Int32)), .val .null, .unset] [])) rfl (hb hby own_d_jdk_42_method_149_code_27)
  obtain ⟨_, _, ⟨T214, L214, k214, n214⟩, -, X214, ⟨Lc214, hQ214, l214, y214, z214⟩, st214⟩ := Jvm.LawKit.callS X199 hx (y := own_m4) hown (mvT hZ (hw _ (List.mem_of_getElem? (i := 15) rfl))) (mvT hZ (hw _ (List.mem_of_getElem? (i := 16) rfl))) (mvT hZ (hw _ (List.mem_of_getElem? (i := 17) rfl))) (mvT hZ (hw _ (List.mem_of_getElem? (i := 18) rfl))) (by decide) (backOf (W := 0) (rm25 l Z a0 hw [] h0 n0 p1 A K cs b189 b196 k189 EN OL0 G_A_b189 G_E_b196) hZ (hw _ (List.mem_of_getElem? (i := 18) rfl)) (hw _ (List.mem_of_getElem? (i := 17) rfl)) (by decide) (by decide)) (g := (mkF m 36 #[.val (.ref b196), .val (.ref b189), .val (.int (0 : Int32)), .val (.int (3 : Int32)), .val .null, .unset] [(.int (3 : Int32)), (.int (0 : Int32)), (.ref b189)])) rfl (by rw [hml]; rfl) (argsL := [(.ref b189), (.int (0 : Int32)), (.int (3 : Int32))]) (rest := []) (lenOf own_pd1 rfl) rfl (by show 2 * 0 + _ ≤ _; exact Nat.le_of_eq rfl) (hb hby own_d_jdk_42_method_149_code_36) (fun _ _ => ⟨rfl, e199, (by decide : 0 + 1 ≤ _), (by decide : 0 + 3 ≤ _)⟩)
  dsimp only [Pt.U, Pt.locs, Pt.cells, Pt.slots] at X214 l214 y214 z214 st214 hQ214
  subst l214 y214 z214
  obtain ⟨b214_b200, k214_k200, rfl, N214q, K214c, ⟨gn_b214_b200, szc_b214_b200⟩, f214_0⟩ := hQ214
  have N214 := Fr.app N0 N214q
  have lt_b189_b214_b200 : b189 < b214_b200 := Nat.lt_of_lt_of_le G_A_b189.lt szc_b214_b200
  have lt_b196_b214_b200 : b196 < b214_b200 := Nat.lt_of_lt_of_le G_E_b196.lt szc_b214_b200
  have sz_b214_b200 : h0.size ≤ b214_b200 := Nat.le_trans KK0.1 szc_b214_b200
  have OL214 : Old Z n0 T214.heap := OL0.keep K214c all0
  have KK214 : Keep h0 T214.heap [b196] := KK0.trans K214c all0
  obtain ⟨_, _, ⟨T216, L216, k216, n216⟩, -, X216, ⟨Lc216, hQ216, l216, y216, z216⟩, st216⟩ := Jvm.LawKit.callS X214 hx (y := own_m5) hown (mvT hZ (hw _ (List.mem_of_getElem? (i := 23) rfl))) (mvT hZ (hw _ (List.mem_of_getElem? (i := 24) rfl))) (mvT hZ (hw _ (List.mem_of_getElem? (i := 17) rfl))) (mvT hZ (hw _ (List.mem_of_getElem? (i := 25) rfl))) (by decide) (backOf (W := 1) (rm27 l Z a0 hw [] T214.heap n0 p1 A K cs b214_b200 k214_k200 EN OL214 f214_0) hZ (hw _ (List.mem_of_getElem? (i := 25) rfl)) (hw _ (List.mem_of_getElem? (i := 17) rfl)) (by decide) (by decide)) (g := (mkF m 45 #[.val (.ref b196), .val (.ref b189), .val (.int (0 : Int32)), .val (.int (3 : Int32)), .val .null, .val (.ref b214_b200)] [(.int (3 : Int32)), (.ref b214_b200), (.ref b196)])) rfl (by rw [hml]; rfl) (argsL := [(.ref b214_b200), (.int (3 : Int32))]) (rest := [(.ref b196)]) (lenOf own_pd2 rfl) rfl (by show 2 * 0 + _ ≤ _; exact Nat.le_of_eq rfl) (hb hby own_d_jdk_42_method_149_code_45) (fun _ _ => ⟨rfl, rfl, (by decide : 1 + 0 ≤ _), (by decide : 3 + 0 ≤ _)⟩)
  dsimp only [Pt.U, Pt.locs, Pt.cells, Pt.slots] at X216 l216 y216 z216 st216 hQ216
  subst l216 y216 z216
  obtain ⟨rfl, N216q, e216⟩ := hQ216
  have N216 := Fr.app N214 N216q
  have fx217 : Fld Z T214.heap b196 "java/lang/String" "coder" "B" (.int (0 : Int32)) := (G_F_b196_java_lang_String_coder.keep K214c nin0)
  have fx218 : Exa Z T214.heap b196 "java/lang/String" := (G_E_b196.keep K214c)
  obtain ⟨T219, h219, X219, e219, W219, st219⟩ := putFN X216 hx hZ hown (hw _ (List.mem_of_getElem? (i := 26) rfl)) Via.refl e216 fx217 fx218 (Or.inr ⟨(hw _ (List.mem_of_getElem? (i := 27) rfl)), rfl, hnm⟩) (hw _ (List.mem_of_getElem? (i := 2) rfl)) (ty := .byte) (v' := (.int (0 : Int32))) (by decide) rfl (by decide) (g := (mkF m 48 #[.val (.ref b196), .val (.ref b189), .val (.int (0 : Int32)), .val (.int (3 : Int32)), .val .null, .val (.ref b214_b200)] [(.int (0 : Int32)), (.ref b196)])) rfl rfl (hb hby own_d_jdk_42_method_149_code_48)
  have NF219 := Fr.snoc X219 N216 gn_b196
  have OL219 : Old Z n0 h219 := OL214.wr W219 gn_b196
  have KK219 : Keep h0 h219 [b196] := KK214.wr W219 (Or.inl (List.mem_of_getElem? (i := 0) rfl))
  have Fw219 : Fld Z h219 b196 "java/lang/String" "coder" "B" (.int (0 : Int32)) := fx217.same W219
  have fx220 : Fld Z h219 b196 "java/lang/String" "value" "[B" .null := ((G_F_b196_java_lang_String_value.keep K214c nin0).other W219 (Or.inr (slot_ne (Or.inr (hw _ (List.mem_of_getElem? (i := 29) rfl))) (Or.inr (hw _ (List.mem_of_getElem? (i := 27) rfl))) (by decide) (t := (.array .byte)) (t' := .byte) (by decide) (by decide))))
  have fx221 : Exa Z h219 b196 "java/lang/String" := (fx218.wr W219)
  obtain ⟨T222, h222, X222, e222, W222, st222⟩ := putF X219 hx hZ hown (host := "") (Or.inl (hw _ (List.mem_of_getElem? (i := 28) rfl))) Via.refl e219 fx220 fx221 (Or.inr ⟨(hw _ (List.mem_of_getElem? (i := 29) rfl)), rfl, hnm⟩) (hw _ (List.mem_of_getElem? (i := 2) rfl)) (ty := (.array .byte)) (by decide) rfl rfl (g := (mkF m 54 #[.val (.ref b196), .val (.ref b189), .val (.int (0 : Int32)), .val (.int (3 : Int32)), .val .null, .val (.ref b214_b200)] [(.ref b214_b200), (.ref b196)])) rfl rfl (hb hby own_d_jdk_42_method_149_code_54)
  have NF222 := Fr.snoc X222 NF219 gn_b196
  have OL222 : Old Z n0 h222 := OL219.wr W222 gn_b196
  have KK222 : Keep h0 h222 [b196] := KK219.wr W222 (Or.inl (List.mem_of_getElem? (i := 0) rfl))
  have Fw222 : Fld Z h222 b196 "java/lang/String" "value" "[B" (.ref b214_b200) := fx220.same W222
  have fx223 : Exa Z h222 b196 "java/lang/String" := (fx221.wr W222)
  have fx224 : Fld Z h222 b196 "java/lang/String" "coder" "B" (.int (0 : Int32)) := (Fw219.other W222 (Or.inr (slot_ne (Or.inr (hw _ (List.mem_of_getElem? (i := 27) rfl))) (Or.inr (hw _ (List.mem_of_getElem? (i := 29) rfl))) (by decide) (t := .byte) (t' := (.array .byte)) (by decide) (by decide))))
  have fx225 : Arv Z h222 b214_b200 k214_k200 .byte (3 : Int32) [(.int (51 : Int32)), (.int (46 : Int32)), (.int (50 : Int32))] (.int (0 : Int32)) := ((f214_0.other W219 (Ne.symm (Nat.ne_of_lt lt_b196_b214_b200))).other W222 (Ne.symm (Nat.ne_of_lt lt_b196_b214_b200)))
  obtain ⟨fs, hr, hrun, hended, hW, hsame⟩ := X222.leave (v := none) (fun _ => rfl)
  refine ⟨_, _, pre0 _ ?_, hrun, hended, _, _, rfl, ?_, ⟨_, rfl⟩, hW, hsame.mono (by decide) (by decide)⟩
  · show Steps p.tables e below (s₁.setTop (mkF m 0 #[.val (.ref b196), .val (.ref b189), .val (.int (0 : Int32)), .val (.int (3 : Int32)), .val .null, .unset] [])) _
    refine XS.aloadN X0.here hx rfl (hb hby own_d_jdk_42_method_149_code_0) rfl rfl ?_
    show Steps p.tables e below (s₁.setTop (mkF m 1 #[.val (.ref b196), .val (.ref b189), .val (.int (0 : Int32)), .val (.int (3 : Int32)), .val .null, .unset] [(.ref b196)])) _
    refine st198 _ ?_
    show Steps p.tables e below (T198.setTop (mkF m 4 #[.val (.ref b196), .val (.ref b189), .val (.int (0 : Int32)), .val (.int (3 : Int32)), .val .null, .unset] [])) _
    refine XS.iloadN X198.here hx rfl (hb hby own_d_jdk_42_method_149_code_4) rfl ?_
    show Steps p.tables e below (T198.setTop (mkF m 5 #[.val (.ref b196), .val (.ref b189), .val (.int (0 : Int32)), .val (.int (3 : Int32)), .val .null, .unset] [(.int (3 : Int32))])) _
    refine XS.ifYes X198.here hx rfl (pc0 := 5) (pc' := 27) rfl (hb hby own_d_jdk_42_method_149_code_5) rfl ((if0 _ _).trans (feq (by decide : ¬ ((3 : Int32) = (0 : Int32)))).2) (by decide) (by decide) ?_
    show Steps p.tables e below (T198.setTop (mkF m 27 #[.val (.ref b196), .val (.ref b189), .val (.int (0 : Int32)), .val (.int (3 : Int32)), .val .null, .unset] [])) _
    refine st199 _ ?_
    show Steps p.tables e below (T199.setTop (mkF m 30 #[.val (.ref b196), .val (.ref b189), .val (.int (0 : Int32)), .val (.int (3 : Int32)), .val .null, .unset] [(.int cs)])) _
    refine XS.ifNo X199.here hx rfl (hb hby own_d_jdk_42_method_149_code_30) rfl ((if0 _ _).trans (feq EN.2.2.2.1.2.2.2.2.1).1) ?_
    show Steps p.tables e below (T199.setTop (mkF m 33 #[.val (.ref b196), .val (.ref b189), .val (.int (0 : Int32)), .val (.int (3 : Int32)), .val .null, .unset] [])) _
    refine XS.aloadN X199.here hx rfl (hb hby own_d_jdk_42_method_149_code_33) rfl rfl ?_
    show Steps p.tables e below (T199.setTop (mkF m 34 #[.val (.ref b196), .val (.ref b189), .val (.int (0 : Int32)), .val (.int (3 : Int32)), .val .null, .unset] [(.ref b189)])) _
    refine XS.iloadN X199.here hx rfl (hb hby own_d_jdk_42_method_149_code_34) rfl ?_
    show Steps p.tables e below (T199.setTop (mkF m 35 #[.val (.ref b196), .val (.ref b189), .val (.int (0 : Int32)), .val (.int (3 : Int32)), .val .null, .unset] [(.int (0 : Int32)), (.ref b189)])) _
    refine XS.iloadN X199.here hx rfl (hb hby own_d_jdk_42_method_149_code_35) rfl ?_
    show Steps p.tables e below (T199.setTop (mkF m 36 #[.val (.ref b196), .val (.ref b189), .val (.int (0 : Int32)), .val (.int (3 : Int32)), .val .null, .unset] [(.int (3 : Int32)), (.int (0 : Int32)), (.ref b189)])) _
    refine st214 _ ?_
    show Steps p.tables e below (T214.setTop (mkF m 39 #[.val (.ref b196), .val (.ref b189), .val (.int (0 : Int32)), .val (.int (3 : Int32)), .val .null, .unset] [(.ref b214_b200)])) _
    refine XS.astore X214.here hx rfl (hb hby own_d_jdk_42_method_149_code_39) rfl rfl (l' := #[.val (.ref b196), .val (.ref b189), .val (.int (0 : Int32)), .val (.int (3 : Int32)), .val .null, .val (.ref b214_b200)]) rfl ?_
    show Steps p.tables e below (T214.setTop (mkF m 41 #[.val (.ref b196), .val (.ref b189), .val (.int (0 : Int32)), .val (.int (3 : Int32)), .val .null, .val (.ref b214_b200)] [])) _
    refine XS.aloadN X214.here hx rfl (hb hby own_d_jdk_42_method_149_code_41) rfl rfl ?_
    show Steps p.tables e below (T214.setTop (mkF m 42 #[.val (.ref b196), .val (.ref b189), .val (.int (0 : Int32)), .val (.int (3 : Int32)), .val .null, .val (.ref b214_b200)] [(.ref b196)])) _
    refine XS.aload X214.here hx rfl (hb hby own_d_jdk_42_method_149_code_42) rfl rfl ?_
    show Steps p.tables e below (T214.setTop (mkF m 44 #[.val (.ref b196), .val (.ref b189), .val (.int (0 : Int32)), .val (.int (3 : Int32)), .val .null, .val (.ref b214_b200)] [(.ref b214_b200), (.ref b196)])) _
    refine XS.iloadN X214.here hx rfl (hb hby own_d_jdk_42_method_149_code_44) rfl ?_
    show Steps p.tables e below (T214.setTop (mkF m 45 #[.val (.ref b196), .val (.ref b189), .val (.int (0 : Int32)), .val (.int (3 : Int32)), .val .null, .val (.ref b214_b200)] [(.int (3 : Int32)), (.ref b214_b200), (.ref b196)])) _
    refine st216 _ ?_
    show Steps p.tables e below (T216.setTop (mkF m 48 #[.val (.ref b196), .val (.ref b189), .val (.int (0 : Int32)), .val (.int (3 : Int32)), .val .null, .val (.ref b214_b200)] [(.int (0 : Int32)), (.ref b196)])) _
    refine st219 _ ?_
    show Steps p.tables e below (T219.setTop (mkF m 51 #[.val (.ref b196), .val (.ref b189), .val (.int (0 : Int32)), .val (.int (3 : Int32)), .val .null, .val (.ref b214_b200)] [])) _
    refine XS.aloadN X219.here hx rfl (hb hby own_d_jdk_42_method_149_code_51) rfl rfl ?_
    show Steps p.tables e below (T219.setTop (mkF m 52 #[.val (.ref b196), .val (.ref b189), .val (.int (0 : Int32)), .val (.int (3 : Int32)), .val .null, .val (.ref b214_b200)] [(.ref b196)])) _
    refine XS.aload X219.here hx rfl (hb hby own_d_jdk_42_method_149_code_52) rfl rfl ?_
    show Steps p.tables e below (T219.setTop (mkF m 54 #[.val (.ref b196), .val (.ref b189), .val (.int (0 : Int32)), .val (.int (3 : Int32)), .val .null, .val (.ref b214_b200)] [(.ref b214_b200), (.ref b196)])) _
    refine st222 _ ?_
    show Steps p.tables e below (T222.setTop (mkF m 57 #[.val (.ref b196), .val (.ref b189), .val (.int (0 : Int32)), .val (.int (3 : Int32)), .val .null, .val (.ref b214_b200)] [])) _
    exact X222.returnOut hx Bd.returns (hb hby own_d_jdk_42_method_149_code_57) hr
  · show Q_rm24 Z p1 A K cs b189 b196 k189 h0 n0 _ T222.heap _
    rw [e222]
    exact ⟨b214_b200, k214_k200, rfl, NF222, KK222, ⟨gn_b214_b200, sz_b214_b200⟩, fx223, fx224, Fw222, fx225⟩
def Q_rm23 (Z : State) (p1 : Int32) (A : Nat → Addr) (K : Nat → ClassId) (cs : Int32) (b189 : Addr) (b196 : Addr) (k189 : ClassId) (h0 : Heap) (n0 : Nat) (v : Option Value) (h : Heap) (L : List Loc) : Prop := ∃ b226_b214_b200 : Addr, ∃ k226_k214_k200 : ClassId, v = none ∧ Fr n0 L ∧ Keep h0 h [b196] ∧ (n0 ≤ b226_b214_b200 ∧ h0.size ≤ b226_b214_b200) ∧ (Exa Z h b196 "java/lang/String") ∧ (Fld Z h b196 "java/lang/String" "coder" "B" (.int (0 : Int32))) ∧ (Fld Z h b196 "java/lang/String" "value" "[B" (.ref b226_b214_b200)) ∧ (Arv Z h b226_b214_b200 k226_k214_k200 .byte (3 : Int32) [(.int (51 : Int32)), (.int (46 : Int32)), (.int (50 : Int32))] (.int (0 : Int32)))
theorem own_ef_rm23 (m : MethodId) (p1 : Int32) (A : Nat → Addr) (K : Nat → ClassId) (cs : Int32)  (b189 : Addr) (b196 : Addr) (k189 : ClassId) : entryFrame m #[(.ref b196), (.ref b189)] 2 = mkF m 0 #[.val (.ref b196), .val (.ref b189)] [] := by first | (simp [entryFrame, mkF, argsToLocals, Value.category, maxLocals]; done) | rfl
set_option maxRecDepth 65536 in
set_option maxHeartbeats 40000000 in
theorem rm23 (l : Launch) (Z : State) (a0 : Array Value) (hw : ∀ d ∈ tables_1, d.before a0 Z = true) (ws : List Jvm.Cond) (h0 : Heap) (n0 : Nat) (p1 : Int32) (A : Nat → Addr) (K : Nat → ClassId) (cs : Int32)  (b189 : Addr) (b196 : Addr) (k189 : ClassId) (EN : own_St Z A K cs) (OL0 : Old Z n0 h0) (G_A_b189 : Arv Z h0 b189 k189 .char (3 : Int32) [(.int (51 : Int32)), (.int (46 : Int32)), (.int (50 : Int32))] (.int (0 : Int32))) (G_E_b196 : Exa Z h0 b196 "java/lang/String") (G_F_b196_java_lang_String_coder : Fld Z h0 b196 "java/lang/String" "coder" "B" (.int (0 : Int32))) (G_F_b196_java_lang_String_value : Fld Z h0 b196 "java/lang/String" "value" "[B" .null) (gn_b196 : n0 ≤ b196) :
    MetFree l own_m7 (head1 (Jvm.Cond.code own_m7 jdk_42_method_3_code 2 none :: ws) ({ frames := 3, cells := 1, slots := 3, locals := 52 } : Room)) (fun a U => a = #[(.ref b196), (.ref b189)] ∧ Z.Warmed39 U.vm ∧ U.heap = h0) (fun _ _ _ _ _ => True) (fun _ U o U' => ∃ v L, o = .returned v ∧ Q_rm23 Z p1 A K cs b189 b196 k189 h0 n0 v U'.heap L ∧ FrameEnd U o U' L ({ frames := 3, cells := 1, slots := 3, locals := 52 } : Room).cells ({ frames := 3, cells := 1, slots := 3, locals := 52 } : Room).slots) := by
  refine MetFree.of_bodySF (plainFor_of_name own_pn1) hisR ?_
  intro p e s m args below meth c s₁ Bd hml0 hP hK
  obtain ⟨rfl, hZ, hh⟩ := hP
  have hx := Bd.exec
  have hby := Bd.bytes
  have hml : c.maxLocals = 2 := hml0
  have hown : s.vm.findClass "java/lang/String" = some m.cls := findClass_of_methodNamed Bd.named
  have hnm := (name_of_methodNamed Bd.named Bd.method).1
  have X0 : Stand p l e ({ frames := 3, cells := 1, slots := 3, locals := 52 } : Room) s m #[(.ref b196), (.ref b189)] below meth c s₁ [] 0 0 := Stand.of_body Bd
  have e0 : s₁.heap = h0 := by rw [← hh, Bd.state]; rfl
  have N0 := Fr.nil n0
  have pre0 : ∀ t, Steps p.tables e below (s₁.setTop (mkF m 0 #[.val (.ref b196), .val (.ref b189)] [])) t → Steps p.tables e below (s₁.setTop (entryFrame m #[(.ref b196), (.ref b189)] 2)) t := fun t k => castTop (own_ef_rm23 m p1 A K cs b189 b196 k189) k
  have KK0 : Keep h0 h0 [b196] := Keep.refl _ _
  obtain ⟨cl197, Ar197, -, Sz197, Nn197, -, -⟩ := (id G_A_b189)
  obtain ⟨_, _, ⟨T226, L226, k226, n226⟩, -, X226, ⟨Lc226, hQ226, l226, y226, z226⟩, st226⟩ := X0.specialBack hx (y := own_m6) rfl hown (mvT hZ (hw _ (List.mem_of_getElem? (i := 7) rfl))) (mvT hZ (hw _ (List.mem_of_getElem? (i := 8) rfl))) (mvT hZ (hw _ (List.mem_of_getElem? (i := 10) rfl))) (by decide) (backOf (W := 0) (rm24 l Z a0 hw [] h0 n0 p1 A K cs b189 b196 k189 EN OL0 G_A_b189 G_E_b196 G_F_b196_java_lang_String_coder G_F_b196_java_lang_String_value gn_b196) hZ (hw _ (List.mem_of_getElem? (i := 10) rfl)) (hw _ (List.mem_of_getElem? (i := 3) rfl)) (by decide) (by decide)) (g := (mkF m 6 #[.val (.ref b196), .val (.ref b189)] [.null, (.int (3 : Int32)), (.int (0 : Int32)), (.ref b189), (.ref b196)])) rfl (by rw [hml]; rfl) (Steps.refl _) (a := b196) (argsL := [(.ref b189), (.int (0 : Int32)), (.int (3 : Int32)), .null]) (rest := []) (lenOf own_pd3 rfl) rfl (by show 2 * 0 + _ ≤ _; exact Nat.le_of_eq rfl) (hb hby own_d_jdk_42_method_3_code_6) (fun _ _ => ⟨rfl, e0, (by decide : 0 + 1 ≤ _), (by decide : 0 + 3 ≤ _)⟩)
  dsimp only [Pt.U, Pt.locs, Pt.cells, Pt.slots] at X226 l226 y226 z226 st226 hQ226
  subst l226 y226 z226
  obtain ⟨b226_b214_b200, k226_k214_k200, rfl, N226q, K226c, ⟨gn_b226_b214_b200, szc_b226_b214_b200⟩, f226_0, f226_1, f226_2, f226_3⟩ := hQ226
  have N226 := Fr.app N0 N226q
  have lt_b189_b226_b214_b200 : b189 < b226_b214_b200 := Nat.lt_of_lt_of_le G_A_b189.lt szc_b226_b214_b200
  have lt_b196_b226_b214_b200 : b196 < b226_b214_b200 := Nat.lt_of_lt_of_le G_E_b196.lt szc_b226_b214_b200
  have sz_b226_b214_b200 : h0.size ≤ b226_b214_b200 := Nat.le_trans KK0.1 szc_b226_b214_b200
  have OL226 : Old Z n0 T226.heap := OL0.keep K226c (allS gn_b196 all0)
  have KK226 : Keep h0 T226.heap [b196] := KK0.trans K226c (allS (Or.inl (List.mem_of_getElem? (i := 0) rfl)) all0)
  obtain ⟨fs, hr, hrun, hended, hW, hsame⟩ := X226.leave (v := none) (fun _ => rfl)
  refine ⟨_, _, pre0 _ ?_, hrun, hended, _, _, rfl, ?_, ⟨_, rfl⟩, hW, hsame.mono (by decide) (by decide)⟩
  · show Steps p.tables e below (s₁.setTop (mkF m 0 #[.val (.ref b196), .val (.ref b189)] [])) _
    refine XS.aloadN X0.here hx rfl (hb hby own_d_jdk_42_method_3_code_0) rfl rfl ?_
    show Steps p.tables e below (s₁.setTop (mkF m 1 #[.val (.ref b196), .val (.ref b189)] [(.ref b196)])) _
    refine XS.aloadN X0.here hx rfl (hb hby own_d_jdk_42_method_3_code_1) rfl rfl ?_
    show Steps p.tables e below (s₁.setTop (mkF m 2 #[.val (.ref b196), .val (.ref b189)] [(.ref b189), (.ref b196)])) _
    refine XS.iconst X0.here hx rfl (hb hby own_d_jdk_42_method_3_code_2) ?_
    show Steps p.tables e below (s₁.setTop (mkF m 3 #[.val (.ref b196), .val (.ref b189)] [(.int (0 : Int32)), (.ref b189), (.ref b196)])) _
    refine XS.aloadN X0.here hx rfl (hb hby own_d_jdk_42_method_3_code_3) rfl rfl ?_
    show Steps p.tables e below (s₁.setTop (mkF m 4 #[.val (.ref b196), .val (.ref b189)] [(.ref b189), (.int (0 : Int32)), (.ref b189), (.ref b196)])) _
    refine X0.arraylength hx (by rw [e0]; exact Ar197.1) (State.isArrayOf_alike hZ.alike Ar197.2.1) (g := (mkF m 4 #[.val (.ref b196), .val (.ref b189)] [(.ref b189), (.int (0 : Int32)), (.ref b189), (.ref b196)])) rfl rfl (hb hby own_d_jdk_42_method_3_code_4) _ ?_
    rw [len_of Sz197 Nn197]
    show Steps p.tables e below (s₁.setTop (mkF m 5 #[.val (.ref b196), .val (.ref b189)] [(.int (3 : Int32)), (.int (0 : Int32)), (.ref b189), (.ref b196)])) _
    refine XS.aconstNull X0.here hx rfl (hb hby own_d_jdk_42_method_3_code_5) ?_
    show Steps p.tables e below (s₁.setTop (mkF m 6 #[.val (.ref b196), .val (.ref b189)] [.null, (.int (3 : Int32)), (.int (0 : Int32)), (.ref b189), (.ref b196)])) _
    refine st226.trans ?_
    show Steps p.tables e below (T226.setTop (mkF m 9 #[.val (.ref b196), .val (.ref b189)] [])) _
    exact X226.returnOut hx Bd.returns (hb hby own_d_jdk_42_method_3_code_9) hr
  · show Q_rm23 Z p1 A K cs b189 b196 k189 h0 n0 _ T226.heap _
    exact ⟨b226_b214_b200, k226_k214_k200, rfl, N226, KK226, ⟨gn_b226_b214_b200, sz_b226_b214_b200⟩, f226_0, f226_1, f226_2, f226_3⟩
def Q_rm29 (Z : State) (p1 : Int32) (A : Nat → Addr) (K : Nat → ClassId) (cs : Int32) (b189 : Addr) (b196 : Addr) (b228_b226_b214_b200 : Addr) (k189 : ClassId) (k228_k226_k214_k200 : ClassId) (h0 : Heap) (n0 : Nat) (v : Option Value) (h : Heap) (L : List Loc) : Prop := ∃ b231 : Addr, v = (some (.ref b231)) ∧ Fr n0 L ∧ Keep h0 h [] ∧ (n0 ≤ b231 ∧ h0.size ≤ b231) ∧ (Arv Z h b231 (K 0) (.object "com/example/dongl/dongl/crypto/ProtocolVersion") (4 : Int32) [(.ref (A 0)), (.ref (A 1)), (.ref (A 2)), (.ref (A 3))] .null) ∧ (Exa Z h b231 "[Lcom/example/dongl/dongl/crypto/ProtocolVersion;")
theorem own_ef_rm29 (m : MethodId) (p1 : Int32) (A : Nat → Addr) (K : Nat → ClassId) (cs : Int32)  (b189 : Addr) (b196 : Addr) (b228_b226_b214_b200 : Addr) (k189 : ClassId) (k228_k226_k214_k200 : ClassId) : entryFrame m #[] 0 = mkF m 0 #[] [] := by first | (simp [entryFrame, mkF, argsToLocals, Value.category, maxLocals]; done) | rfl
set_option maxRecDepth 65536 in
set_option maxHeartbeats 40000000 in
theorem rm29 (l : Launch) (Z : State) (a0 : Array Value) (hw : ∀ d ∈ tables_1, d.before a0 Z = true) (ws : List Jvm.Cond) (h0 : Heap) (n0 : Nat) (p1 : Int32) (A : Nat → Addr) (K : Nat → ClassId) (cs : Int32)  (b189 : Addr) (b196 : Addr) (b228_b226_b214_b200 : Addr) (k189 : ClassId) (k228_k226_k214_k200 : ClassId) (EN : own_St Z A K cs) (OL0 : Old Z n0 h0) (G_A_b189 : Arv Z h0 b189 k189 .char (3 : Int32) [(.int (51 : Int32)), (.int (46 : Int32)), (.int (50 : Int32))] (.int (0 : Int32))) (G_E_b196 : Exa Z h0 b196 "java/lang/String") (G_A_b228_b226_b214_b200 : Arv Z h0 b228_b226_b214_b200 k228_k226_k214_k200 .byte (3 : Int32) [(.int (51 : Int32)), (.int (46 : Int32)), (.int (50 : Int32))] (.int (0 : Int32))) :
    MetFree l own_m8 (head1 (Jvm.Cond.code own_m8 prog_26_method_1_code 0 (some (.array (.object "com/example/dongl/dongl/crypto/ProtocolVersion"))) :: ws) ({ frames := 1, cells := 1, slots := 4, locals := 14 } : Room)) (fun a U => a = #[] ∧ Z.Warmed39 U.vm ∧ U.heap = h0) (fun _ _ _ _ _ => True) (fun _ U o U' => ∃ v L, o = .returned v ∧ Q_rm29 Z p1 A K cs b189 b196 b228_b226_b214_b200 k189 k228_k226_k214_k200 h0 n0 v U'.heap L ∧ FrameEnd U o U' L ({ frames := 1, cells := 1, slots := 4, locals := 14 } : Room).cells ({ frames := 1, cells := 1, slots := 4, locals := 14 } : Room).slots) := by
  refine MetFree.of_bodySF (plainFor_of_name own_pn2) hisR ?_
  intro p e s m args below meth c s₁ Bd hml0 hP hK
  obtain ⟨rfl, hZ, hh⟩ := hP
  have hx := Bd.exec
  have hby := Bd.bytes
  have hml : c.maxLocals = 0 := hml0
  have hown : s.vm.findClass "com/example/dongl/dongl/crypto/ProtocolVersion" = some m.cls := findClass_of_methodNamed Bd.named
  have hnm := (name_of_methodNamed Bd.named Bd.method).1
  have X0 : Stand p l e ({ frames := 1, cells := 1, slots := 4, locals := 14 } : Room) s m #[] below meth c s₁ [] 0 0 := Stand.of_body Bd
  have e0 : s₁.heap = h0 := by rw [← hh, Bd.state]; rfl
  have N0 := Fr.nil n0
  have pre0 : ∀ t, Steps p.tables e below (s₁.setTop (mkF m 0 #[] [])) t → Steps p.tables e below (s₁.setTop (entryFrame m #[] 0)) t := fun t k => castTop (own_ef_rm29 m p1 A K cs b189 b196 b228_b226_b214_b200 k189 k228_k226_k214_k200) k
  have KK0 : Keep h0 h0 [] := Keep.refl _ _
  obtain ⟨T230, X230, e230, st230⟩ := getS2 X0 hx hZ hown (host := "") (Or.inl (hw _ (List.mem_of_getElem? (i := 39) rfl))) Via.refl e0 (EN.2.1.1.ext OL0.2) (g := (mkF m 0 #[] [])) rfl (hb hby own_d_prog_26_method_1_code_0)
  obtain ⟨T231, h231, X231, e231, E231, V231, A231, st231⟩ := cloneH X230 hx hZ hown (hw _ (List.mem_of_getElem? (i := 41) rfl)) (hw _ (List.mem_of_getElem? (i := 42) rfl)) (hw _ (List.mem_of_getElem? (i := 46) rfl)) (hw _ (List.mem_of_getElem? (i := 44) rfl)) (hw _ (List.mem_of_getElem? (i := 45) rfl)) (hw _ (List.mem_of_getElem? (i := 47) rfl)) e230 (Arv.arh (EN.2.1.2.2.1.ext OL0.2)) (EN.2.1.2.1.ext OL0.2) (g := (mkF m 3 #[] [(.ref (A 4))])) rfl (by rw [hml]; rfl) rfl (hb hby own_d_prog_26_method_1_code_3) (by decide) (W := 0) (cap := 4) (by show 2 * 0 + _ ≤ _; exact Nat.le_of_eq rfl) (by decide) (by decide) (by decide) (by decide)
  obtain ⟨b231, g231⟩ : ∃ z, z = h0.size := ⟨_, rfl⟩
  rw [← g231] at V231 A231 st231
  have gn_b231 : n0 ≤ b231 := Nat.le_trans (OL0.1 ▸ OL0.2.1) (Nat.le_of_eq g231.symm)
  have sz_b231 : h0.size ≤ b231 := Nat.le_trans KK0.1 (Nat.le_of_eq g231.symm)
  have lt_b189_b231 : b189 < b231 := Nat.lt_of_lt_of_le G_A_b189.lt (Nat.le_of_eq g231.symm)
  have lt_b196_b231 : b196 < b231 := Nat.lt_of_lt_of_le G_E_b196.lt (Nat.le_of_eq g231.symm)
  have lt_b228_b226_b214_b200_b231 : b228_b226_b214_b200 < b231 := Nat.lt_of_lt_of_le G_A_b228_b226_b214_b200.lt (Nat.le_of_eq g231.symm)
  have OL231 : Old Z n0 h231 := OL0.ext E231
  have KK231 : Keep h0 h231 [] := KK0.ext E231
  have Vv231 : Arv Z h231 b231 (K 0) (.object "com/example/dongl/dongl/crypto/ProtocolVersion") (4 : Int32) [(.ref (A 0)), (.ref (A 1)), (.ref (A 2)), (.ref (A 3))] .null := V231
  obtain ⟨T232, X232, e232, st232⟩ := castY X231 hx hZ hown (hw _ (List.mem_of_getElem? (i := 52) rfl)) e231 (Ins.self A231) (g := (mkF m 6 #[] [(.ref b231)])) rfl rfl (hb hby own_d_prog_26_method_1_code_6)
  obtain ⟨fs, hr, hrun, hended, hW, hsame⟩ := X232.leave (v := some (.ref b231)) (fun h => by rw [Bd.returns] at h; cases h)
  refine ⟨_, _, pre0 _ ?_, hrun, hended, _, _, rfl, ?_, ⟨_, rfl⟩, hW, hsame.mono (by decide) (by decide)⟩
  · show Steps p.tables e below (s₁.setTop (mkF m 0 #[] [])) _
    refine st230 _ ?_
    show Steps p.tables e below (T230.setTop (mkF m 3 #[] [(.ref (A 4))])) _
    refine st231 _ ?_
    show Steps p.tables e below (T231.setTop (mkF m 6 #[] [(.ref b231)])) _
    refine st232 _ ?_
    show Steps p.tables e below (T232.setTop (mkF m 9 #[] [(.ref b231)])) _
    exact retOut X232 hx Bd.returns rfl (Or.inr (Or.inr (Or.inr (Or.inr ⟨rfl, rfl, rfl⟩)))) (hb hby own_d_prog_26_method_1_code_9) hr
  · show Q_rm29 Z p1 A K cs b189 b196 b228_b226_b214_b200 k189 k228_k226_k214_k200 h0 n0 _ T232.heap _
    rw [e232]
    exact ⟨b231, rfl, N0, KK231, ⟨gn_b231, sz_b231⟩, Vv231, A231⟩
theorem own_ef_rm31 (m : MethodId) (p1 : Int32) (A : Nat → Addr) (K : Nat → ClassId) (cs : Int32)  (b228_b226_b214_b200 : Addr) (k228_k226_k214_k200 : ClassId) : entryFrame m #[(.ref (A 9)), (.ref b228_b226_b214_b200)] 3 = mkF m 0 #[.val (.ref (A 9)), .val (.ref b228_b226_b214_b200), .unset] [] := by first | (simp [entryFrame, mkF, argsToLocals, Value.category, maxLocals]; done) | rfl
set_option maxRecDepth 65536 in
set_option maxHeartbeats 40000000 in
theorem rm31 (l : Launch) (Z : State) (a0 : Array Value) (hw : ∀ d ∈ tables_1, d.before a0 Z = true) (ws : List Jvm.Cond) (h0 : Heap) (n0 : Nat) (p1 : Int32) (A : Nat → Addr) (K : Nat → ClassId) (cs : Int32)  (b228_b226_b214_b200 : Addr) (k228_k226_k214_k200 : ClassId) (EN : own_St Z A K cs) (OL0 : Old Z n0 h0) (G_A_b228_b226_b214_b200 : Arv Z h0 b228_b226_b214_b200 k228_k226_k214_k200 .byte (3 : Int32) [(.int (51 : Int32)), (.int (46 : Int32)), (.int (50 : Int32))] (.int (0 : Int32))) :
    MetFree l own_m1 (head1 (Jvm.Cond.code own_m1 jdk_43_method_13_code 3 (some .boolean) :: ws) ({ frames := 0, cells := 0, slots := 0, locals := 0 } : Room)) (fun a U => a = #[(.ref (A 9)), (.ref b228_b226_b214_b200)] ∧ Z.Warmed39 U.vm ∧ U.heap = h0) (fun _ _ _ _ _ => True) (fun _ U o U' => ∃ v L, o = .returned v ∧ (PQ (some (.int (0 : Int32))) h0 n0) v U'.heap L ∧ FrameEnd U o U' L ({ frames := 0, cells := 0, slots := 0, locals := 0 } : Room).cells ({ frames := 0, cells := 0, slots := 0, locals := 0 } : Room).slots) := by
  refine MetFree.of_bodySF (plainFor_of_name own_pn3) hisR ?_
  intro p e s m args below meth c s₁ Bd hml0 hP hK
  obtain ⟨rfl, hZ, hh⟩ := hP
  have hx := Bd.exec
  have hby := Bd.bytes
  have hml : c.maxLocals = 3 := hml0
  have hown : s.vm.findClass "java/lang/StringLatin1" = some m.cls := findClass_of_methodNamed Bd.named
  have hnm := (name_of_methodNamed Bd.named Bd.method).1
  have X0 : Stand p l e ({ frames := 0, cells := 0, slots := 0, locals := 0 } : Room) s m #[(.ref (A 9)), (.ref b228_b226_b214_b200)] below meth c s₁ [] 0 0 := Stand.of_body Bd
  have e0 : s₁.heap = h0 := by rw [← hh, Bd.state]; rfl
  have N0 := Fr.nil n0
  have pre0 : ∀ t, Steps p.tables e below (s₁.setTop (mkF m 0 #[.val (.ref (A 9)), .val (.ref b228_b226_b214_b200), .unset] [])) t → Steps p.tables e below (s₁.setTop (entryFrame m #[(.ref (A 9)), (.ref b228_b226_b214_b200)] 3)) t := fun t k => castTop (own_ef_rm31 m p1 A K cs b228_b226_b214_b200 k228_k226_k214_k200) k
  have KK0 : Keep h0 h0 [] := Keep.refl _ _
  obtain ⟨cl244, Ar244, -, Sz244, Nn244, -, -⟩ := (id (EN.2.2.1.2.2.2.2.1.ext OL0.2))
  obtain ⟨cl245, Ar245, -, Sz245, Nn245, -, -⟩ := (id G_A_b228_b226_b214_b200)
  obtain ⟨cl246, Ar246, -, Sz246, Nn246, -, -⟩ := (id (EN.2.2.1.2.2.2.2.1.ext OL0.2))
  obtain ⟨cl247, Ar247, q247, Sz247, Nn247, Hh247, Gg247⟩ := (id (EN.2.2.1.2.2.2.2.1.ext OL0.2))
  have hin247 : ¬ ((0 : Int32) < 0 ∨ cl247.slots.size ≤ ((0 : Int32)).toNatClampNeg) := inb_of Sz247 ⟨by decide, by decide⟩
  have hat247 : cl247.slots[((0 : Int32)).toNatClampNeg]? = some (.int (51 : Int32)) := Has.at Hh247 hin247 rfl
  obtain ⟨cl248, Ar248, q248, Sz248, Nn248, Hh248, Gg248⟩ := (id G_A_b228_b226_b214_b200)
  have hin248 : ¬ ((0 : Int32) < 0 ∨ cl248.slots.size ≤ ((0 : Int32)).toNatClampNeg) := inb_of Sz248 ⟨by decide, by decide⟩
  have hat248 : cl248.slots[((0 : Int32)).toNatClampNeg]? = some (.int (51 : Int32)) := Has.at Hh248 hin248 rfl
  obtain ⟨cl249, Ar249, -, Sz249, Nn249, -, -⟩ := (id (EN.2.2.1.2.2.2.2.1.ext OL0.2))
  obtain ⟨cl250, Ar250, q250, Sz250, Nn250, Hh250, Gg250⟩ := (id (EN.2.2.1.2.2.2.2.1.ext OL0.2))
  have hin250 : ¬ ((1 : Int32) < 0 ∨ cl250.slots.size ≤ ((1 : Int32)).toNatClampNeg) := inb_of Sz250 ⟨by decide, by decide⟩
  have hat250 : cl250.slots[((1 : Int32)).toNatClampNeg]? = some (.int (46 : Int32)) := Has.at Hh250 hin250 rfl
  obtain ⟨cl251, Ar251, q251, Sz251, Nn251, Hh251, Gg251⟩ := (id G_A_b228_b226_b214_b200)
  have hin251 : ¬ ((1 : Int32) < 0 ∨ cl251.slots.size ≤ ((1 : Int32)).toNatClampNeg) := inb_of Sz251 ⟨by decide, by decide⟩
  have hat251 : cl251.slots[((1 : Int32)).toNatClampNeg]? = some (.int (46 : Int32)) := Has.at Hh251 hin251 rfl
  obtain ⟨cl252, Ar252, -, Sz252, Nn252, -, -⟩ := (id (EN.2.2.1.2.2.2.2.1.ext OL0.2))
  obtain ⟨cl253, Ar253, q253, Sz253, Nn253, Hh253, Gg253⟩ := (id (EN.2.2.1.2.2.2.2.1.ext OL0.2))
  have hin253 : ¬ ((2 : Int32) < 0 ∨ cl253.slots.size ≤ ((2 : Int32)).toNatClampNeg) := inb_of Sz253 ⟨by decide, by decide⟩
  have hat253 : cl253.slots[((2 : Int32)).toNatClampNeg]? = some (.int (48 : Int32)) := Has.at Hh253 hin253 rfl
  obtain ⟨cl254, Ar254, q254, Sz254, Nn254, Hh254, Gg254⟩ := (id G_A_b228_b226_b214_b200)
  have hin254 : ¬ ((2 : Int32) < 0 ∨ cl254.slots.size ≤ ((2 : Int32)).toNatClampNeg) := inb_of Sz254 ⟨by decide, by decide⟩
  have hat254 : cl254.slots[((2 : Int32)).toNatClampNeg]? = some (.int (50 : Int32)) := Has.at Hh254 hin254 rfl
  obtain ⟨fs, hr, hrun, hended, hW, hsame⟩ := X0.leave (v := some (.int (0 : Int32))) (fun h => by rw [Bd.returns] at h; cases h)
  refine ⟨_, _, pre0 _ ?_, hrun, hended, _, _, rfl, ?_, ⟨_, rfl⟩, hW, hsame.mono (by decide) (by decide)⟩
  · show Steps p.tables e below (s₁.setTop (mkF m 0 #[.val (.ref (A 9)), .val (.ref b228_b226_b214_b200), .unset] [])) _
    refine XS.aloadN X0.here hx rfl (hb hby own_d_jdk_43_method_13_code_0) rfl rfl ?_
    show Steps p.tables e below (s₁.setTop (mkF m 1 #[.val (.ref (A 9)), .val (.ref b228_b226_b214_b200), .unset] [(.ref (A 9))])) _
    refine X0.arraylength hx (by rw [e0]; exact Ar244.1) (State.isArrayOf_alike hZ.alike Ar244.2.1) (g := (mkF m 1 #[.val (.ref (A 9)), .val (.ref b228_b226_b214_b200), .unset] [(.ref (A 9))])) rfl rfl (hb hby own_d_jdk_43_method_13_code_1) _ ?_
    rw [len_of Sz244 Nn244]
    show Steps p.tables e below (s₁.setTop (mkF m 2 #[.val (.ref (A 9)), .val (.ref b228_b226_b214_b200), .unset] [(.int (3 : Int32))])) _
    refine XS.aloadN X0.here hx rfl (hb hby own_d_jdk_43_method_13_code_2) rfl rfl ?_
    show Steps p.tables e below (s₁.setTop (mkF m 3 #[.val (.ref (A 9)), .val (.ref b228_b226_b214_b200), .unset] [(.ref b228_b226_b214_b200), (.int (3 : Int32))])) _
    refine X0.arraylength hx (by rw [e0]; exact Ar245.1) (State.isArrayOf_alike hZ.alike Ar245.2.1) (g := (mkF m 3 #[.val (.ref (A 9)), .val (.ref b228_b226_b214_b200), .unset] [(.ref b228_b226_b214_b200), (.int (3 : Int32))])) rfl rfl (hb hby own_d_jdk_43_method_13_code_3) _ ?_
    rw [len_of Sz245 Nn245]
    show Steps p.tables e below (s₁.setTop (mkF m 4 #[.val (.ref (A 9)), .val (.ref b228_b226_b214_b200), .unset] [(.int (3 : Int32)), (.int (3 : Int32))])) _
    refine XS.icmpNo X0.here hx rfl (hb hby own_d_jdk_43_method_13_code_4) rfl (teq (by decide : (3 : Int32) = (3 : Int32))).2 ?_
    show Steps p.tables e below (s₁.setTop (mkF m 7 #[.val (.ref (A 9)), .val (.ref b228_b226_b214_b200), .unset] [])) _
    refine XS.iconst X0.here hx rfl (hb hby own_d_jdk_43_method_13_code_7) ?_
    show Steps p.tables e below (s₁.setTop (mkF m 8 #[.val (.ref (A 9)), .val (.ref b228_b226_b214_b200), .unset] [(.int (0 : Int32))])) _
    refine XS.istoreN X0.here hx rfl (hb hby own_d_jdk_43_method_13_code_8) rfl (l' := #[.val (.ref (A 9)), .val (.ref b228_b226_b214_b200), .val (.int (0 : Int32))]) rfl ?_
    show Steps p.tables e below (s₁.setTop (mkF m 9 #[.val (.ref (A 9)), .val (.ref b228_b226_b214_b200), .val (.int (0 : Int32))] [])) _
    refine XS.iloadN X0.here hx rfl (hb hby own_d_jdk_43_method_13_code_9) rfl ?_
    show Steps p.tables e below (s₁.setTop (mkF m 10 #[.val (.ref (A 9)), .val (.ref b228_b226_b214_b200), .val (.int (0 : Int32))] [(.int (0 : Int32))])) _
    refine XS.aloadN X0.here hx rfl (hb hby own_d_jdk_43_method_13_code_10) rfl rfl ?_
    show Steps p.tables e below (s₁.setTop (mkF m 11 #[.val (.ref (A 9)), .val (.ref b228_b226_b214_b200), .val (.int (0 : Int32))] [(.ref (A 9)), (.int (0 : Int32))])) _
    refine X0.arraylength hx (by rw [e0]; exact Ar246.1) (State.isArrayOf_alike hZ.alike Ar246.2.1) (g := (mkF m 11 #[.val (.ref (A 9)), .val (.ref b228_b226_b214_b200), .val (.int (0 : Int32))] [(.ref (A 9)), (.int (0 : Int32))])) rfl rfl (hb hby own_d_jdk_43_method_13_code_11) _ ?_
    rw [len_of Sz246 Nn246]
    show Steps p.tables e below (s₁.setTop (mkF m 12 #[.val (.ref (A 9)), .val (.ref b228_b226_b214_b200), .val (.int (0 : Int32))] [(.int (3 : Int32)), (.int (0 : Int32))])) _
    refine XS.icmpNo X0.here hx rfl (hb hby own_d_jdk_43_method_13_code_12) rfl (tlt (by decide : (0 : Int32) < (3 : Int32))).2.1 ?_
    show Steps p.tables e below (s₁.setTop (mkF m 15 #[.val (.ref (A 9)), .val (.ref b228_b226_b214_b200), .val (.int (0 : Int32))] [])) _
    refine XS.aloadN X0.here hx rfl (hb hby own_d_jdk_43_method_13_code_15) rfl rfl ?_
    show Steps p.tables e below (s₁.setTop (mkF m 16 #[.val (.ref (A 9)), .val (.ref b228_b226_b214_b200), .val (.int (0 : Int32))] [(.ref (A 9))])) _
    refine XS.iloadN X0.here hx rfl (hb hby own_d_jdk_43_method_13_code_16) rfl ?_
    show Steps p.tables e below (s₁.setTop (mkF m 17 #[.val (.ref (A 9)), .val (.ref b228_b226_b214_b200), .val (.int (0 : Int32))] [(.int (0 : Int32)), (.ref (A 9))])) _
    refine X0.baloadBytes hx (j := (0 : Int32)) (v := (.int (51 : Int32))) (by rw [e0]; exact Ar247.1) (State.isArrayOf_alike hZ.alike Ar247.2.1) Ar247.2.2 hin247 hat247 (g := (mkF m 17 #[.val (.ref (A 9)), .val (.ref b228_b226_b214_b200), .val (.int (0 : Int32))] [(.int (0 : Int32)), (.ref (A 9))])) rfl rfl (hb hby own_d_jdk_43_method_13_code_17) _ ?_
    show Steps p.tables e below (s₁.setTop (mkF m 18 #[.val (.ref (A 9)), .val (.ref b228_b226_b214_b200), .val (.int (0 : Int32))] [(.int (51 : Int32))])) _
    refine XS.aloadN X0.here hx rfl (hb hby own_d_jdk_43_method_13_code_18) rfl rfl ?_
    show Steps p.tables e below (s₁.setTop (mkF m 19 #[.val (.ref (A 9)), .val (.ref b228_b226_b214_b200), .val (.int (0 : Int32))] [(.ref b228_b226_b214_b200), (.int (51 : Int32))])) _
    refine XS.iloadN X0.here hx rfl (hb hby own_d_jdk_43_method_13_code_19) rfl ?_
    show Steps p.tables e below (s₁.setTop (mkF m 20 #[.val (.ref (A 9)), .val (.ref b228_b226_b214_b200), .val (.int (0 : Int32))] [(.int (0 : Int32)), (.ref b228_b226_b214_b200), (.int (51 : Int32))])) _
    refine X0.baloadBytes hx (j := (0 : Int32)) (v := (.int (51 : Int32))) (by rw [e0]; exact Ar248.1) (State.isArrayOf_alike hZ.alike Ar248.2.1) Ar248.2.2 hin248 hat248 (g := (mkF m 20 #[.val (.ref (A 9)), .val (.ref b228_b226_b214_b200), .val (.int (0 : Int32))] [(.int (0 : Int32)), (.ref b228_b226_b214_b200), (.int (51 : Int32))])) rfl rfl (hb hby own_d_jdk_43_method_13_code_20) _ ?_
    show Steps p.tables e below (s₁.setTop (mkF m 21 #[.val (.ref (A 9)), .val (.ref b228_b226_b214_b200), .val (.int (0 : Int32))] [(.int (51 : Int32)), (.int (51 : Int32))])) _
    refine XS.icmpYes X0.here hx rfl (pc0 := 21) (pc' := 26) rfl (hb hby own_d_jdk_43_method_13_code_21) rfl (teq (by decide : (51 : Int32) = (51 : Int32))).1 (by decide) (by decide) ?_
    show Steps p.tables e below (s₁.setTop (mkF m 26 #[.val (.ref (A 9)), .val (.ref b228_b226_b214_b200), .val (.int (0 : Int32))] [])) _
    refine XS.iinc X0.here hx rfl (hb hby own_d_jdk_43_method_13_code_26) rfl (l' := #[.val (.ref (A 9)), .val (.ref b228_b226_b214_b200), .val (.int (1 : Int32))]) rfl ?_
    show Steps p.tables e below (s₁.setTop (mkF m 29 #[.val (.ref (A 9)), .val (.ref b228_b226_b214_b200), .val (.int (1 : Int32))] [])) _
    refine XS.goto X0.here hx rfl (pc0 := 29) (pc' := 9) rfl (hb hby own_d_jdk_43_method_13_code_29) (by decide) (by decide) ?_
    show Steps p.tables e below (s₁.setTop (mkF m 9 #[.val (.ref (A 9)), .val (.ref b228_b226_b214_b200), .val (.int (1 : Int32))] [])) _
    refine XS.iloadN X0.here hx rfl (hb hby own_d_jdk_43_method_13_code_9) rfl ?_
    show Steps p.tables e below (s₁.setTop (mkF m 10 #[.val (.ref (A 9)), .val (.ref b228_b226_b214_b200), .val (.int (1 : Int32))] [(.int (1 : Int32))])) _
    refine XS.aloadN X0.here hx rfl (hb hby own_d_jdk_43_method_13_code_10) rfl rfl ?_
    show Steps p.tables e below (s₁.setTop (mkF m 11 #[.val (.ref (A 9)), .val (.ref b228_b226_b214_b200), .val (.int (1 : Int32))] [(.ref (A 9)), (.int (1 : Int32))])) _
    refine X0.arraylength hx (by rw [e0]; exact Ar249.1) (State.isArrayOf_alike hZ.alike Ar249.2.1) (g := (mkF m 11 #[.val (.ref (A 9)), .val (.ref b228_b226_b214_b200), .val (.int (1 : Int32))] [(.ref (A 9)), (.int (1 : Int32))])) rfl rfl (hb hby own_d_jdk_43_method_13_code_11) _ ?_
    rw [len_of Sz249 Nn249]
    show Steps p.tables e below (s₁.setTop (mkF m 12 #[.val (.ref (A 9)), .val (.ref b228_b226_b214_b200), .val (.int (1 : Int32))] [(.int (3 : Int32)), (.int (1 : Int32))])) _
    refine XS.icmpNo X0.here hx rfl (hb hby own_d_jdk_43_method_13_code_12) rfl (tlt (by decide : (1 : Int32) < (3 : Int32))).2.1 ?_
    show Steps p.tables e below (s₁.setTop (mkF m 15 #[.val (.ref (A 9)), .val (.ref b228_b226_b214_b200), .val (.int (1 : Int32))] [])) _
    refine XS.aloadN X0.here hx rfl (hb hby own_d_jdk_43_method_13_code_15) rfl rfl ?_
    show Steps p.tables e below (s₁.setTop (mkF m 16 #[.val (.ref (A 9)), .val (.ref b228_b226_b214_b200), .val (.int (1 : Int32))] [(.ref (A 9))])) _
    refine XS.iloadN X0.here hx rfl (hb hby own_d_jdk_43_method_13_code_16) rfl ?_
    show Steps p.tables e below (s₁.setTop (mkF m 17 #[.val (.ref (A 9)), .val (.ref b228_b226_b214_b200), .val (.int (1 : Int32))] [(.int (1 : Int32)), (.ref (A 9))])) _
    refine X0.baloadBytes hx (j := (1 : Int32)) (v := (.int (46 : Int32))) (by rw [e0]; exact Ar250.1) (State.isArrayOf_alike hZ.alike Ar250.2.1) Ar250.2.2 hin250 hat250 (g := (mkF m 17 #[.val (.ref (A 9)), .val (.ref b228_b226_b214_b200), .val (.int (1 : Int32))] [(.int (1 : Int32)), (.ref (A 9))])) rfl rfl (hb hby own_d_jdk_43_method_13_code_17) _ ?_
    show Steps p.tables e below (s₁.setTop (mkF m 18 #[.val (.ref (A 9)), .val (.ref b228_b226_b214_b200), .val (.int (1 : Int32))] [(.int (46 : Int32))])) _
    refine XS.aloadN X0.here hx rfl (hb hby own_d_jdk_43_method_13_code_18) rfl rfl ?_
    show Steps p.tables e below (s₁.setTop (mkF m 19 #[.val (.ref (A 9)), .val (.ref b228_b226_b214_b200), .val (.int (1 : Int32))] [(.ref b228_b226_b214_b200), (.int (46 : Int32))])) _
    refine XS.iloadN X0.here hx rfl (hb hby own_d_jdk_43_method_13_code_19) rfl ?_
    show Steps p.tables e below (s₁.setTop (mkF m 20 #[.val (.ref (A 9)), .val (.ref b228_b226_b214_b200), .val (.int (1 : Int32))] [(.int (1 : Int32)), (.ref b228_b226_b214_b200), (.int (46 : Int32))])) _
    refine X0.baloadBytes hx (j := (1 : Int32)) (v := (.int (46 : Int32))) (by rw [e0]; exact Ar251.1) (State.isArrayOf_alike hZ.alike Ar251.2.1) Ar251.2.2 hin251 hat251 (g := (mkF m 20 #[.val (.ref (A 9)), .val (.ref b228_b226_b214_b200), .val (.int (1 : Int32))] [(.int (1 : Int32)), (.ref b228_b226_b214_b200), (.int (46 : Int32))])) rfl rfl (hb hby own_d_jdk_43_method_13_code_20) _ ?_
    show Steps p.tables e below (s₁.setTop (mkF m 21 #[.val (.ref (A 9)), .val (.ref b228_b226_b214_b200), .val (.int (1 : Int32))] [(.int (46 : Int32)), (.int (46 : Int32))])) _
    refine XS.icmpYes X0.here hx rfl (pc0 := 21) (pc' := 26) rfl (hb hby own_d_jdk_43_method_13_code_21) rfl (teq (by decide : (46 : Int32) = (46 : Int32))).1 (by decide) (by decide) ?_
    show Steps p.tables e below (s₁.setTop (mkF m 26 #[.val (.ref (A 9)), .val (.ref b228_b226_b214_b200), .val (.int (1 : Int32))] [])) _
    refine XS.iinc X0.here hx rfl (hb hby own_d_jdk_43_method_13_code_26) rfl (l' := #[.val (.ref (A 9)), .val (.ref b228_b226_b214_b200), .val (.int (2 : Int32))]) rfl ?_
    show Steps p.tables e below (s₁.setTop (mkF m 29 #[.val (.ref (A 9)), .val (.ref b228_b226_b214_b200), .val (.int (2 : Int32))] [])) _
    refine XS.goto X0.here hx rfl (pc0 := 29) (pc' := 9) rfl (hb hby own_d_jdk_43_method_13_code_29) (by decide) (by decide) ?_
    show Steps p.tables e below (s₁.setTop (mkF m 9 #[.val (.ref (A 9)), .val (.ref b228_b226_b214_b200), .val (.int (2 : Int32))] [])) _
    refine XS.iloadN X0.here hx rfl (hb hby own_d_jdk_43_method_13_code_9) rfl ?_
    show Steps p.tables e below (s₁.setTop (mkF m 10 #[.val (.ref (A 9)), .val (.ref b228_b226_b214_b200), .val (.int (2 : Int32))] [(.int (2 : Int32))])) _
    refine XS.aloadN X0.here hx rfl (hb hby own_d_jdk_43_method_13_code_10) rfl rfl ?_
    show Steps p.tables e below (s₁.setTop (mkF m 11 #[.val (.ref (A 9)), .val (.ref b228_b226_b214_b200), .val (.int (2 : Int32))] [(.ref (A 9)), (.int (2 : Int32))])) _
    refine X0.arraylength hx (by rw [e0]; exact Ar252.1) (State.isArrayOf_alike hZ.alike Ar252.2.1) (g := (mkF m 11 #[.val (.ref (A 9)), .val (.ref b228_b226_b214_b200), .val (.int (2 : Int32))] [(.ref (A 9)), (.int (2 : Int32))])) rfl rfl (hb hby own_d_jdk_43_method_13_code_11) _ ?_
    rw [len_of Sz252 Nn252]
    show Steps p.tables e below (s₁.setTop (mkF m 12 #[.val (.ref (A 9)), .val (.ref b228_b226_b214_b200), .val (.int (2 : Int32))] [(.int (3 : Int32)), (.int (2 : Int32))])) _
    refine XS.icmpNo X0.here hx rfl (hb hby own_d_jdk_43_method_13_code_12) rfl (tlt (by decide : (2 : Int32) < (3 : Int32))).2.1 ?_
    show Steps p.tables e below (s₁.setTop (mkF m 15 #[.val (.ref (A 9)), .val (.ref b228_b226_b214_b200), .val (.int (2 : Int32))] [])) _
    refine XS.aloadN X0.here hx rfl (hb hby own_d_jdk_43_method_13_code_15) rfl rfl ?_
    show Steps p.tables e below (s₁.setTop (mkF m 16 #[.val (.ref (A 9)), .val (.ref b228_b226_b214_b200), .val (.int (2 : Int32))] [(.ref (A 9))])) _
    refine XS.iloadN X0.here hx rfl (hb hby own_d_jdk_43_method_13_code_16) rfl ?_
    show Steps p.tables e below (s₁.setTop (mkF m 17 #[.val (.ref (A 9)), .val (.ref b228_b226_b214_b200), .val (.int (2 : Int32))] [(.int (2 : Int32)), (.ref (A 9))])) _
    refine X0.baloadBytes hx (j := (2 : Int32)) (v := (.int (48 : Int32))) (by rw [e0]; exact Ar253.1) (State.isArrayOf_alike hZ.alike Ar253.2.1) Ar253.2.2 hin253 hat253 (g := (mkF m 17 #[.val (.ref (A 9)), .val (.ref b228_b226_b214_b200), .val (.int (2 : Int32))] [(.int (2 : Int32)), (.ref (A 9))])) rfl rfl (hb hby own_d_jdk_43_method_13_code_17) _ ?_
    show Steps p.tables e below (s₁.setTop (mkF m 18 #[.val (.ref (A 9)), .val (.ref b228_b226_b214_b200), .val (.int (2 : Int32))] [(.int (48 : Int32))])) _
    refine XS.aloadN X0.here hx rfl (hb hby own_d_jdk_43_method_13_code_18) rfl rfl ?_
    show Steps p.tables e below (s₁.setTop (mkF m 19 #[.val (.ref (A 9)), .val (.ref b228_b226_b214_b200), .val (.int (2 : Int32))] [(.ref b228_b226_b214_b200), (.int (48 : Int32))])) _
    refine XS.iloadN X0.here hx rfl (hb hby own_d_jdk_43_method_13_code_19) rfl ?_
    show Steps p.tables e below (s₁.setTop (mkF m 20 #[.val (.ref (A 9)), .val (.ref b228_b226_b214_b200), .val (.int (2 : Int32))] [(.int (2 : Int32)), (.ref b228_b226_b214_b200), (.int (48 : Int32))])) _
    refine X0.baloadBytes hx (j := (2 : Int32)) (v := (.int (50 : Int32))) (by rw [e0]; exact Ar254.1) (State.isArrayOf_alike hZ.alike Ar254.2.1) Ar254.2.2 hin254 hat254 (g := (mkF m 20 #[.val (.ref (A 9)), .val (.ref b228_b226_b214_b200), .val (.int (2 : Int32))] [(.int (2 : Int32)), (.ref b228_b226_b214_b200), (.int (48 : Int32))])) rfl rfl (hb hby own_d_jdk_43_method_13_code_20) _ ?_
    show Steps p.tables e below (s₁.setTop (mkF m 21 #[.val (.ref (A 9)), .val (.ref b228_b226_b214_b200), .val (.int (2 : Int32))] [(.int (50 : Int32)), (.int (48 : Int32))])) _
    refine XS.icmpNo X0.here hx rfl (hb hby own_d_jdk_43_method_13_code_21) rfl (feq (by decide : ¬ ((48 : Int32) = (50 : Int32)))).1 ?_
    show Steps p.tables e below (s₁.setTop (mkF m 24 #[.val (.ref (A 9)), .val (.ref b228_b226_b214_b200), .val (.int (2 : Int32))] [])) _
    refine XS.iconst X0.here hx rfl (hb hby own_d_jdk_43_method_13_code_24) ?_
    show Steps p.tables e below (s₁.setTop (mkF m 25 #[.val (.ref (A 9)), .val (.ref b228_b226_b214_b200), .val (.int (2 : Int32))] [(.int (0 : Int32))])) _
    exact retN X0 hx (t := .boolean) Bd.returns (by simp) (hb hby own_d_jdk_43_method_13_code_25) hr
  · show PQ (some (.int (0 : Int32))) h0 n0 _ s₁.heap _
    rw [e0]
    exact ⟨rfl, N0, rfl⟩
theorem own_ef_rm30 (m : MethodId) (p1 : Int32) (A : Nat → Addr) (K : Nat → ClassId) (cs : Int32)  (b196 : Addr) (b228_b226_b214_b200 : Addr) (k228_k226_k214_k200 : ClassId) : entryFrame m #[(.ref (A 5)), (.ref b196)] 3 = mkF m 0 #[.val (.ref (A 5)), .val (.ref b196), .unset] [] := by first | (simp [entryFrame, mkF, argsToLocals, Value.category, maxLocals]; done) | rfl
set_option maxRecDepth 65536 in
set_option maxHeartbeats 40000000 in
theorem rm30 (l : Launch) (Z : State) (a0 : Array Value) (hw : ∀ d ∈ tables_1, d.before a0 Z = true) (ws : List Jvm.Cond) (h0 : Heap) (n0 : Nat) (p1 : Int32) (A : Nat → Addr) (K : Nat → ClassId) (cs : Int32)  (b196 : Addr) (b228_b226_b214_b200 : Addr) (k228_k226_k214_k200 : ClassId) (EN : own_St Z A K cs) (OL0 : Old Z n0 h0) (G_F_b196_java_lang_String_value : Fld Z h0 b196 "java/lang/String" "value" "[B" (.ref b228_b226_b214_b200)) (G_A_b228_b226_b214_b200 : Arv Z h0 b228_b226_b214_b200 k228_k226_k214_k200 .byte (3 : Int32) [(.int (51 : Int32)), (.int (46 : Int32)), (.int (50 : Int32))] (.int (0 : Int32))) (G_E_b196 : Exa Z h0 b196 "java/lang/String") (G_F_b196_java_lang_String_coder : Fld Z h0 b196 "java/lang/String" "coder" "B" (.int (0 : Int32))) :
    MetFree l own_m0 (head1 (Jvm.Cond.code own_m0 jdk_42_method_66_code 3 (some .boolean) :: ws) ({ frames := 1, cells := 0, slots := 0, locals := 14 } : Room)) (fun a U => a = #[(.ref (A 5)), (.ref b196)] ∧ Z.Warmed39 U.vm ∧ U.heap = h0) (fun _ _ _ _ _ => True) (fun _ U o U' => ∃ v L, o = .returned v ∧ (PQ (some (.int (0 : Int32))) h0 n0) v U'.heap L ∧ FrameEnd U o U' L ({ frames := 1, cells := 0, slots := 0, locals := 14 } : Room).cells ({ frames := 1, cells := 0, slots := 0, locals := 14 } : Room).slots) := by
  refine MetFree.of_bodySF (plainFor_of_name own_pn1) hisR ?_
  intro p e s m args below meth c s₁ Bd hml0 hP hK
  obtain ⟨rfl, hZ, hh⟩ := hP
  have hx := Bd.exec
  have hby := Bd.bytes
  have hml : c.maxLocals = 3 := hml0
  have hown : s.vm.findClass "java/lang/String" = some m.cls := findClass_of_methodNamed Bd.named
  have hnm := (name_of_methodNamed Bd.named Bd.method).1
  have X0 : Stand p l e ({ frames := 1, cells := 0, slots := 0, locals := 14 } : Room) s m #[(.ref (A 5)), (.ref b196)] below meth c s₁ [] 0 0 := Stand.of_body Bd
  have e0 : s₁.heap = h0 := by rw [← hh, Bd.state]; rfl
  have N0 := Fr.nil n0
  have pre0 : ∀ t, Steps p.tables e below (s₁.setTop (mkF m 0 #[.val (.ref (A 5)), .val (.ref b196), .unset] [])) t → Steps p.tables e below (s₁.setTop (entryFrame m #[(.ref (A 5)), (.ref b196)] 3)) t := fun t k => castTop (own_ef_rm30 m p1 A K cs b196 b228_b226_b214_b200 k228_k226_k214_k200) k
  have KK0 : Keep h0 h0 [] := Keep.refl _ _
  obtain ⟨T237, X237, e237, st237⟩ := instY X0 hx hZ hown (hw _ (List.mem_of_getElem? (i := 61) rfl)) e0 (Ins.self G_E_b196) (g := (mkF m 8 #[.val (.ref (A 5)), .val (.ref b196), .unset] [(.ref b196)])) rfl rfl (hb hby own_d_jdk_42_method_66_code_8)
  obtain ⟨T238, X238, e238, st238⟩ := castY X237 hx hZ hown (hw _ (List.mem_of_getElem? (i := 61) rfl)) e237 (Ins.self G_E_b196) (g := (mkF m 15 #[.val (.ref (A 5)), .val (.ref b196), .unset] [(.ref b196)])) rfl rfl (hb hby own_d_jdk_42_method_66_code_15)
  obtain ⟨T239, X239, e239, st239⟩ := getS2 X238 hx hZ hown (host := "") (Or.inl (hw _ (List.mem_of_getElem? (i := 14) rfl))) Via.refl e238 (EN.2.2.2.1.2.2.2.1.ext OL0.2) (g := (mkF m 19 #[.val (.ref (A 5)), .val (.ref b196), .val (.ref b196)] [])) rfl (hb hby own_d_jdk_42_method_66_code_19)
  obtain ⟨T240, X240, e240, st240⟩ := getF X239 hx hZ hown (host := "") (Or.inl (hw _ (List.mem_of_getElem? (i := 26) rfl))) Via.refl e239 (EN.2.2.2.1.2.2.2.2.2.2.1.ext OL0.2) (g := (mkF m 26 #[.val (.ref (A 5)), .val (.ref b196), .val (.ref b196)] [(.ref (A 5))])) rfl rfl (hb hby own_d_jdk_42_method_66_code_26)
  obtain ⟨T241, X241, e241, st241⟩ := getF X240 hx hZ hown (host := "") (Or.inl (hw _ (List.mem_of_getElem? (i := 26) rfl))) Via.refl e240 G_F_b196_java_lang_String_coder (g := (mkF m 30 #[.val (.ref (A 5)), .val (.ref b196), .val (.ref b196)] [(.ref b196), (.int (0 : Int32))])) rfl rfl (hb hby own_d_jdk_42_method_66_code_30)
  obtain ⟨T242, X242, e242, st242⟩ := getF X241 hx hZ hown (host := "") (Or.inl (hw _ (List.mem_of_getElem? (i := 28) rfl))) Via.refl e241 (EN.2.2.1.2.2.2.1.ext OL0.2) (g := (mkF m 37 #[.val (.ref (A 5)), .val (.ref b196), .val (.ref b196)] [(.ref (A 5))])) rfl rfl (hb hby own_d_jdk_42_method_66_code_37)
  obtain ⟨T243, X243, e243, st243⟩ := getF X242 hx hZ hown (host := "") (Or.inl (hw _ (List.mem_of_getElem? (i := 28) rfl))) Via.refl e242 G_F_b196_java_lang_String_value (g := (mkF m 41 #[.val (.ref (A 5)), .val (.ref b196), .val (.ref b196)] [(.ref b196), (.ref (A 9))])) rfl rfl (hb hby own_d_jdk_42_method_66_code_41)
  obtain ⟨_, _, ⟨T255, L255, k255, n255⟩, -, X255, ⟨Lc255, hQ255, l255, y255, z255⟩, st255⟩ := Jvm.LawKit.callS X243 hx (y := own_m1) hown (mvT hZ (hw _ (List.mem_of_getElem? (i := 62) rfl))) (mvT hZ (hw _ (List.mem_of_getElem? (i := 63) rfl))) (mvT hZ (hw _ (List.mem_of_getElem? (i := 64) rfl))) (mvT hZ (hw _ (List.mem_of_getElem? (i := 65) rfl))) (by decide) (backOf (W := 0) (rm31 l Z a0 hw [] h0 n0 p1 A K cs b228_b226_b214_b200 k228_k226_k214_k200 EN OL0 G_A_b228_b226_b214_b200) hZ (hw _ (List.mem_of_getElem? (i := 65) rfl)) (hw _ (List.mem_of_getElem? (i := 64) rfl)) (by decide) (by decide)) (g := (mkF m 44 #[.val (.ref (A 5)), .val (.ref b196), .val (.ref b196)] [(.ref b228_b226_b214_b200), (.ref (A 9))])) rfl (by rw [hml]; rfl) (argsL := [(.ref (A 9)), (.ref b228_b226_b214_b200)]) (rest := []) (lenOf own_pd6 rfl) rfl (by show 2 * 0 + _ ≤ _; exact Nat.le_of_eq rfl) (hb hby own_d_jdk_42_method_66_code_44) (fun _ _ => ⟨rfl, e243, (by decide : 0 + 0 ≤ _), (by decide : 0 + 0 ≤ _)⟩)
  dsimp only [Pt.U, Pt.locs, Pt.cells, Pt.slots] at X255 l255 y255 z255 st255 hQ255
  subst l255 y255 z255
  obtain ⟨rfl, N255q, e255⟩ := hQ255
  have N255 := Fr.app N0 N255q
  obtain ⟨fs, hr, hrun, hended, hW, hsame⟩ := X255.leave (v := some (.int (0 : Int32))) (fun h => by rw [Bd.returns] at h; cases h)
  refine ⟨_, _, pre0 _ ?_, hrun, hended, _, _, rfl, ?_, ⟨_, rfl⟩, hW, hsame.mono (by decide) (by decide)⟩
  · show Steps p.tables e below (s₁.setTop (mkF m 0 #[.val (.ref (A 5)), .val (.ref b196), .unset] [])) _
    refine XS.aloadN X0.here hx rfl (hb hby own_d_jdk_42_method_66_code_0) rfl rfl ?_
    show Steps p.tables e below (s₁.setTop (mkF m 1 #[.val (.ref (A 5)), .val (.ref b196), .unset] [(.ref (A 5))])) _
    refine XS.aloadN X0.here hx rfl (hb hby own_d_jdk_42_method_66_code_1) rfl rfl ?_
    show Steps p.tables e below (s₁.setTop (mkF m 2 #[.val (.ref (A 5)), .val (.ref b196), .unset] [(.ref b196), (.ref (A 5))])) _
    refine Jvm.RoadKit.acmp (g := (mkF m 2 #[.val (.ref (A 5)), .val (.ref b196), .unset] [(.ref b196), (.ref (A 5))])) X0 hx rfl rfl rfl (pc0 := 2) (pc' := 7) (same := false) rfl (hb hby own_d_jdk_42_method_66_code_2) rfl (decide_eq_false fun q => (Fld.ne (EN.2.2.1.2.2.2.1.ext OL0.2) G_F_b196_java_lang_String_value (fun h => arv_ne (EN.2.2.1.2.2.2.2.1.ext OL0.2) G_A_b228_b226_b214_b200 (Or.inr ⟨2, by decide, fun h => by injection h with h; exact absurd h (by decide)⟩) (Value.ref.inj h))) (Value.ref.inj q)) (by decide) (by decide) ?_
    show Steps p.tables e below (s₁.setTop (mkF m 7 #[.val (.ref (A 5)), .val (.ref b196), .unset] [])) _
    refine XS.aloadN X0.here hx rfl (hb hby own_d_jdk_42_method_66_code_7) rfl rfl ?_
    show Steps p.tables e below (s₁.setTop (mkF m 8 #[.val (.ref (A 5)), .val (.ref b196), .unset] [(.ref b196)])) _
    refine st237 _ ?_
    show Steps p.tables e below (T237.setTop (mkF m 11 #[.val (.ref (A 5)), .val (.ref b196), .unset] [(.int (1 : Int32))])) _
    refine XS.ifNo X237.here hx rfl (hb hby own_d_jdk_42_method_66_code_11) rfl ((if0 _ _).trans (feq (by decide : ¬ ((1 : Int32) = (0 : Int32)))).1) ?_
    show Steps p.tables e below (T237.setTop (mkF m 14 #[.val (.ref (A 5)), .val (.ref b196), .unset] [])) _
    refine XS.aloadN X237.here hx rfl (hb hby own_d_jdk_42_method_66_code_14) rfl rfl ?_
    show Steps p.tables e below (T237.setTop (mkF m 15 #[.val (.ref (A 5)), .val (.ref b196), .unset] [(.ref b196)])) _
    refine st238 _ ?_
    show Steps p.tables e below (T238.setTop (mkF m 18 #[.val (.ref (A 5)), .val (.ref b196), .unset] [(.ref b196)])) _
    refine XS.astoreN X238.here hx rfl (hb hby own_d_jdk_42_method_66_code_18) rfl rfl (l' := #[.val (.ref (A 5)), .val (.ref b196), .val (.ref b196)]) rfl ?_
    show Steps p.tables e below (T238.setTop (mkF m 19 #[.val (.ref (A 5)), .val (.ref b196), .val (.ref b196)] [])) _
    refine st239 _ ?_
    show Steps p.tables e below (T239.setTop (mkF m 22 #[.val (.ref (A 5)), .val (.ref b196), .val (.ref b196)] [(.int cs)])) _
    refine XS.ifNo X239.here hx rfl (hb hby own_d_jdk_42_method_66_code_22) rfl ((if0 _ _).trans (feq EN.2.2.2.1.2.2.2.2.1).1) ?_
    show Steps p.tables e below (T239.setTop (mkF m 25 #[.val (.ref (A 5)), .val (.ref b196), .val (.ref b196)] [])) _
    refine XS.aloadN X239.here hx rfl (hb hby own_d_jdk_42_method_66_code_25) rfl rfl ?_
    show Steps p.tables e below (T239.setTop (mkF m 26 #[.val (.ref (A 5)), .val (.ref b196), .val (.ref b196)] [(.ref (A 5))])) _
    refine st240 _ ?_
    show Steps p.tables e below (T240.setTop (mkF m 29 #[.val (.ref (A 5)), .val (.ref b196), .val (.ref b196)] [(.int (0 : Int32))])) _
    refine XS.aloadN X240.here hx rfl (hb hby own_d_jdk_42_method_66_code_29) rfl rfl ?_
    show Steps p.tables e below (T240.setTop (mkF m 30 #[.val (.ref (A 5)), .val (.ref b196), .val (.ref b196)] [(.ref b196), (.int (0 : Int32))])) _
    refine st241 _ ?_
    show Steps p.tables e below (T241.setTop (mkF m 33 #[.val (.ref (A 5)), .val (.ref b196), .val (.ref b196)] [(.int (0 : Int32)), (.int (0 : Int32))])) _
    refine XS.icmpNo X241.here hx rfl (hb hby own_d_jdk_42_method_66_code_33) rfl (teq (by decide : (0 : Int32) = (0 : Int32))).2 ?_
    show Steps p.tables e below (T241.setTop (mkF m 36 #[.val (.ref (A 5)), .val (.ref b196), .val (.ref b196)] [])) _
    refine XS.aloadN X241.here hx rfl (hb hby own_d_jdk_42_method_66_code_36) rfl rfl ?_
    show Steps p.tables e below (T241.setTop (mkF m 37 #[.val (.ref (A 5)), .val (.ref b196), .val (.ref b196)] [(.ref (A 5))])) _
    refine st242 _ ?_
    show Steps p.tables e below (T242.setTop (mkF m 40 #[.val (.ref (A 5)), .val (.ref b196), .val (.ref b196)] [(.ref (A 9))])) _
    refine XS.aloadN X242.here hx rfl (hb hby own_d_jdk_42_method_66_code_40) rfl rfl ?_
    show Steps p.tables e below (T242.setTop (mkF m 41 #[.val (.ref (A 5)), .val (.ref b196), .val (.ref b196)] [(.ref b196), (.ref (A 9))])) _
    refine st243 _ ?_
    show Steps p.tables e below (T243.setTop (mkF m 44 #[.val (.ref (A 5)), .val (.ref b196), .val (.ref b196)] [(.ref b228_b226_b214_b200), (.ref (A 9))])) _
    refine st255 _ ?_
    show Steps p.tables e below (T255.setTop (mkF m 47 #[.val (.ref (A 5)), .val (.ref b196), .val (.ref b196)] [(.int (0 : Int32))])) _
    refine XS.ifYes X255.here hx rfl (pc0 := 47) (pc' := 54) rfl (hb hby own_d_jdk_42_method_66_code_47) rfl ((if0 _ _).trans (teq (by decide : (0 : Int32) = (0 : Int32))).1) (by decide) (by decide) ?_
    show Steps p.tables e below (T255.setTop (mkF m 54 #[.val (.ref (A 5)), .val (.ref b196), .val (.ref b196)] [])) _
    refine XS.iconst X255.here hx rfl (hb hby own_d_jdk_42_method_66_code_54) ?_
    show Steps p.tables e below (T255.setTop (mkF m 55 #[.val (.ref (A 5)), .val (.ref b196), .val (.ref b196)] [(.int (0 : Int32))])) _
    exact retN X255 hx (t := .boolean) Bd.returns (by simp) (hb hby own_d_jdk_42_method_66_code_55) hr
  · show PQ (some (.int (0 : Int32))) h0 n0 _ T255.heap _
    rw [e255]
    exact ⟨rfl, N255, rfl⟩
theorem own_ef_rm33 (m : MethodId) (p1 : Int32) (A : Nat → Addr) (K : Nat → ClassId) (cs : Int32)  (b228_b226_b214_b200 : Addr) (k228_k226_k214_k200 : ClassId) : entryFrame m #[(.ref (A 10)), (.ref b228_b226_b214_b200)] 3 = mkF m 0 #[.val (.ref (A 10)), .val (.ref b228_b226_b214_b200), .unset] [] := by first | (simp [entryFrame, mkF, argsToLocals, Value.category, maxLocals]; done) | rfl
set_option maxRecDepth 65536 in
set_option maxHeartbeats 40000000 in
theorem rm33 (l : Launch) (Z : State) (a0 : Array Value) (hw : ∀ d ∈ tables_1, d.before a0 Z = true) (ws : List Jvm.Cond) (h0 : Heap) (n0 : Nat) (p1 : Int32) (A : Nat → Addr) (K : Nat → ClassId) (cs : Int32)  (b228_b226_b214_b200 : Addr) (k228_k226_k214_k200 : ClassId) (EN : own_St Z A K cs) (OL0 : Old Z n0 h0) (G_A_b228_b226_b214_b200 : Arv Z h0 b228_b226_b214_b200 k228_k226_k214_k200 .byte (3 : Int32) [(.int (51 : Int32)), (.int (46 : Int32)), (.int (50 : Int32))] (.int (0 : Int32))) :
    MetFree l own_m1 (head1 (Jvm.Cond.code own_m1 jdk_43_method_13_code 3 (some .boolean) :: ws) ({ frames := 0, cells := 0, slots := 0, locals := 0 } : Room)) (fun a U => a = #[(.ref (A 10)), (.ref b228_b226_b214_b200)] ∧ Z.Warmed39 U.vm ∧ U.heap = h0) (fun _ _ _ _ _ => True) (fun _ U o U' => ∃ v L, o = .returned v ∧ (PQ (some (.int (0 : Int32))) h0 n0) v U'.heap L ∧ FrameEnd U o U' L ({ frames := 0, cells := 0, slots := 0, locals := 0 } : Room).cells ({ frames := 0, cells := 0, slots := 0, locals := 0 } : Room).slots) := by
  refine MetFree.of_bodySF (plainFor_of_name own_pn3) hisR ?_
  intro p e s m args below meth c s₁ Bd hml0 hP hK
  obtain ⟨rfl, hZ, hh⟩ := hP
  have hx := Bd.exec
  have hby := Bd.bytes
  have hml : c.maxLocals = 3 := hml0
  have hown : s.vm.findClass "java/lang/StringLatin1" = some m.cls := findClass_of_methodNamed Bd.named
  have hnm := (name_of_methodNamed Bd.named Bd.method).1
  have X0 : Stand p l e ({ frames := 0, cells := 0, slots := 0, locals := 0 } : Room) s m #[(.ref (A 10)), (.ref b228_b226_b214_b200)] below meth c s₁ [] 0 0 := Stand.of_body Bd
  have e0 : s₁.heap = h0 := by rw [← hh, Bd.state]; rfl
  have N0 := Fr.nil n0
  have pre0 : ∀ t, Steps p.tables e below (s₁.setTop (mkF m 0 #[.val (.ref (A 10)), .val (.ref b228_b226_b214_b200), .unset] [])) t → Steps p.tables e below (s₁.setTop (entryFrame m #[(.ref (A 10)), (.ref b228_b226_b214_b200)] 3)) t := fun t k => castTop (own_ef_rm33 m p1 A K cs b228_b226_b214_b200 k228_k226_k214_k200) k
  have KK0 : Keep h0 h0 [] := Keep.refl _ _
  obtain ⟨cl270, Ar270, -, Sz270, Nn270, -, -⟩ := (id (EN.2.2.1.2.2.2.2.2.2.1.ext OL0.2))
  obtain ⟨cl271, Ar271, -, Sz271, Nn271, -, -⟩ := (id G_A_b228_b226_b214_b200)
  obtain ⟨cl272, Ar272, -, Sz272, Nn272, -, -⟩ := (id (EN.2.2.1.2.2.2.2.2.2.1.ext OL0.2))
  obtain ⟨cl273, Ar273, q273, Sz273, Nn273, Hh273, Gg273⟩ := (id (EN.2.2.1.2.2.2.2.2.2.1.ext OL0.2))
  have hin273 : ¬ ((0 : Int32) < 0 ∨ cl273.slots.size ≤ ((0 : Int32)).toNatClampNeg) := inb_of Sz273 ⟨by decide, by decide⟩
  have hat273 : cl273.slots[((0 : Int32)).toNatClampNeg]? = some (.int (51 : Int32)) := Has.at Hh273 hin273 rfl
  obtain ⟨cl274, Ar274, q274, Sz274, Nn274, Hh274, Gg274⟩ := (id G_A_b228_b226_b214_b200)
  have hin274 : ¬ ((0 : Int32) < 0 ∨ cl274.slots.size ≤ ((0 : Int32)).toNatClampNeg) := inb_of Sz274 ⟨by decide, by decide⟩
  have hat274 : cl274.slots[((0 : Int32)).toNatClampNeg]? = some (.int (51 : Int32)) := Has.at Hh274 hin274 rfl
  obtain ⟨cl275, Ar275, -, Sz275, Nn275, -, -⟩ := (id (EN.2.2.1.2.2.2.2.2.2.1.ext OL0.2))
  obtain ⟨cl276, Ar276, q276, Sz276, Nn276, Hh276, Gg276⟩ := (id (EN.2.2.1.2.2.2.2.2.2.1.ext OL0.2))
  have hin276 : ¬ ((1 : Int32) < 0 ∨ cl276.slots.size ≤ ((1 : Int32)).toNatClampNeg) := inb_of Sz276 ⟨by decide, by decide⟩
  have hat276 : cl276.slots[((1 : Int32)).toNatClampNeg]? = some (.int (46 : Int32)) := Has.at Hh276 hin276 rfl
  obtain ⟨cl277, Ar277, q277, Sz277, Nn277, Hh277, Gg277⟩ := (id G_A_b228_b226_b214_b200)
  have hin277 : ¬ ((1 : Int32) < 0 ∨ cl277.slots.size ≤ ((1 : Int32)).toNatClampNeg) := inb_of Sz277 ⟨by decide, by decide⟩
  have hat277 : cl277.slots[((1 : Int32)).toNatClampNeg]? = some (.int (46 : Int32)) := Has.at Hh277 hin277 rfl
  obtain ⟨cl278, Ar278, -, Sz278, Nn278, -, -⟩ := (id (EN.2.2.1.2.2.2.2.2.2.1.ext OL0.2))
  obtain ⟨cl279, Ar279, q279, Sz279, Nn279, Hh279, Gg279⟩ := (id (EN.2.2.1.2.2.2.2.2.2.1.ext OL0.2))
  have hin279 : ¬ ((2 : Int32) < 0 ∨ cl279.slots.size ≤ ((2 : Int32)).toNatClampNeg) := inb_of Sz279 ⟨by decide, by decide⟩
  have hat279 : cl279.slots[((2 : Int32)).toNatClampNeg]? = some (.int (49 : Int32)) := Has.at Hh279 hin279 rfl
  obtain ⟨cl280, Ar280, q280, Sz280, Nn280, Hh280, Gg280⟩ := (id G_A_b228_b226_b214_b200)
  have hin280 : ¬ ((2 : Int32) < 0 ∨ cl280.slots.size ≤ ((2 : Int32)).toNatClampNeg) := inb_of Sz280 ⟨by decide, by decide⟩
  have hat280 : cl280.slots[((2 : Int32)).toNatClampNeg]? = some (.int (50 : Int32)) := Has.at Hh280 hin280 rfl
  obtain ⟨fs, hr, hrun, hended, hW, hsame⟩ := X0.leave (v := some (.int (0 : Int32))) (fun h => by rw [Bd.returns] at h; cases h)
  refine ⟨_, _, pre0 _ ?_, hrun, hended, _, _, rfl, ?_, ⟨_, rfl⟩, hW, hsame.mono (by decide) (by decide)⟩
  · show Steps p.tables e below (s₁.setTop (mkF m 0 #[.val (.ref (A 10)), .val (.ref b228_b226_b214_b200), .unset] [])) _
    refine XS.aloadN X0.here hx rfl (hb hby own_d_jdk_43_method_13_code_0) rfl rfl ?_
    show Steps p.tables e below (s₁.setTop (mkF m 1 #[.val (.ref (A 10)), .val (.ref b228_b226_b214_b200), .unset] [(.ref (A 10))])) _
    refine X0.arraylength hx (by rw [e0]; exact Ar270.1) (State.isArrayOf_alike hZ.alike Ar270.2.1) (g := (mkF m 1 #[.val (.ref (A 10)), .val (.ref b228_b226_b214_b200), .unset] [(.ref (A 10))])) rfl rfl (hb hby own_d_jdk_43_method_13_code_1) _ ?_
    rw [len_of Sz270 Nn270]
    show Steps p.tables e below (s₁.setTop (mkF m 2 #[.val (.ref (A 10)), .val (.ref b228_b226_b214_b200), .unset] [(.int (3 : Int32))])) _
    refine XS.aloadN X0.here hx rfl (hb hby own_d_jdk_43_method_13_code_2) rfl rfl ?_
    show Steps p.tables e below (s₁.setTop (mkF m 3 #[.val (.ref (A 10)), .val (.ref b228_b226_b214_b200), .unset] [(.ref b228_b226_b214_b200), (.int (3 : Int32))])) _
    refine X0.arraylength hx (by rw [e0]; exact Ar271.1) (State.isArrayOf_alike hZ.alike Ar271.2.1) (g := (mkF m 3 #[.val (.ref (A 10)), .val (.ref b228_b226_b214_b200), .unset] [(.ref b228_b226_b214_b200), (.int (3 : Int32))])) rfl rfl (hb hby own_d_jdk_43_method_13_code_3) _ ?_
    rw [len_of Sz271 Nn271]
    show Steps p.tables e below (s₁.setTop (mkF m 4 #[.val (.ref (A 10)), .val (.ref b228_b226_b214_b200), .unset] [(.int (3 : Int32)), (.int (3 : Int32))])) _
    refine XS.icmpNo X0.here hx rfl (hb hby own_d_jdk_43_method_13_code_4) rfl (teq (by decide : (3 : Int32) = (3 : Int32))).2 ?_
    show Steps p.tables e below (s₁.setTop (mkF m 7 #[.val (.ref (A 10)), .val (.ref b228_b226_b214_b200), .unset] [])) _
    refine XS.iconst X0.here hx rfl (hb hby own_d_jdk_43_method_13_code_7) ?_
    show Steps p.tables e below (s₁.setTop (mkF m 8 #[.val (.ref (A 10)), .val (.ref b228_b226_b214_b200), .unset] [(.int (0 : Int32))])) _
    refine XS.istoreN X0.here hx rfl (hb hby own_d_jdk_43_method_13_code_8) rfl (l' := #[.val (.ref (A 10)), .val (.ref b228_b226_b214_b200), .val (.int (0 : Int32))]) rfl ?_
    show Steps p.tables e below (s₁.setTop (mkF m 9 #[.val (.ref (A 10)), .val (.ref b228_b226_b214_b200), .val (.int (0 : Int32))] [])) _
    refine XS.iloadN X0.here hx rfl (hb hby own_d_jdk_43_method_13_code_9) rfl ?_
    show Steps p.tables e below (s₁.setTop (mkF m 10 #[.val (.ref (A 10)), .val (.ref b228_b226_b214_b200), .val (.int (0 : Int32))] [(.int (0 : Int32))])) _
    refine XS.aloadN X0.here hx rfl (hb hby own_d_jdk_43_method_13_code_10) rfl rfl ?_
    show Steps p.tables e below (s₁.setTop (mkF m 11 #[.val (.ref (A 10)), .val (.ref b228_b226_b214_b200), .val (.int (0 : Int32))] [(.ref (A 10)), (.int (0 : Int32))])) _
    refine X0.arraylength hx (by rw [e0]; exact Ar272.1) (State.isArrayOf_alike hZ.alike Ar272.2.1) (g := (mkF m 11 #[.val (.ref (A 10)), .val (.ref b228_b226_b214_b200), .val (.int (0 : Int32))] [(.ref (A 10)), (.int (0 : Int32))])) rfl rfl (hb hby own_d_jdk_43_method_13_code_11) _ ?_
    rw [len_of Sz272 Nn272]
    show Steps p.tables e below (s₁.setTop (mkF m 12 #[.val (.ref (A 10)), .val (.ref b228_b226_b214_b200), .val (.int (0 : Int32))] [(.int (3 : Int32)), (.int (0 : Int32))])) _
    refine XS.icmpNo X0.here hx rfl (hb hby own_d_jdk_43_method_13_code_12) rfl (tlt (by decide : (0 : Int32) < (3 : Int32))).2.1 ?_
    show Steps p.tables e below (s₁.setTop (mkF m 15 #[.val (.ref (A 10)), .val (.ref b228_b226_b214_b200), .val (.int (0 : Int32))] [])) _
    refine XS.aloadN X0.here hx rfl (hb hby own_d_jdk_43_method_13_code_15) rfl rfl ?_
    show Steps p.tables e below (s₁.setTop (mkF m 16 #[.val (.ref (A 10)), .val (.ref b228_b226_b214_b200), .val (.int (0 : Int32))] [(.ref (A 10))])) _
    refine XS.iloadN X0.here hx rfl (hb hby own_d_jdk_43_method_13_code_16) rfl ?_
    show Steps p.tables e below (s₁.setTop (mkF m 17 #[.val (.ref (A 10)), .val (.ref b228_b226_b214_b200), .val (.int (0 : Int32))] [(.int (0 : Int32)), (.ref (A 10))])) _
    refine X0.baloadBytes hx (j := (0 : Int32)) (v := (.int (51 : Int32))) (by rw [e0]; exact Ar273.1) (State.isArrayOf_alike hZ.alike Ar273.2.1) Ar273.2.2 hin273 hat273 (g := (mkF m 17 #[.val (.ref (A 10)), .val (.ref b228_b226_b214_b200), .val (.int (0 : Int32))] [(.int (0 : Int32)), (.ref (A 10))])) rfl rfl (hb hby own_d_jdk_43_method_13_code_17) _ ?_
    show Steps p.tables e below (s₁.setTop (mkF m 18 #[.val (.ref (A 10)), .val (.ref b228_b226_b214_b200), .val (.int (0 : Int32))] [(.int (51 : Int32))])) _
    refine XS.aloadN X0.here hx rfl (hb hby own_d_jdk_43_method_13_code_18) rfl rfl ?_
    show Steps p.tables e below (s₁.setTop (mkF m 19 #[.val (.ref (A 10)), .val (.ref b228_b226_b214_b200), .val (.int (0 : Int32))] [(.ref b228_b226_b214_b200), (.int (51 : Int32))])) _
    refine XS.iloadN X0.here hx rfl (hb hby own_d_jdk_43_method_13_code_19) rfl ?_
    show Steps p.tables e below (s₁.setTop (mkF m 20 #[.val (.ref (A 10)), .val (.ref b228_b226_b214_b200), .val (.int (0 : Int32))] [(.int (0 : Int32)), (.ref b228_b226_b214_b200), (.int (51 : Int32))])) _
    refine X0.baloadBytes hx (j := (0 : Int32)) (v := (.int (51 : Int32))) (by rw [e0]; exact Ar274.1) (State.isArrayOf_alike hZ.alike Ar274.2.1) Ar274.2.2 hin274 hat274 (g := (mkF m 20 #[.val (.ref (A 10)), .val (.ref b228_b226_b214_b200), .val (.int (0 : Int32))] [(.int (0 : Int32)), (.ref b228_b226_b214_b200), (.int (51 : Int32))])) rfl rfl (hb hby own_d_jdk_43_method_13_code_20) _ ?_
    show Steps p.tables e below (s₁.setTop (mkF m 21 #[.val (.ref (A 10)), .val (.ref b228_b226_b214_b200), .val (.int (0 : Int32))] [(.int (51 : Int32)), (.int (51 : Int32))])) _
    refine XS.icmpYes X0.here hx rfl (pc0 := 21) (pc' := 26) rfl (hb hby own_d_jdk_43_method_13_code_21) rfl (teq (by decide : (51 : Int32) = (51 : Int32))).1 (by decide) (by decide) ?_
    show Steps p.tables e below (s₁.setTop (mkF m 26 #[.val (.ref (A 10)), .val (.ref b228_b226_b214_b200), .val (.int (0 : Int32))] [])) _
    refine XS.iinc X0.here hx rfl (hb hby own_d_jdk_43_method_13_code_26) rfl (l' := #[.val (.ref (A 10)), .val (.ref b228_b226_b214_b200), .val (.int (1 : Int32))]) rfl ?_
    show Steps p.tables e below (s₁.setTop (mkF m 29 #[.val (.ref (A 10)), .val (.ref b228_b226_b214_b200), .val (.int (1 : Int32))] [])) _
    refine XS.goto X0.here hx rfl (pc0 := 29) (pc' := 9) rfl (hb hby own_d_jdk_43_method_13_code_29) (by decide) (by decide) ?_
    show Steps p.tables e below (s₁.setTop (mkF m 9 #[.val (.ref (A 10)), .val (.ref b228_b226_b214_b200), .val (.int (1 : Int32))] [])) _
    refine XS.iloadN X0.here hx rfl (hb hby own_d_jdk_43_method_13_code_9) rfl ?_
    show Steps p.tables e below (s₁.setTop (mkF m 10 #[.val (.ref (A 10)), .val (.ref b228_b226_b214_b200), .val (.int (1 : Int32))] [(.int (1 : Int32))])) _
    refine XS.aloadN X0.here hx rfl (hb hby own_d_jdk_43_method_13_code_10) rfl rfl ?_
    show Steps p.tables e below (s₁.setTop (mkF m 11 #[.val (.ref (A 10)), .val (.ref b228_b226_b214_b200), .val (.int (1 : Int32))] [(.ref (A 10)), (.int (1 : Int32))])) _
    refine X0.arraylength hx (by rw [e0]; exact Ar275.1) (State.isArrayOf_alike hZ.alike Ar275.2.1) (g := (mkF m 11 #[.val (.ref (A 10)), .val (.ref b228_b226_b214_b200), .val (.int (1 : Int32))] [(.ref (A 10)), (.int (1 : Int32))])) rfl rfl (hb hby own_d_jdk_43_method_13_code_11) _ ?_
    rw [len_of Sz275 Nn275]
    show Steps p.tables e below (s₁.setTop (mkF m 12 #[.val (.ref (A 10)), .val (.ref b228_b226_b214_b200), .val (.int (1 : Int32))] [(.int (3 : Int32)), (.int (1 : Int32))])) _
    refine XS.icmpNo X0.here hx rfl (hb hby own_d_jdk_43_method_13_code_12) rfl (tlt (by decide : (1 : Int32) < (3 : Int32))).2.1 ?_
    show Steps p.tables e below (s₁.setTop (mkF m 15 #[.val (.ref (A 10)), .val (.ref b228_b226_b214_b200), .val (.int (1 : Int32))] [])) _
    refine XS.aloadN X0.here hx rfl (hb hby own_d_jdk_43_method_13_code_15) rfl rfl ?_
    show Steps p.tables e below (s₁.setTop (mkF m 16 #[.val (.ref (A 10)), .val (.ref b228_b226_b214_b200), .val (.int (1 : Int32))] [(.ref (A 10))])) _
    refine XS.iloadN X0.here hx rfl (hb hby own_d_jdk_43_method_13_code_16) rfl ?_
    show Steps p.tables e below (s₁.setTop (mkF m 17 #[.val (.ref (A 10)), .val (.ref b228_b226_b214_b200), .val (.int (1 : Int32))] [(.int (1 : Int32)), (.ref (A 10))])) _
    refine X0.baloadBytes hx (j := (1 : Int32)) (v := (.int (46 : Int32))) (by rw [e0]; exact Ar276.1) (State.isArrayOf_alike hZ.alike Ar276.2.1) Ar276.2.2 hin276 hat276 (g := (mkF m 17 #[.val (.ref (A 10)), .val (.ref b228_b226_b214_b200), .val (.int (1 : Int32))] [(.int (1 : Int32)), (.ref (A 10))])) rfl rfl (hb hby own_d_jdk_43_method_13_code_17) _ ?_
    show Steps p.tables e below (s₁.setTop (mkF m 18 #[.val (.ref (A 10)), .val (.ref b228_b226_b214_b200), .val (.int (1 : Int32))] [(.int (46 : Int32))])) _
    refine XS.aloadN X0.here hx rfl (hb hby own_d_jdk_43_method_13_code_18) rfl rfl ?_
    show Steps p.tables e below (s₁.setTop (mkF m 19 #[.val (.ref (A 10)), .val (.ref b228_b226_b214_b200), .val (.int (1 : Int32))] [(.ref b228_b226_b214_b200), (.int (46 : Int32))])) _
    refine XS.iloadN X0.here hx rfl (hb hby own_d_jdk_43_method_13_code_19) rfl ?_
    show Steps p.tables e below (s₁.setTop (mkF m 20 #[.val (.ref (A 10)), .val (.ref b228_b226_b214_b200), .val (.int (1 : Int32))] [(.int (1 : Int32)), (.ref b228_b226_b214_b200), (.int (46 : Int32))])) _
    refine X0.baloadBytes hx (j := (1 : Int32)) (v := (.int (46 : Int32))) (by rw [e0]; exact Ar277.1) (State.isArrayOf_alike hZ.alike Ar277.2.1) Ar277.2.2 hin277 hat277 (g := (mkF m 20 #[.val (.ref (A 10)), .val (.ref b228_b226_b214_b200), .val (.int (1 : Int32))] [(.int (1 : Int32)), (.ref b228_b226_b214_b200), (.int (46 : Int32))])) rfl rfl (hb hby own_d_jdk_43_method_13_code_20) _ ?_
    show Steps p.tables e below (s₁.setTop (mkF m 21 #[.val (.ref (A 10)), .val (.ref b228_b226_b214_b200), .val (.int (1 : Int32))] [(.int (46 : Int32)), (.int (46 : Int32))])) _
    refine XS.icmpYes X0.here hx rfl (pc0 := 21) (pc' := 26) rfl (hb hby own_d_jdk_43_method_13_code_21) rfl (teq (by decide : (46 : Int32) = (46 : Int32))).1 (by decide) (by decide) ?_
    show Steps p.tables e below (s₁.setTop (mkF m 26 #[.val (.ref (A 10)), .val (.ref b228_b226_b214_b200), .val (.int (1 : Int32))] [])) _
    refine XS.iinc X0.here hx rfl (hb hby own_d_jdk_43_method_13_code_26) rfl (l' := #[.val (.ref (A 10)), .val (.ref b228_b226_b214_b200), .val (.int (2 : Int32))]) rfl ?_
    show Steps p.tables e below (s₁.setTop (mkF m 29 #[.val (.ref (A 10)), .val (.ref b228_b226_b214_b200), .val (.int (2 : Int32))] [])) _
    refine XS.goto X0.here hx rfl (pc0 := 29) (pc' := 9) rfl (hb hby own_d_jdk_43_method_13_code_29) (by decide) (by decide) ?_
    show Steps p.tables e below (s₁.setTop (mkF m 9 #[.val (.ref (A 10)), .val (.ref b228_b226_b214_b200), .val (.int (2 : Int32))] [])) _
    refine XS.iloadN X0.here hx rfl (hb hby own_d_jdk_43_method_13_code_9) rfl ?_
    show Steps p.tables e below (s₁.setTop (mkF m 10 #[.val (.ref (A 10)), .val (.ref b228_b226_b214_b200), .val (.int (2 : Int32))] [(.int (2 : Int32))])) _
    refine XS.aloadN X0.here hx rfl (hb hby own_d_jdk_43_method_13_code_10) rfl rfl ?_
    show Steps p.tables e below (s₁.setTop (mkF m 11 #[.val (.ref (A 10)), .val (.ref b228_b226_b214_b200), .val (.int (2 : Int32))] [(.ref (A 10)), (.int (2 : Int32))])) _
    refine X0.arraylength hx (by rw [e0]; exact Ar278.1) (State.isArrayOf_alike hZ.alike Ar278.2.1) (g := (mkF m 11 #[.val (.ref (A 10)), .val (.ref b228_b226_b214_b200), .val (.int (2 : Int32))] [(.ref (A 10)), (.int (2 : Int32))])) rfl rfl (hb hby own_d_jdk_43_method_13_code_11) _ ?_
    rw [len_of Sz278 Nn278]
    show Steps p.tables e below (s₁.setTop (mkF m 12 #[.val (.ref (A 10)), .val (.ref b228_b226_b214_b200), .val (.int (2 : Int32))] [(.int (3 : Int32)), (.int (2 : Int32))])) _
    refine XS.icmpNo X0.here hx rfl (hb hby own_d_jdk_43_method_13_code_12) rfl (tlt (by decide : (2 : Int32) < (3 : Int32))).2.1 ?_
    show Steps p.tables e below (s₁.setTop (mkF m 15 #[.val (.ref (A 10)), .val (.ref b228_b226_b214_b200), .val (.int (2 : Int32))] [])) _
    refine XS.aloadN X0.here hx rfl (hb hby own_d_jdk_43_method_13_code_15) rfl rfl ?_
    show Steps p.tables e below (s₁.setTop (mkF m 16 #[.val (.ref (A 10)), .val (.ref b228_b226_b214_b200), .val (.int (2 : Int32))] [(.ref (A 10))])) _
    refine XS.iloadN X0.here hx rfl (hb hby own_d_jdk_43_method_13_code_16) rfl ?_
    show Steps p.tables e below (s₁.setTop (mkF m 17 #[.val (.ref (A 10)), .val (.ref b228_b226_b214_b200), .val (.int (2 : Int32))] [(.int (2 : Int32)), (.ref (A 10))])) _
    refine X0.baloadBytes hx (j := (2 : Int32)) (v := (.int (49 : Int32))) (by rw [e0]; exact Ar279.1) (State.isArrayOf_alike hZ.alike Ar279.2.1) Ar279.2.2 hin279 hat279 (g := (mkF m 17 #[.val (.ref (A 10)), .val (.ref b228_b226_b214_b200), .val (.int (2 : Int32))] [(.int (2 : Int32)), (.ref (A 10))])) rfl rfl (hb hby own_d_jdk_43_method_13_code_17) _ ?_
    show Steps p.tables e below (s₁.setTop (mkF m 18 #[.val (.ref (A 10)), .val (.ref b228_b226_b214_b200), .val (.int (2 : Int32))] [(.int (49 : Int32))])) _
    refine XS.aloadN X0.here hx rfl (hb hby own_d_jdk_43_method_13_code_18) rfl rfl ?_
    show Steps p.tables e below (s₁.setTop (mkF m 19 #[.val (.ref (A 10)), .val (.ref b228_b226_b214_b200), .val (.int (2 : Int32))] [(.ref b228_b226_b214_b200), (.int (49 : Int32))])) _
    refine XS.iloadN X0.here hx rfl (hb hby own_d_jdk_43_method_13_code_19) rfl ?_
    show Steps p.tables e below (s₁.setTop (mkF m 20 #[.val (.ref (A 10)), .val (.ref b228_b226_b214_b200), .val (.int (2 : Int32))] [(.int (2 : Int32)), (.ref b228_b226_b214_b200), (.int (49 : Int32))])) _
    refine X0.baloadBytes hx (j := (2 : Int32)) (v := (.int (50 : Int32))) (by rw [e0]; exact Ar280.1) (State.isArrayOf_alike hZ.alike Ar280.2.1) Ar280.2.2 hin280 hat280 (g := (mkF m 20 #[.val (.ref (A 10)), .val (.ref b228_b226_b214_b200), .val (.int (2 : Int32))] [(.int (2 : Int32)), (.ref b228_b226_b214_b200), (.int (49 : Int32))])) rfl rfl (hb hby own_d_jdk_43_method_13_code_20) _ ?_
    show Steps p.tables e below (s₁.setTop (mkF m 21 #[.val (.ref (A 10)), .val (.ref b228_b226_b214_b200), .val (.int (2 : Int32))] [(.int (50 : Int32)), (.int (49 : Int32))])) _
    refine XS.icmpNo X0.here hx rfl (hb hby own_d_jdk_43_method_13_code_21) rfl (feq (by decide : ¬ ((49 : Int32) = (50 : Int32)))).1 ?_
    show Steps p.tables e below (s₁.setTop (mkF m 24 #[.val (.ref (A 10)), .val (.ref b228_b226_b214_b200), .val (.int (2 : Int32))] [])) _
    refine XS.iconst X0.here hx rfl (hb hby own_d_jdk_43_method_13_code_24) ?_
    show Steps p.tables e below (s₁.setTop (mkF m 25 #[.val (.ref (A 10)), .val (.ref b228_b226_b214_b200), .val (.int (2 : Int32))] [(.int (0 : Int32))])) _
    exact retN X0 hx (t := .boolean) Bd.returns (by simp) (hb hby own_d_jdk_43_method_13_code_25) hr
  · show PQ (some (.int (0 : Int32))) h0 n0 _ s₁.heap _
    rw [e0]
    exact ⟨rfl, N0, rfl⟩
theorem own_ef_rm32 (m : MethodId) (p1 : Int32) (A : Nat → Addr) (K : Nat → ClassId) (cs : Int32)  (b196 : Addr) (b228_b226_b214_b200 : Addr) (k228_k226_k214_k200 : ClassId) : entryFrame m #[(.ref (A 6)), (.ref b196)] 3 = mkF m 0 #[.val (.ref (A 6)), .val (.ref b196), .unset] [] := by first | (simp [entryFrame, mkF, argsToLocals, Value.category, maxLocals]; done) | rfl
set_option maxRecDepth 65536 in
set_option maxHeartbeats 40000000 in
theorem rm32 (l : Launch) (Z : State) (a0 : Array Value) (hw : ∀ d ∈ tables_1, d.before a0 Z = true) (ws : List Jvm.Cond) (h0 : Heap) (n0 : Nat) (p1 : Int32) (A : Nat → Addr) (K : Nat → ClassId) (cs : Int32)  (b196 : Addr) (b228_b226_b214_b200 : Addr) (k228_k226_k214_k200 : ClassId) (EN : own_St Z A K cs) (OL0 : Old Z n0 h0) (G_F_b196_java_lang_String_value : Fld Z h0 b196 "java/lang/String" "value" "[B" (.ref b228_b226_b214_b200)) (G_A_b228_b226_b214_b200 : Arv Z h0 b228_b226_b214_b200 k228_k226_k214_k200 .byte (3 : Int32) [(.int (51 : Int32)), (.int (46 : Int32)), (.int (50 : Int32))] (.int (0 : Int32))) (G_E_b196 : Exa Z h0 b196 "java/lang/String") (G_F_b196_java_lang_String_coder : Fld Z h0 b196 "java/lang/String" "coder" "B" (.int (0 : Int32))) :
    MetFree l own_m0 (head1 (Jvm.Cond.code own_m0 jdk_42_method_66_code 3 (some .boolean) :: ws) ({ frames := 1, cells := 0, slots := 0, locals := 14 } : Room)) (fun a U => a = #[(.ref (A 6)), (.ref b196)] ∧ Z.Warmed39 U.vm ∧ U.heap = h0) (fun _ _ _ _ _ => True) (fun _ U o U' => ∃ v L, o = .returned v ∧ (PQ (some (.int (0 : Int32))) h0 n0) v U'.heap L ∧ FrameEnd U o U' L ({ frames := 1, cells := 0, slots := 0, locals := 14 } : Room).cells ({ frames := 1, cells := 0, slots := 0, locals := 14 } : Room).slots) := by
  refine MetFree.of_bodySF (plainFor_of_name own_pn1) hisR ?_
  intro p e s m args below meth c s₁ Bd hml0 hP hK
  obtain ⟨rfl, hZ, hh⟩ := hP
  have hx := Bd.exec
  have hby := Bd.bytes
  have hml : c.maxLocals = 3 := hml0
  have hown : s.vm.findClass "java/lang/String" = some m.cls := findClass_of_methodNamed Bd.named
  have hnm := (name_of_methodNamed Bd.named Bd.method).1
  have X0 : Stand p l e ({ frames := 1, cells := 0, slots := 0, locals := 14 } : Room) s m #[(.ref (A 6)), (.ref b196)] below meth c s₁ [] 0 0 := Stand.of_body Bd
  have e0 : s₁.heap = h0 := by rw [← hh, Bd.state]; rfl
  have N0 := Fr.nil n0
  have pre0 : ∀ t, Steps p.tables e below (s₁.setTop (mkF m 0 #[.val (.ref (A 6)), .val (.ref b196), .unset] [])) t → Steps p.tables e below (s₁.setTop (entryFrame m #[(.ref (A 6)), (.ref b196)] 3)) t := fun t k => castTop (own_ef_rm32 m p1 A K cs b196 b228_b226_b214_b200 k228_k226_k214_k200) k
  have KK0 : Keep h0 h0 [] := Keep.refl _ _
  obtain ⟨T263, X263, e263, st263⟩ := instY X0 hx hZ hown (hw _ (List.mem_of_getElem? (i := 61) rfl)) e0 (Ins.self G_E_b196) (g := (mkF m 8 #[.val (.ref (A 6)), .val (.ref b196), .unset] [(.ref b196)])) rfl rfl (hb hby own_d_jdk_42_method_66_code_8)
  obtain ⟨T264, X264, e264, st264⟩ := castY X263 hx hZ hown (hw _ (List.mem_of_getElem? (i := 61) rfl)) e263 (Ins.self G_E_b196) (g := (mkF m 15 #[.val (.ref (A 6)), .val (.ref b196), .unset] [(.ref b196)])) rfl rfl (hb hby own_d_jdk_42_method_66_code_15)
  obtain ⟨T265, X265, e265, st265⟩ := getS2 X264 hx hZ hown (host := "") (Or.inl (hw _ (List.mem_of_getElem? (i := 14) rfl))) Via.refl e264 (EN.2.2.2.1.2.2.2.1.ext OL0.2) (g := (mkF m 19 #[.val (.ref (A 6)), .val (.ref b196), .val (.ref b196)] [])) rfl (hb hby own_d_jdk_42_method_66_code_19)
  obtain ⟨T266, X266, e266, st266⟩ := getF X265 hx hZ hown (host := "") (Or.inl (hw _ (List.mem_of_getElem? (i := 26) rfl))) Via.refl e265 (EN.2.2.2.1.2.2.2.2.2.2.2.1.ext OL0.2) (g := (mkF m 26 #[.val (.ref (A 6)), .val (.ref b196), .val (.ref b196)] [(.ref (A 6))])) rfl rfl (hb hby own_d_jdk_42_method_66_code_26)
  obtain ⟨T267, X267, e267, st267⟩ := getF X266 hx hZ hown (host := "") (Or.inl (hw _ (List.mem_of_getElem? (i := 26) rfl))) Via.refl e266 G_F_b196_java_lang_String_coder (g := (mkF m 30 #[.val (.ref (A 6)), .val (.ref b196), .val (.ref b196)] [(.ref b196), (.int (0 : Int32))])) rfl rfl (hb hby own_d_jdk_42_method_66_code_30)
  obtain ⟨T268, X268, e268, st268⟩ := getF X267 hx hZ hown (host := "") (Or.inl (hw _ (List.mem_of_getElem? (i := 28) rfl))) Via.refl e267 (EN.2.2.1.2.2.2.2.2.1.ext OL0.2) (g := (mkF m 37 #[.val (.ref (A 6)), .val (.ref b196), .val (.ref b196)] [(.ref (A 6))])) rfl rfl (hb hby own_d_jdk_42_method_66_code_37)
  obtain ⟨T269, X269, e269, st269⟩ := getF X268 hx hZ hown (host := "") (Or.inl (hw _ (List.mem_of_getElem? (i := 28) rfl))) Via.refl e268 G_F_b196_java_lang_String_value (g := (mkF m 41 #[.val (.ref (A 6)), .val (.ref b196), .val (.ref b196)] [(.ref b196), (.ref (A 10))])) rfl rfl (hb hby own_d_jdk_42_method_66_code_41)
  obtain ⟨_, _, ⟨T281, L281, k281, n281⟩, -, X281, ⟨Lc281, hQ281, l281, y281, z281⟩, st281⟩ := Jvm.LawKit.callS X269 hx (y := own_m1) hown (mvT hZ (hw _ (List.mem_of_getElem? (i := 62) rfl))) (mvT hZ (hw _ (List.mem_of_getElem? (i := 63) rfl))) (mvT hZ (hw _ (List.mem_of_getElem? (i := 64) rfl))) (mvT hZ (hw _ (List.mem_of_getElem? (i := 65) rfl))) (by decide) (backOf (W := 0) (rm33 l Z a0 hw [] h0 n0 p1 A K cs b228_b226_b214_b200 k228_k226_k214_k200 EN OL0 G_A_b228_b226_b214_b200) hZ (hw _ (List.mem_of_getElem? (i := 65) rfl)) (hw _ (List.mem_of_getElem? (i := 64) rfl)) (by decide) (by decide)) (g := (mkF m 44 #[.val (.ref (A 6)), .val (.ref b196), .val (.ref b196)] [(.ref b228_b226_b214_b200), (.ref (A 10))])) rfl (by rw [hml]; rfl) (argsL := [(.ref (A 10)), (.ref b228_b226_b214_b200)]) (rest := []) (lenOf own_pd6 rfl) rfl (by show 2 * 0 + _ ≤ _; exact Nat.le_of_eq rfl) (hb hby own_d_jdk_42_method_66_code_44) (fun _ _ => ⟨rfl, e269, (by decide : 0 + 0 ≤ _), (by decide : 0 + 0 ≤ _)⟩)
  dsimp only [Pt.U, Pt.locs, Pt.cells, Pt.slots] at X281 l281 y281 z281 st281 hQ281
  subst l281 y281 z281
  obtain ⟨rfl, N281q, e281⟩ := hQ281
  have N281 := Fr.app N0 N281q
  obtain ⟨fs, hr, hrun, hended, hW, hsame⟩ := X281.leave (v := some (.int (0 : Int32))) (fun h => by rw [Bd.returns] at h; cases h)
  refine ⟨_, _, pre0 _ ?_, hrun, hended, _, _, rfl, ?_, ⟨_, rfl⟩, hW, hsame.mono (by decide) (by decide)⟩
  · show Steps p.tables e below (s₁.setTop (mkF m 0 #[.val (.ref (A 6)), .val (.ref b196), .unset] [])) _
    refine XS.aloadN X0.here hx rfl (hb hby own_d_jdk_42_method_66_code_0) rfl rfl ?_
    show Steps p.tables e below (s₁.setTop (mkF m 1 #[.val (.ref (A 6)), .val (.ref b196), .unset] [(.ref (A 6))])) _
    refine XS.aloadN X0.here hx rfl (hb hby own_d_jdk_42_method_66_code_1) rfl rfl ?_
    show Steps p.tables e below (s₁.setTop (mkF m 2 #[.val (.ref (A 6)), .val (.ref b196), .unset] [(.ref b196), (.ref (A 6))])) _
    refine Jvm.RoadKit.acmp (g := (mkF m 2 #[.val (.ref (A 6)), .val (.ref b196), .unset] [(.ref b196), (.ref (A 6))])) X0 hx rfl rfl rfl (pc0 := 2) (pc' := 7) (same := false) rfl (hb hby own_d_jdk_42_method_66_code_2) rfl (decide_eq_false fun q => (Fld.ne (EN.2.2.1.2.2.2.2.2.1.ext OL0.2) G_F_b196_java_lang_String_value (fun h => arv_ne (EN.2.2.1.2.2.2.2.2.2.1.ext OL0.2) G_A_b228_b226_b214_b200 (Or.inr ⟨2, by decide, fun h => by injection h with h; exact absurd h (by decide)⟩) (Value.ref.inj h))) (Value.ref.inj q)) (by decide) (by decide) ?_
    show Steps p.tables e below (s₁.setTop (mkF m 7 #[.val (.ref (A 6)), .val (.ref b196), .unset] [])) _
    refine XS.aloadN X0.here hx rfl (hb hby own_d_jdk_42_method_66_code_7) rfl rfl ?_
    show Steps p.tables e below (s₁.setTop (mkF m 8 #[.val (.ref (A 6)), .val (.ref b196), .unset] [(.ref b196)])) _
    refine st263 _ ?_
    show Steps p.tables e below (T263.setTop (mkF m 11 #[.val (.ref (A 6)), .val (.ref b196), .unset] [(.int (1 : Int32))])) _
    refine XS.ifNo X263.here hx rfl (hb hby own_d_jdk_42_method_66_code_11) rfl ((if0 _ _).trans (feq (by decide : ¬ ((1 : Int32) = (0 : Int32)))).1) ?_
    show Steps p.tables e below (T263.setTop (mkF m 14 #[.val (.ref (A 6)), .val (.ref b196), .unset] [])) _
    refine XS.aloadN X263.here hx rfl (hb hby own_d_jdk_42_method_66_code_14) rfl rfl ?_
    show Steps p.tables e below (T263.setTop (mkF m 15 #[.val (.ref (A 6)), .val (.ref b196), .unset] [(.ref b196)])) _
    refine st264 _ ?_
    show Steps p.tables e below (T264.setTop (mkF m 18 #[.val (.ref (A 6)), .val (.ref b196), .unset] [(.ref b196)])) _
    refine XS.astoreN X264.here hx rfl (hb hby own_d_jdk_42_method_66_code_18) rfl rfl (l' := #[.val (.ref (A 6)), .val (.ref b196), .val (.ref b196)]) rfl ?_
    show Steps p.tables e below (T264.setTop (mkF m 19 #[.val (.ref (A 6)), .val (.ref b196), .val (.ref b196)] [])) _
    refine st265 _ ?_
    show Steps p.tables e below (T265.setTop (mkF m 22 #[.val (.ref (A 6)), .val (.ref b196), .val (.ref b196)] [(.int cs)])) _
    refine XS.ifNo X265.here hx rfl (hb hby own_d_jdk_42_method_66_code_22) rfl ((if0 _ _).trans (feq EN.2.2.2.1.2.2.2.2.1).1) ?_
    show Steps p.tables e below (T265.setTop (mkF m 25 #[.val (.ref (A 6)), .val (.ref b196), .val (.ref b196)] [])) _
    refine XS.aloadN X265.here hx rfl (hb hby own_d_jdk_42_method_66_code_25) rfl rfl ?_
    show Steps p.tables e below (T265.setTop (mkF m 26 #[.val (.ref (A 6)), .val (.ref b196), .val (.ref b196)] [(.ref (A 6))])) _
    refine st266 _ ?_
    show Steps p.tables e below (T266.setTop (mkF m 29 #[.val (.ref (A 6)), .val (.ref b196), .val (.ref b196)] [(.int (0 : Int32))])) _
    refine XS.aloadN X266.here hx rfl (hb hby own_d_jdk_42_method_66_code_29) rfl rfl ?_
    show Steps p.tables e below (T266.setTop (mkF m 30 #[.val (.ref (A 6)), .val (.ref b196), .val (.ref b196)] [(.ref b196), (.int (0 : Int32))])) _
    refine st267 _ ?_
    show Steps p.tables e below (T267.setTop (mkF m 33 #[.val (.ref (A 6)), .val (.ref b196), .val (.ref b196)] [(.int (0 : Int32)), (.int (0 : Int32))])) _
    refine XS.icmpNo X267.here hx rfl (hb hby own_d_jdk_42_method_66_code_33) rfl (teq (by decide : (0 : Int32) = (0 : Int32))).2 ?_
    show Steps p.tables e below (T267.setTop (mkF m 36 #[.val (.ref (A 6)), .val (.ref b196), .val (.ref b196)] [])) _
    refine XS.aloadN X267.here hx rfl (hb hby own_d_jdk_42_method_66_code_36) rfl rfl ?_
    show Steps p.tables e below (T267.setTop (mkF m 37 #[.val (.ref (A 6)), .val (.ref b196), .val (.ref b196)] [(.ref (A 6))])) _
    refine st268 _ ?_
    show Steps p.tables e below (T268.setTop (mkF m 40 #[.val (.ref (A 6)), .val (.ref b196), .val (.ref b196)] [(.ref (A 10))])) _
    refine XS.aloadN X268.here hx rfl (hb hby own_d_jdk_42_method_66_code_40) rfl rfl ?_
    show Steps p.tables e below (T268.setTop (mkF m 41 #[.val (.ref (A 6)), .val (.ref b196), .val (.ref b196)] [(.ref b196), (.ref (A 10))])) _
    refine st269 _ ?_
    show Steps p.tables e below (T269.setTop (mkF m 44 #[.val (.ref (A 6)), .val (.ref b196), .val (.ref b196)] [(.ref b228_b226_b214_b200), (.ref (A 10))])) _
    refine st281 _ ?_
    show Steps p.tables e below (T281.setTop (mkF m 47 #[.val (.ref (A 6)), .val (.ref b196), .val (.ref b196)] [(.int (0 : Int32))])) _
    refine XS.ifYes X281.here hx rfl (pc0 := 47) (pc' := 54) rfl (hb hby own_d_jdk_42_method_66_code_47) rfl ((if0 _ _).trans (teq (by decide : (0 : Int32) = (0 : Int32))).1) (by decide) (by decide) ?_
    show Steps p.tables e below (T281.setTop (mkF m 54 #[.val (.ref (A 6)), .val (.ref b196), .val (.ref b196)] [])) _
    refine XS.iconst X281.here hx rfl (hb hby own_d_jdk_42_method_66_code_54) ?_
    show Steps p.tables e below (T281.setTop (mkF m 55 #[.val (.ref (A 6)), .val (.ref b196), .val (.ref b196)] [(.int (0 : Int32))])) _
    exact retN X281 hx (t := .boolean) Bd.returns (by simp) (hb hby own_d_jdk_42_method_66_code_55) hr
  · show PQ (some (.int (0 : Int32))) h0 n0 _ T281.heap _
    rw [e281]
    exact ⟨rfl, N281, rfl⟩
theorem own_ef_rm35 (m : MethodId) (p1 : Int32) (A : Nat → Addr) (K : Nat → ClassId) (cs : Int32)  (b228_b226_b214_b200 : Addr) (k228_k226_k214_k200 : ClassId) : entryFrame m #[(.ref (A 11)), (.ref b228_b226_b214_b200)] 3 = mkF m 0 #[.val (.ref (A 11)), .val (.ref b228_b226_b214_b200), .unset] [] := by first | (simp [entryFrame, mkF, argsToLocals, Value.category, maxLocals]; done) | rfl
set_option maxRecDepth 65536 in
set_option maxHeartbeats 40000000 in
theorem rm35 (l : Launch) (Z : State) (a0 : Array Value) (hw : ∀ d ∈ tables_1, d.before a0 Z = true) (ws : List Jvm.Cond) (h0 : Heap) (n0 : Nat) (p1 : Int32) (A : Nat → Addr) (K : Nat → ClassId) (cs : Int32)  (b228_b226_b214_b200 : Addr) (k228_k226_k214_k200 : ClassId) (EN : own_St Z A K cs) (OL0 : Old Z n0 h0) (G_A_b228_b226_b214_b200 : Arv Z h0 b228_b226_b214_b200 k228_k226_k214_k200 .byte (3 : Int32) [(.int (51 : Int32)), (.int (46 : Int32)), (.int (50 : Int32))] (.int (0 : Int32))) :
    MetFree l own_m1 (head1 (Jvm.Cond.code own_m1 jdk_43_method_13_code 3 (some .boolean) :: ws) ({ frames := 0, cells := 0, slots := 0, locals := 0 } : Room)) (fun a U => a = #[(.ref (A 11)), (.ref b228_b226_b214_b200)] ∧ Z.Warmed39 U.vm ∧ U.heap = h0) (fun _ _ _ _ _ => True) (fun _ U o U' => ∃ v L, o = .returned v ∧ (PQ (some (.int (1 : Int32))) h0 n0) v U'.heap L ∧ FrameEnd U o U' L ({ frames := 0, cells := 0, slots := 0, locals := 0 } : Room).cells ({ frames := 0, cells := 0, slots := 0, locals := 0 } : Room).slots) := by
  refine MetFree.of_bodySF (plainFor_of_name own_pn3) hisR ?_
  intro p e s m args below meth c s₁ Bd hml0 hP hK
  obtain ⟨rfl, hZ, hh⟩ := hP
  have hx := Bd.exec
  have hby := Bd.bytes
  have hml : c.maxLocals = 3 := hml0
  have hown : s.vm.findClass "java/lang/StringLatin1" = some m.cls := findClass_of_methodNamed Bd.named
  have hnm := (name_of_methodNamed Bd.named Bd.method).1
  have X0 : Stand p l e ({ frames := 0, cells := 0, slots := 0, locals := 0 } : Room) s m #[(.ref (A 11)), (.ref b228_b226_b214_b200)] below meth c s₁ [] 0 0 := Stand.of_body Bd
  have e0 : s₁.heap = h0 := by rw [← hh, Bd.state]; rfl
  have N0 := Fr.nil n0
  have pre0 : ∀ t, Steps p.tables e below (s₁.setTop (mkF m 0 #[.val (.ref (A 11)), .val (.ref b228_b226_b214_b200), .unset] [])) t → Steps p.tables e below (s₁.setTop (entryFrame m #[(.ref (A 11)), (.ref b228_b226_b214_b200)] 3)) t := fun t k => castTop (own_ef_rm35 m p1 A K cs b228_b226_b214_b200 k228_k226_k214_k200) k
  have KK0 : Keep h0 h0 [] := Keep.refl _ _
  obtain ⟨cl292, Ar292, -, Sz292, Nn292, -, -⟩ := (id (EN.2.2.2.1.1.ext OL0.2))
  obtain ⟨cl293, Ar293, -, Sz293, Nn293, -, -⟩ := (id G_A_b228_b226_b214_b200)
  obtain ⟨cl294, Ar294, -, Sz294, Nn294, -, -⟩ := (id (EN.2.2.2.1.1.ext OL0.2))
  obtain ⟨cl295, Ar295, q295, Sz295, Nn295, Hh295, Gg295⟩ := (id (EN.2.2.2.1.1.ext OL0.2))
  have hin295 : ¬ ((0 : Int32) < 0 ∨ cl295.slots.size ≤ ((0 : Int32)).toNatClampNeg) := inb_of Sz295 ⟨by decide, by decide⟩
  have hat295 : cl295.slots[((0 : Int32)).toNatClampNeg]? = some (.int (51 : Int32)) := Has.at Hh295 hin295 rfl
  obtain ⟨cl296, Ar296, q296, Sz296, Nn296, Hh296, Gg296⟩ := (id G_A_b228_b226_b214_b200)
  have hin296 : ¬ ((0 : Int32) < 0 ∨ cl296.slots.size ≤ ((0 : Int32)).toNatClampNeg) := inb_of Sz296 ⟨by decide, by decide⟩
  have hat296 : cl296.slots[((0 : Int32)).toNatClampNeg]? = some (.int (51 : Int32)) := Has.at Hh296 hin296 rfl
  obtain ⟨cl297, Ar297, -, Sz297, Nn297, -, -⟩ := (id (EN.2.2.2.1.1.ext OL0.2))
  obtain ⟨cl298, Ar298, q298, Sz298, Nn298, Hh298, Gg298⟩ := (id (EN.2.2.2.1.1.ext OL0.2))
  have hin298 : ¬ ((1 : Int32) < 0 ∨ cl298.slots.size ≤ ((1 : Int32)).toNatClampNeg) := inb_of Sz298 ⟨by decide, by decide⟩
  have hat298 : cl298.slots[((1 : Int32)).toNatClampNeg]? = some (.int (46 : Int32)) := Has.at Hh298 hin298 rfl
  obtain ⟨cl299, Ar299, q299, Sz299, Nn299, Hh299, Gg299⟩ := (id G_A_b228_b226_b214_b200)
  have hin299 : ¬ ((1 : Int32) < 0 ∨ cl299.slots.size ≤ ((1 : Int32)).toNatClampNeg) := inb_of Sz299 ⟨by decide, by decide⟩
  have hat299 : cl299.slots[((1 : Int32)).toNatClampNeg]? = some (.int (46 : Int32)) := Has.at Hh299 hin299 rfl
  obtain ⟨cl300, Ar300, -, Sz300, Nn300, -, -⟩ := (id (EN.2.2.2.1.1.ext OL0.2))
  obtain ⟨cl301, Ar301, q301, Sz301, Nn301, Hh301, Gg301⟩ := (id (EN.2.2.2.1.1.ext OL0.2))
  have hin301 : ¬ ((2 : Int32) < 0 ∨ cl301.slots.size ≤ ((2 : Int32)).toNatClampNeg) := inb_of Sz301 ⟨by decide, by decide⟩
  have hat301 : cl301.slots[((2 : Int32)).toNatClampNeg]? = some (.int (50 : Int32)) := Has.at Hh301 hin301 rfl
  obtain ⟨cl302, Ar302, q302, Sz302, Nn302, Hh302, Gg302⟩ := (id G_A_b228_b226_b214_b200)
  have hin302 : ¬ ((2 : Int32) < 0 ∨ cl302.slots.size ≤ ((2 : Int32)).toNatClampNeg) := inb_of Sz302 ⟨by decide, by decide⟩
  have hat302 : cl302.slots[((2 : Int32)).toNatClampNeg]? = some (.int (50 : Int32)) := Has.at Hh302 hin302 rfl
  obtain ⟨cl303, Ar303, -, Sz303, Nn303, -, -⟩ := (id (EN.2.2.2.1.1.ext OL0.2))
  obtain ⟨fs, hr, hrun, hended, hW, hsame⟩ := X0.leave (v := some (.int (1 : Int32))) (fun h => by rw [Bd.returns] at h; cases h)
  refine ⟨_, _, pre0 _ ?_, hrun, hended, _, _, rfl, ?_, ⟨_, rfl⟩, hW, hsame.mono (by decide) (by decide)⟩
  · show Steps p.tables e below (s₁.setTop (mkF m 0 #[.val (.ref (A 11)), .val (.ref b228_b226_b214_b200), .unset] [])) _
    refine XS.aloadN X0.here hx rfl (hb hby own_d_jdk_43_method_13_code_0) rfl rfl ?_
    show Steps p.tables e below (s₁.setTop (mkF m 1 #[.val (.ref (A 11)), .val (.ref b228_b226_b214_b200), .unset] [(.ref (A 11))])) _
    refine X0.arraylength hx (by rw [e0]; exact Ar292.1) (State.isArrayOf_alike hZ.alike Ar292.2.1) (g := (mkF m 1 #[.val (.ref (A 11)), .val (.ref b228_b226_b214_b200), .unset] [(.ref (A 11))])) rfl rfl (hb hby own_d_jdk_43_method_13_code_1) _ ?_
    rw [len_of Sz292 Nn292]
    show Steps p.tables e below (s₁.setTop (mkF m 2 #[.val (.ref (A 11)), .val (.ref b228_b226_b214_b200), .unset] [(.int (3 : Int32))])) _
    refine XS.aloadN X0.here hx rfl (hb hby own_d_jdk_43_method_13_code_2) rfl rfl ?_
    show Steps p.tables e below (s₁.setTop (mkF m 3 #[.val (.ref (A 11)), .val (.ref b228_b226_b214_b200), .unset] [(.ref b228_b226_b214_b200), (.int (3 : Int32))])) _
    refine X0.arraylength hx (by rw [e0]; exact Ar293.1) (State.isArrayOf_alike hZ.alike Ar293.2.1) (g := (mkF m 3 #[.val (.ref (A 11)), .val (.ref b228_b226_b214_b200), .unset] [(.ref b228_b226_b214_b200), (.int (3 : Int32))])) rfl rfl (hb hby own_d_jdk_43_method_13_code_3) _ ?_
    rw [len_of Sz293 Nn293]
    show Steps p.tables e below (s₁.setTop (mkF m 4 #[.val (.ref (A 11)), .val (.ref b228_b226_b214_b200), .unset] [(.int (3 : Int32)), (.int (3 : Int32))])) _
    refine XS.icmpNo X0.here hx rfl (hb hby own_d_jdk_43_method_13_code_4) rfl (teq (by decide : (3 : Int32) = (3 : Int32))).2 ?_
    show Steps p.tables e below (s₁.setTop (mkF m 7 #[.val (.ref (A 11)), .val (.ref b228_b226_b214_b200), .unset] [])) _
    refine XS.iconst X0.here hx rfl (hb hby own_d_jdk_43_method_13_code_7) ?_
    show Steps p.tables e below (s₁.setTop (mkF m 8 #[.val (.ref (A 11)), .val (.ref b228_b226_b214_b200), .unset] [(.int (0 : Int32))])) _
    refine XS.istoreN X0.here hx rfl (hb hby own_d_jdk_43_method_13_code_8) rfl (l' := #[.val (.ref (A 11)), .val (.ref b228_b226_b214_b200), .val (.int (0 : Int32))]) rfl ?_
    show Steps p.tables e below (s₁.setTop (mkF m 9 #[.val (.ref (A 11)), .val (.ref b228_b226_b214_b200), .val (.int (0 : Int32))] [])) _
    refine XS.iloadN X0.here hx rfl (hb hby own_d_jdk_43_method_13_code_9) rfl ?_
    show Steps p.tables e below (s₁.setTop (mkF m 10 #[.val (.ref (A 11)), .val (.ref b228_b226_b214_b200), .val (.int (0 : Int32))] [(.int (0 : Int32))])) _
    refine XS.aloadN X0.here hx rfl (hb hby own_d_jdk_43_method_13_code_10) rfl rfl ?_
    show Steps p.tables e below (s₁.setTop (mkF m 11 #[.val (.ref (A 11)), .val (.ref b228_b226_b214_b200), .val (.int (0 : Int32))] [(.ref (A 11)), (.int (0 : Int32))])) _
    refine X0.arraylength hx (by rw [e0]; exact Ar294.1) (State.isArrayOf_alike hZ.alike Ar294.2.1) (g := (mkF m 11 #[.val (.ref (A 11)), .val (.ref b228_b226_b214_b200), .val (.int (0 : Int32))] [(.ref (A 11)), (.int (0 : Int32))])) rfl rfl (hb hby own_d_jdk_43_method_13_code_11) _ ?_
    rw [len_of Sz294 Nn294]
    show Steps p.tables e below (s₁.setTop (mkF m 12 #[.val (.ref (A 11)), .val (.ref b228_b226_b214_b200), .val (.int (0 : Int32))] [(.int (3 : Int32)), (.int (0 : Int32))])) _
    refine XS.icmpNo X0.here hx rfl (hb hby own_d_jdk_43_method_13_code_12) rfl (tlt (by decide : (0 : Int32) < (3 : Int32))).2.1 ?_
    show Steps p.tables e below (s₁.setTop (mkF m 15 #[.val (.ref (A 11)), .val (.ref b228_b226_b214_b200), .val (.int (0 : Int32))] [])) _
    refine XS.aloadN X0.here hx rfl (hb hby own_d_jdk_43_method_13_code_15) rfl rfl ?_
    show Steps p.tables e below (s₁.setTop (mkF m 16 #[.val (.ref (A 11)), .val (.ref b228_b226_b214_b200), .val (.int (0 : Int32))] [(.ref (A 11))])) _
    refine XS.iloadN X0.here hx rfl (hb hby own_d_jdk_43_method_13_code_16) rfl ?_
    show Steps p.tables e below (s₁.setTop (mkF m 17 #[.val (.ref (A 11)), .val (.ref b228_b226_b214_b200), .val (.int (0 : Int32))] [(.int (0 : Int32)), (.ref (A 11))])) _
    refine X0.baloadBytes hx (j := (0 : Int32)) (v := (.int (51 : Int32))) (by rw [e0]; exact Ar295.1) (State.isArrayOf_alike hZ.alike Ar295.2.1) Ar295.2.2 hin295 hat295 (g := (mkF m 17 #[.val (.ref (A 11)), .val (.ref b228_b226_b214_b200), .val (.int (0 : Int32))] [(.int (0 : Int32)), (.ref (A 11))])) rfl rfl (hb hby own_d_jdk_43_method_13_code_17) _ ?_
    show Steps p.tables e below (s₁.setTop (mkF m 18 #[.val (.ref (A 11)), .val (.ref b228_b226_b214_b200), .val (.int (0 : Int32))] [(.int (51 : Int32))])) _
    refine XS.aloadN X0.here hx rfl (hb hby own_d_jdk_43_method_13_code_18) rfl rfl ?_
    show Steps p.tables e below (s₁.setTop (mkF m 19 #[.val (.ref (A 11)), .val (.ref b228_b226_b214_b200), .val (.int (0 : Int32))] [(.ref b228_b226_b214_b200), (.int (51 : Int32))])) _
    refine XS.iloadN X0.here hx rfl (hb hby own_d_jdk_43_method_13_code_19) rfl ?_
    show Steps p.tables e below (s₁.setTop (mkF m 20 #[.val (.ref (A 11)), .val (.ref b228_b226_b214_b200), .val (.int (0 : Int32))] [(.int (0 : Int32)), (.ref b228_b226_b214_b200), (.int (51 : Int32))])) _
    refine X0.baloadBytes hx (j := (0 : Int32)) (v := (.int (51 : Int32))) (by rw [e0]; exact Ar296.1) (State.isArrayOf_alike hZ.alike Ar296.2.1) Ar296.2.2 hin296 hat296 (g := (mkF m 20 #[.val (.ref (A 11)), .val (.ref b228_b226_b214_b200), .val (.int (0 : Int32))] [(.int (0 : Int32)), (.ref b228_b226_b214_b200), (.int (51 : Int32))])) rfl rfl (hb hby own_d_jdk_43_method_13_code_20) _ ?_
    show Steps p.tables e below (s₁.setTop (mkF m 21 #[.val (.ref (A 11)), .val (.ref b228_b226_b214_b200), .val (.int (0 : Int32))] [(.int (51 : Int32)), (.int (51 : Int32))])) _
    refine XS.icmpYes X0.here hx rfl (pc0 := 21) (pc' := 26) rfl (hb hby own_d_jdk_43_method_13_code_21) rfl (teq (by decide : (51 : Int32) = (51 : Int32))).1 (by decide) (by decide) ?_
    show Steps p.tables e below (s₁.setTop (mkF m 26 #[.val (.ref (A 11)), .val (.ref b228_b226_b214_b200), .val (.int (0 : Int32))] [])) _
    refine XS.iinc X0.here hx rfl (hb hby own_d_jdk_43_method_13_code_26) rfl (l' := #[.val (.ref (A 11)), .val (.ref b228_b226_b214_b200), .val (.int (1 : Int32))]) rfl ?_
    show Steps p.tables e below (s₁.setTop (mkF m 29 #[.val (.ref (A 11)), .val (.ref b228_b226_b214_b200), .val (.int (1 : Int32))] [])) _
    refine XS.goto X0.here hx rfl (pc0 := 29) (pc' := 9) rfl (hb hby own_d_jdk_43_method_13_code_29) (by decide) (by decide) ?_
    show Steps p.tables e below (s₁.setTop (mkF m 9 #[.val (.ref (A 11)), .val (.ref b228_b226_b214_b200), .val (.int (1 : Int32))] [])) _
    refine XS.iloadN X0.here hx rfl (hb hby own_d_jdk_43_method_13_code_9) rfl ?_
    show Steps p.tables e below (s₁.setTop (mkF m 10 #[.val (.ref (A 11)), .val (.ref b228_b226_b214_b200), .val (.int (1 : Int32))] [(.int (1 : Int32))])) _
    refine XS.aloadN X0.here hx rfl (hb hby own_d_jdk_43_method_13_code_10) rfl rfl ?_
    show Steps p.tables e below (s₁.setTop (mkF m 11 #[.val (.ref (A 11)), .val (.ref b228_b226_b214_b200), .val (.int (1 : Int32))] [(.ref (A 11)), (.int (1 : Int32))])) _
    refine X0.arraylength hx (by rw [e0]; exact Ar297.1) (State.isArrayOf_alike hZ.alike Ar297.2.1) (g := (mkF m 11 #[.val (.ref (A 11)), .val (.ref b228_b226_b214_b200), .val (.int (1 : Int32))] [(.ref (A 11)), (.int (1 : Int32))])) rfl rfl (hb hby own_d_jdk_43_method_13_code_11) _ ?_
    rw [len_of Sz297 Nn297]
    show Steps p.tables e below (s₁.setTop (mkF m 12 #[.val (.ref (A 11)), .val (.ref b228_b226_b214_b200), .val (.int (1 : Int32))] [(.int (3 : Int32)), (.int (1 : Int32))])) _
    refine XS.icmpNo X0.here hx rfl (hb hby own_d_jdk_43_method_13_code_12) rfl (tlt (by decide : (1 : Int32) < (3 : Int32))).2.1 ?_
    show Steps p.tables e below (s₁.setTop (mkF m 15 #[.val (.ref (A 11)), .val (.ref b228_b226_b214_b200), .val (.int (1 : Int32))] [])) _
    refine XS.aloadN X0.here hx rfl (hb hby own_d_jdk_43_method_13_code_15) rfl rfl ?_
    show Steps p.tables e below (s₁.setTop (mkF m 16 #[.val (.ref (A 11)), .val (.ref b228_b226_b214_b200), .val (.int (1 : Int32))] [(.ref (A 11))])) _
    refine XS.iloadN X0.here hx rfl (hb hby own_d_jdk_43_method_13_code_16) rfl ?_
    show Steps p.tables e below (s₁.setTop (mkF m 17 #[.val (.ref (A 11)), .val (.ref b228_b226_b214_b200), .val (.int (1 : Int32))] [(.int (1 : Int32)), (.ref (A 11))])) _
    refine X0.baloadBytes hx (j := (1 : Int32)) (v := (.int (46 : Int32))) (by rw [e0]; exact Ar298.1) (State.isArrayOf_alike hZ.alike Ar298.2.1) Ar298.2.2 hin298 hat298 (g := (mkF m 17 #[.val (.ref (A 11)), .val (.ref b228_b226_b214_b200), .val (.int (1 : Int32))] [(.int (1 : Int32)), (.ref (A 11))])) rfl rfl (hb hby own_d_jdk_43_method_13_code_17) _ ?_
    show Steps p.tables e below (s₁.setTop (mkF m 18 #[.val (.ref (A 11)), .val (.ref b228_b226_b214_b200), .val (.int (1 : Int32))] [(.int (46 : Int32))])) _
    refine XS.aloadN X0.here hx rfl (hb hby own_d_jdk_43_method_13_code_18) rfl rfl ?_
    show Steps p.tables e below (s₁.setTop (mkF m 19 #[.val (.ref (A 11)), .val (.ref b228_b226_b214_b200), .val (.int (1 : Int32))] [(.ref b228_b226_b214_b200), (.int (46 : Int32))])) _
    refine XS.iloadN X0.here hx rfl (hb hby own_d_jdk_43_method_13_code_19) rfl ?_
    show Steps p.tables e below (s₁.setTop (mkF m 20 #[.val (.ref (A 11)), .val (.ref b228_b226_b214_b200), .val (.int (1 : Int32))] [(.int (1 : Int32)), (.ref b228_b226_b214_b200), (.int (46 : Int32))])) _
    refine X0.baloadBytes hx (j := (1 : Int32)) (v := (.int (46 : Int32))) (by rw [e0]; exact Ar299.1) (State.isArrayOf_alike hZ.alike Ar299.2.1) Ar299.2.2 hin299 hat299 (g := (mkF m 20 #[.val (.ref (A 11)), .val (.ref b228_b226_b214_b200), .val (.int (1 : Int32))] [(.int (1 : Int32)), (.ref b228_b226_b214_b200), (.int (46 : Int32))])) rfl rfl (hb hby own_d_jdk_43_method_13_code_20) _ ?_
    show Steps p.tables e below (s₁.setTop (mkF m 21 #[.val (.ref (A 11)), .val (.ref b228_b226_b214_b200), .val (.int (1 : Int32))] [(.int (46 : Int32)), (.int (46 : Int32))])) _
    refine XS.icmpYes X0.here hx rfl (pc0 := 21) (pc' := 26) rfl (hb hby own_d_jdk_43_method_13_code_21) rfl (teq (by decide : (46 : Int32) = (46 : Int32))).1 (by decide) (by decide) ?_
    show Steps p.tables e below (s₁.setTop (mkF m 26 #[.val (.ref (A 11)), .val (.ref b228_b226_b214_b200), .val (.int (1 : Int32))] [])) _
    refine XS.iinc X0.here hx rfl (hb hby own_d_jdk_43_method_13_code_26) rfl (l' := #[.val (.ref (A 11)), .val (.ref b228_b226_b214_b200), .val (.int (2 : Int32))]) rfl ?_
    show Steps p.tables e below (s₁.setTop (mkF m 29 #[.val (.ref (A 11)), .val (.ref b228_b226_b214_b200), .val (.int (2 : Int32))] [])) _
    refine XS.goto X0.here hx rfl (pc0 := 29) (pc' := 9) rfl (hb hby own_d_jdk_43_method_13_code_29) (by decide) (by decide) ?_
    show Steps p.tables e below (s₁.setTop (mkF m 9 #[.val (.ref (A 11)), .val (.ref b228_b226_b214_b200), .val (.int (2 : Int32))] [])) _
    refine XS.iloadN X0.here hx rfl (hb hby own_d_jdk_43_method_13_code_9) rfl ?_
    show Steps p.tables e below (s₁.setTop (mkF m 10 #[.val (.ref (A 11)), .val (.ref b228_b226_b214_b200), .val (.int (2 : Int32))] [(.int (2 : Int32))])) _
    refine XS.aloadN X0.here hx rfl (hb hby own_d_jdk_43_method_13_code_10) rfl rfl ?_
    show Steps p.tables e below (s₁.setTop (mkF m 11 #[.val (.ref (A 11)), .val (.ref b228_b226_b214_b200), .val (.int (2 : Int32))] [(.ref (A 11)), (.int (2 : Int32))])) _
    refine X0.arraylength hx (by rw [e0]; exact Ar300.1) (State.isArrayOf_alike hZ.alike Ar300.2.1) (g := (mkF m 11 #[.val (.ref (A 11)), .val (.ref b228_b226_b214_b200), .val (.int (2 : Int32))] [(.ref (A 11)), (.int (2 : Int32))])) rfl rfl (hb hby own_d_jdk_43_method_13_code_11) _ ?_
    rw [len_of Sz300 Nn300]
    show Steps p.tables e below (s₁.setTop (mkF m 12 #[.val (.ref (A 11)), .val (.ref b228_b226_b214_b200), .val (.int (2 : Int32))] [(.int (3 : Int32)), (.int (2 : Int32))])) _
    refine XS.icmpNo X0.here hx rfl (hb hby own_d_jdk_43_method_13_code_12) rfl (tlt (by decide : (2 : Int32) < (3 : Int32))).2.1 ?_
    show Steps p.tables e below (s₁.setTop (mkF m 15 #[.val (.ref (A 11)), .val (.ref b228_b226_b214_b200), .val (.int (2 : Int32))] [])) _
    refine XS.aloadN X0.here hx rfl (hb hby own_d_jdk_43_method_13_code_15) rfl rfl ?_
    show Steps p.tables e below (s₁.setTop (mkF m 16 #[.val (.ref (A 11)), .val (.ref b228_b226_b214_b200), .val (.int (2 : Int32))] [(.ref (A 11))])) _
    refine XS.iloadN X0.here hx rfl (hb hby own_d_jdk_43_method_13_code_16) rfl ?_
    show Steps p.tables e below (s₁.setTop (mkF m 17 #[.val (.ref (A 11)), .val (.ref b228_b226_b214_b200), .val (.int (2 : Int32))] [(.int (2 : Int32)), (.ref (A 11))])) _
    refine X0.baloadBytes hx (j := (2 : Int32)) (v := (.int (50 : Int32))) (by rw [e0]; exact Ar301.1) (State.isArrayOf_alike hZ.alike Ar301.2.1) Ar301.2.2 hin301 hat301 (g := (mkF m 17 #[.val (.ref (A 11)), .val (.ref b228_b226_b214_b200), .val (.int (2 : Int32))] [(.int (2 : Int32)), (.ref (A 11))])) rfl rfl (hb hby own_d_jdk_43_method_13_code_17) _ ?_
    show Steps p.tables e below (s₁.setTop (mkF m 18 #[.val (.ref (A 11)), .val (.ref b228_b226_b214_b200), .val (.int (2 : Int32))] [(.int (50 : Int32))])) _
    refine XS.aloadN X0.here hx rfl (hb hby own_d_jdk_43_method_13_code_18) rfl rfl ?_
    show Steps p.tables e below (s₁.setTop (mkF m 19 #[.val (.ref (A 11)), .val (.ref b228_b226_b214_b200), .val (.int (2 : Int32))] [(.ref b228_b226_b214_b200), (.int (50 : Int32))])) _
    refine XS.iloadN X0.here hx rfl (hb hby own_d_jdk_43_method_13_code_19) rfl ?_
    show Steps p.tables e below (s₁.setTop (mkF m 20 #[.val (.ref (A 11)), .val (.ref b228_b226_b214_b200), .val (.int (2 : Int32))] [(.int (2 : Int32)), (.ref b228_b226_b214_b200), (.int (50 : Int32))])) _
    refine X0.baloadBytes hx (j := (2 : Int32)) (v := (.int (50 : Int32))) (by rw [e0]; exact Ar302.1) (State.isArrayOf_alike hZ.alike Ar302.2.1) Ar302.2.2 hin302 hat302 (g := (mkF m 20 #[.val (.ref (A 11)), .val (.ref b228_b226_b214_b200), .val (.int (2 : Int32))] [(.int (2 : Int32)), (.ref b228_b226_b214_b200), (.int (50 : Int32))])) rfl rfl (hb hby own_d_jdk_43_method_13_code_20) _ ?_
    show Steps p.tables e below (s₁.setTop (mkF m 21 #[.val (.ref (A 11)), .val (.ref b228_b226_b214_b200), .val (.int (2 : Int32))] [(.int (50 : Int32)), (.int (50 : Int32))])) _
    refine XS.icmpYes X0.here hx rfl (pc0 := 21) (pc' := 26) rfl (hb hby own_d_jdk_43_method_13_code_21) rfl (teq (by decide : (50 : Int32) = (50 : Int32))).1 (by decide) (by decide) ?_
    show Steps p.tables e below (s₁.setTop (mkF m 26 #[.val (.ref (A 11)), .val (.ref b228_b226_b214_b200), .val (.int (2 : Int32))] [])) _
    refine XS.iinc X0.here hx rfl (hb hby own_d_jdk_43_method_13_code_26) rfl (l' := #[.val (.ref (A 11)), .val (.ref b228_b226_b214_b200), .val (.int (3 : Int32))]) rfl ?_
    show Steps p.tables e below (s₁.setTop (mkF m 29 #[.val (.ref (A 11)), .val (.ref b228_b226_b214_b200), .val (.int (3 : Int32))] [])) _
    refine XS.goto X0.here hx rfl (pc0 := 29) (pc' := 9) rfl (hb hby own_d_jdk_43_method_13_code_29) (by decide) (by decide) ?_
    show Steps p.tables e below (s₁.setTop (mkF m 9 #[.val (.ref (A 11)), .val (.ref b228_b226_b214_b200), .val (.int (3 : Int32))] [])) _
    refine XS.iloadN X0.here hx rfl (hb hby own_d_jdk_43_method_13_code_9) rfl ?_
    show Steps p.tables e below (s₁.setTop (mkF m 10 #[.val (.ref (A 11)), .val (.ref b228_b226_b214_b200), .val (.int (3 : Int32))] [(.int (3 : Int32))])) _
    refine XS.aloadN X0.here hx rfl (hb hby own_d_jdk_43_method_13_code_10) rfl rfl ?_
    show Steps p.tables e below (s₁.setTop (mkF m 11 #[.val (.ref (A 11)), .val (.ref b228_b226_b214_b200), .val (.int (3 : Int32))] [(.ref (A 11)), (.int (3 : Int32))])) _
    refine X0.arraylength hx (by rw [e0]; exact Ar303.1) (State.isArrayOf_alike hZ.alike Ar303.2.1) (g := (mkF m 11 #[.val (.ref (A 11)), .val (.ref b228_b226_b214_b200), .val (.int (3 : Int32))] [(.ref (A 11)), (.int (3 : Int32))])) rfl rfl (hb hby own_d_jdk_43_method_13_code_11) _ ?_
    rw [len_of Sz303 Nn303]
    show Steps p.tables e below (s₁.setTop (mkF m 12 #[.val (.ref (A 11)), .val (.ref b228_b226_b214_b200), .val (.int (3 : Int32))] [(.int (3 : Int32)), (.int (3 : Int32))])) _
    refine XS.icmpYes X0.here hx rfl (pc0 := 12) (pc' := 32) rfl (hb hby own_d_jdk_43_method_13_code_12) rfl (flt (by decide : ¬ ((3 : Int32) < (3 : Int32)))).2.1 (by decide) (by decide) ?_
    show Steps p.tables e below (s₁.setTop (mkF m 32 #[.val (.ref (A 11)), .val (.ref b228_b226_b214_b200), .val (.int (3 : Int32))] [])) _
    refine XS.iconst X0.here hx rfl (hb hby own_d_jdk_43_method_13_code_32) ?_
    show Steps p.tables e below (s₁.setTop (mkF m 33 #[.val (.ref (A 11)), .val (.ref b228_b226_b214_b200), .val (.int (3 : Int32))] [(.int (1 : Int32))])) _
    exact retN X0 hx (t := .boolean) Bd.returns (by simp) (hb hby own_d_jdk_43_method_13_code_33) hr
  · show PQ (some (.int (1 : Int32))) h0 n0 _ s₁.heap _
    rw [e0]
    exact ⟨rfl, N0, rfl⟩
theorem own_ef_rm34 (m : MethodId) (p1 : Int32) (A : Nat → Addr) (K : Nat → ClassId) (cs : Int32)  (b196 : Addr) (b228_b226_b214_b200 : Addr) (k228_k226_k214_k200 : ClassId) : entryFrame m #[(.ref (A 7)), (.ref b196)] 3 = mkF m 0 #[.val (.ref (A 7)), .val (.ref b196), .unset] [] := by first | (simp [entryFrame, mkF, argsToLocals, Value.category, maxLocals]; done) | rfl
set_option maxRecDepth 65536 in
set_option maxHeartbeats 40000000 in
theorem rm34 (l : Launch) (Z : State) (a0 : Array Value) (hw : ∀ d ∈ tables_1, d.before a0 Z = true) (ws : List Jvm.Cond) (h0 : Heap) (n0 : Nat) (p1 : Int32) (A : Nat → Addr) (K : Nat → ClassId) (cs : Int32)  (b196 : Addr) (b228_b226_b214_b200 : Addr) (k228_k226_k214_k200 : ClassId) (EN : own_St Z A K cs) (OL0 : Old Z n0 h0) (G_F_b196_java_lang_String_value : Fld Z h0 b196 "java/lang/String" "value" "[B" (.ref b228_b226_b214_b200)) (G_A_b228_b226_b214_b200 : Arv Z h0 b228_b226_b214_b200 k228_k226_k214_k200 .byte (3 : Int32) [(.int (51 : Int32)), (.int (46 : Int32)), (.int (50 : Int32))] (.int (0 : Int32))) (G_E_b196 : Exa Z h0 b196 "java/lang/String") (G_F_b196_java_lang_String_coder : Fld Z h0 b196 "java/lang/String" "coder" "B" (.int (0 : Int32))) (gn_b196 : n0 ≤ b196) :
    MetFree l own_m0 (head1 (Jvm.Cond.code own_m0 jdk_42_method_66_code 3 (some .boolean) :: ws) ({ frames := 1, cells := 0, slots := 0, locals := 14 } : Room)) (fun a U => a = #[(.ref (A 7)), (.ref b196)] ∧ Z.Warmed39 U.vm ∧ U.heap = h0) (fun _ _ _ _ _ => True) (fun _ U o U' => ∃ v L, o = .returned v ∧ (PQ (some (.int (1 : Int32))) h0 n0) v U'.heap L ∧ FrameEnd U o U' L ({ frames := 1, cells := 0, slots := 0, locals := 14 } : Room).cells ({ frames := 1, cells := 0, slots := 0, locals := 14 } : Room).slots) := by
  refine MetFree.of_bodySF (plainFor_of_name own_pn1) hisR ?_
  intro p e s m args below meth c s₁ Bd hml0 hP hK
  obtain ⟨rfl, hZ, hh⟩ := hP
  have hx := Bd.exec
  have hby := Bd.bytes
  have hml : c.maxLocals = 3 := hml0
  have hown : s.vm.findClass "java/lang/String" = some m.cls := findClass_of_methodNamed Bd.named
  have hnm := (name_of_methodNamed Bd.named Bd.method).1
  have X0 : Stand p l e ({ frames := 1, cells := 0, slots := 0, locals := 14 } : Room) s m #[(.ref (A 7)), (.ref b196)] below meth c s₁ [] 0 0 := Stand.of_body Bd
  have e0 : s₁.heap = h0 := by rw [← hh, Bd.state]; rfl
  have N0 := Fr.nil n0
  have pre0 : ∀ t, Steps p.tables e below (s₁.setTop (mkF m 0 #[.val (.ref (A 7)), .val (.ref b196), .unset] [])) t → Steps p.tables e below (s₁.setTop (entryFrame m #[(.ref (A 7)), (.ref b196)] 3)) t := fun t k => castTop (own_ef_rm34 m p1 A K cs b196 b228_b226_b214_b200 k228_k226_k214_k200) k
  have KK0 : Keep h0 h0 [] := Keep.refl _ _
  obtain ⟨T285, X285, e285, st285⟩ := instY X0 hx hZ hown (hw _ (List.mem_of_getElem? (i := 61) rfl)) e0 (Ins.self G_E_b196) (g := (mkF m 8 #[.val (.ref (A 7)), .val (.ref b196), .unset] [(.ref b196)])) rfl rfl (hb hby own_d_jdk_42_method_66_code_8)
  obtain ⟨T286, X286, e286, st286⟩ := castY X285 hx hZ hown (hw _ (List.mem_of_getElem? (i := 61) rfl)) e285 (Ins.self G_E_b196) (g := (mkF m 15 #[.val (.ref (A 7)), .val (.ref b196), .unset] [(.ref b196)])) rfl rfl (hb hby own_d_jdk_42_method_66_code_15)
  obtain ⟨T287, X287, e287, st287⟩ := getS2 X286 hx hZ hown (host := "") (Or.inl (hw _ (List.mem_of_getElem? (i := 14) rfl))) Via.refl e286 (EN.2.2.2.1.2.2.2.1.ext OL0.2) (g := (mkF m 19 #[.val (.ref (A 7)), .val (.ref b196), .val (.ref b196)] [])) rfl (hb hby own_d_jdk_42_method_66_code_19)
  obtain ⟨T288, X288, e288, st288⟩ := getF X287 hx hZ hown (host := "") (Or.inl (hw _ (List.mem_of_getElem? (i := 26) rfl))) Via.refl e287 (EN.2.2.2.2.1.1.ext OL0.2) (g := (mkF m 26 #[.val (.ref (A 7)), .val (.ref b196), .val (.ref b196)] [(.ref (A 7))])) rfl rfl (hb hby own_d_jdk_42_method_66_code_26)
  obtain ⟨T289, X289, e289, st289⟩ := getF X288 hx hZ hown (host := "") (Or.inl (hw _ (List.mem_of_getElem? (i := 26) rfl))) Via.refl e288 G_F_b196_java_lang_String_coder (g := (mkF m 30 #[.val (.ref (A 7)), .val (.ref b196), .val (.ref b196)] [(.ref b196), (.int (0 : Int32))])) rfl rfl (hb hby own_d_jdk_42_method_66_code_30)
  obtain ⟨T290, X290, e290, st290⟩ := getF X289 hx hZ hown (host := "") (Or.inl (hw _ (List.mem_of_getElem? (i := 28) rfl))) Via.refl e289 (EN.2.2.1.2.2.2.2.2.2.2.1.ext OL0.2) (g := (mkF m 37 #[.val (.ref (A 7)), .val (.ref b196), .val (.ref b196)] [(.ref (A 7))])) rfl rfl (hb hby own_d_jdk_42_method_66_code_37)
  obtain ⟨T291, X291, e291, st291⟩ := getF X290 hx hZ hown (host := "") (Or.inl (hw _ (List.mem_of_getElem? (i := 28) rfl))) Via.refl e290 G_F_b196_java_lang_String_value (g := (mkF m 41 #[.val (.ref (A 7)), .val (.ref b196), .val (.ref b196)] [(.ref b196), (.ref (A 11))])) rfl rfl (hb hby own_d_jdk_42_method_66_code_41)
  obtain ⟨_, _, ⟨T304, L304, k304, n304⟩, -, X304, ⟨Lc304, hQ304, l304, y304, z304⟩, st304⟩ := Jvm.LawKit.callS X291 hx (y := own_m1) hown (mvT hZ (hw _ (List.mem_of_getElem? (i := 62) rfl))) (mvT hZ (hw _ (List.mem_of_getElem? (i := 63) rfl))) (mvT hZ (hw _ (List.mem_of_getElem? (i := 64) rfl))) (mvT hZ (hw _ (List.mem_of_getElem? (i := 65) rfl))) (by decide) (backOf (W := 0) (rm35 l Z a0 hw [] h0 n0 p1 A K cs b228_b226_b214_b200 k228_k226_k214_k200 EN OL0 G_A_b228_b226_b214_b200) hZ (hw _ (List.mem_of_getElem? (i := 65) rfl)) (hw _ (List.mem_of_getElem? (i := 64) rfl)) (by decide) (by decide)) (g := (mkF m 44 #[.val (.ref (A 7)), .val (.ref b196), .val (.ref b196)] [(.ref b228_b226_b214_b200), (.ref (A 11))])) rfl (by rw [hml]; rfl) (argsL := [(.ref (A 11)), (.ref b228_b226_b214_b200)]) (rest := []) (lenOf own_pd6 rfl) rfl (by show 2 * 0 + _ ≤ _; exact Nat.le_of_eq rfl) (hb hby own_d_jdk_42_method_66_code_44) (fun _ _ => ⟨rfl, e291, (by decide : 0 + 0 ≤ _), (by decide : 0 + 0 ≤ _)⟩)
  dsimp only [Pt.U, Pt.locs, Pt.cells, Pt.slots] at X304 l304 y304 z304 st304 hQ304
  subst l304 y304 z304
  obtain ⟨rfl, N304q, e304⟩ := hQ304
  have N304 := Fr.app N0 N304q
  obtain ⟨fs, hr, hrun, hended, hW, hsame⟩ := X304.leave (v := some (.int (1 : Int32))) (fun h => by rw [Bd.returns] at h; cases h)
  refine ⟨_, _, pre0 _ ?_, hrun, hended, _, _, rfl, ?_, ⟨_, rfl⟩, hW, hsame.mono (by decide) (by decide)⟩
  · show Steps p.tables e below (s₁.setTop (mkF m 0 #[.val (.ref (A 7)), .val (.ref b196), .unset] [])) _
    refine XS.aloadN X0.here hx rfl (hb hby own_d_jdk_42_method_66_code_0) rfl rfl ?_
    show Steps p.tables e below (s₁.setTop (mkF m 1 #[.val (.ref (A 7)), .val (.ref b196), .unset] [(.ref (A 7))])) _
    refine XS.aloadN X0.here hx rfl (hb hby own_d_jdk_42_method_66_code_1) rfl rfl ?_
    show Steps p.tables e below (s₁.setTop (mkF m 2 #[.val (.ref (A 7)), .val (.ref b196), .unset] [(.ref b196), (.ref (A 7))])) _
    refine Jvm.RoadKit.acmp (g := (mkF m 2 #[.val (.ref (A 7)), .val (.ref b196), .unset] [(.ref b196), (.ref (A 7))])) X0 hx rfl rfl rfl (pc0 := 2) (pc' := 7) (same := false) rfl (hb hby own_d_jdk_42_method_66_code_2) rfl (decide_eq_false fun q => (OL0.ne EN.2.2.1.1.lt gn_b196) (Value.ref.inj q)) (by decide) (by decide) ?_
    show Steps p.tables e below (s₁.setTop (mkF m 7 #[.val (.ref (A 7)), .val (.ref b196), .unset] [])) _
    refine XS.aloadN X0.here hx rfl (hb hby own_d_jdk_42_method_66_code_7) rfl rfl ?_
    show Steps p.tables e below (s₁.setTop (mkF m 8 #[.val (.ref (A 7)), .val (.ref b196), .unset] [(.ref b196)])) _
    refine st285 _ ?_
    show Steps p.tables e below (T285.setTop (mkF m 11 #[.val (.ref (A 7)), .val (.ref b196), .unset] [(.int (1 : Int32))])) _
    refine XS.ifNo X285.here hx rfl (hb hby own_d_jdk_42_method_66_code_11) rfl ((if0 _ _).trans (feq (by decide : ¬ ((1 : Int32) = (0 : Int32)))).1) ?_
    show Steps p.tables e below (T285.setTop (mkF m 14 #[.val (.ref (A 7)), .val (.ref b196), .unset] [])) _
    refine XS.aloadN X285.here hx rfl (hb hby own_d_jdk_42_method_66_code_14) rfl rfl ?_
    show Steps p.tables e below (T285.setTop (mkF m 15 #[.val (.ref (A 7)), .val (.ref b196), .unset] [(.ref b196)])) _
    refine st286 _ ?_
    show Steps p.tables e below (T286.setTop (mkF m 18 #[.val (.ref (A 7)), .val (.ref b196), .unset] [(.ref b196)])) _
    refine XS.astoreN X286.here hx rfl (hb hby own_d_jdk_42_method_66_code_18) rfl rfl (l' := #[.val (.ref (A 7)), .val (.ref b196), .val (.ref b196)]) rfl ?_
    show Steps p.tables e below (T286.setTop (mkF m 19 #[.val (.ref (A 7)), .val (.ref b196), .val (.ref b196)] [])) _
    refine st287 _ ?_
    show Steps p.tables e below (T287.setTop (mkF m 22 #[.val (.ref (A 7)), .val (.ref b196), .val (.ref b196)] [(.int cs)])) _
    refine XS.ifNo X287.here hx rfl (hb hby own_d_jdk_42_method_66_code_22) rfl ((if0 _ _).trans (feq EN.2.2.2.1.2.2.2.2.1).1) ?_
    show Steps p.tables e below (T287.setTop (mkF m 25 #[.val (.ref (A 7)), .val (.ref b196), .val (.ref b196)] [])) _
    refine XS.aloadN X287.here hx rfl (hb hby own_d_jdk_42_method_66_code_25) rfl rfl ?_
    show Steps p.tables e below (T287.setTop (mkF m 26 #[.val (.ref (A 7)), .val (.ref b196), .val (.ref b196)] [(.ref (A 7))])) _
    refine st288 _ ?_
    show Steps p.tables e below (T288.setTop (mkF m 29 #[.val (.ref (A 7)), .val (.ref b196), .val (.ref b196)] [(.int (0 : Int32))])) _
    refine XS.aloadN X288.here hx rfl (hb hby own_d_jdk_42_method_66_code_29) rfl rfl ?_
    show Steps p.tables e below (T288.setTop (mkF m 30 #[.val (.ref (A 7)), .val (.ref b196), .val (.ref b196)] [(.ref b196), (.int (0 : Int32))])) _
    refine st289 _ ?_
    show Steps p.tables e below (T289.setTop (mkF m 33 #[.val (.ref (A 7)), .val (.ref b196), .val (.ref b196)] [(.int (0 : Int32)), (.int (0 : Int32))])) _
    refine XS.icmpNo X289.here hx rfl (hb hby own_d_jdk_42_method_66_code_33) rfl (teq (by decide : (0 : Int32) = (0 : Int32))).2 ?_
    show Steps p.tables e below (T289.setTop (mkF m 36 #[.val (.ref (A 7)), .val (.ref b196), .val (.ref b196)] [])) _
    refine XS.aloadN X289.here hx rfl (hb hby own_d_jdk_42_method_66_code_36) rfl rfl ?_
    show Steps p.tables e below (T289.setTop (mkF m 37 #[.val (.ref (A 7)), .val (.ref b196), .val (.ref b196)] [(.ref (A 7))])) _
    refine st290 _ ?_
    show Steps p.tables e below (T290.setTop (mkF m 40 #[.val (.ref (A 7)), .val (.ref b196), .val (.ref b196)] [(.ref (A 11))])) _
    refine XS.aloadN X290.here hx rfl (hb hby own_d_jdk_42_method_66_code_40) rfl rfl ?_
    show Steps p.tables e below (T290.setTop (mkF m 41 #[.val (.ref (A 7)), .val (.ref b196), .val (.ref b196)] [(.ref b196), (.ref (A 11))])) _
    refine st291 _ ?_
    show Steps p.tables e below (T291.setTop (mkF m 44 #[.val (.ref (A 7)), .val (.ref b196), .val (.ref b196)] [(.ref b228_b226_b214_b200), (.ref (A 11))])) _
    refine st304 _ ?_
    show Steps p.tables e below (T304.setTop (mkF m 47 #[.val (.ref (A 7)), .val (.ref b196), .val (.ref b196)] [(.int (1 : Int32))])) _
    refine XS.ifNo X304.here hx rfl (hb hby own_d_jdk_42_method_66_code_47) rfl ((if0 _ _).trans (feq (by decide : ¬ ((1 : Int32) = (0 : Int32)))).1) ?_
    show Steps p.tables e below (T304.setTop (mkF m 50 #[.val (.ref (A 7)), .val (.ref b196), .val (.ref b196)] [])) _
    refine XS.iconst X304.here hx rfl (hb hby own_d_jdk_42_method_66_code_50) ?_
    show Steps p.tables e below (T304.setTop (mkF m 51 #[.val (.ref (A 7)), .val (.ref b196), .val (.ref b196)] [(.int (1 : Int32))])) _
    refine XS.goto X304.here hx rfl (pc0 := 51) (pc' := 55) rfl (hb hby own_d_jdk_42_method_66_code_51) (by decide) (by decide) ?_
    show Steps p.tables e below (T304.setTop (mkF m 55 #[.val (.ref (A 7)), .val (.ref b196), .val (.ref b196)] [(.int (1 : Int32))])) _
    exact retN X304 hx (t := .boolean) Bd.returns (by simp) (hb hby own_d_jdk_42_method_66_code_55) hr
  · show PQ (some (.int (1 : Int32))) h0 n0 _ T304.heap _
    rw [e304]
    exact ⟨rfl, N304, rfl⟩
def Q_rm28 (Z : State) (p1 : Int32) (A : Nat → Addr) (K : Nat → ClassId) (cs : Int32) (b189 : Addr) (b196 : Addr) (b228_b226_b214_b200 : Addr) (k189 : ClassId) (k228_k226_k214_k200 : ClassId) (h0 : Heap) (n0 : Nat) (v : Option Value) (h : Heap) (L : List Loc) : Prop := ∃ b233_b231 : Addr, v = (some (.ref (A 2))) ∧ Fr n0 L ∧ Keep h0 h [] ∧ (n0 ≤ b233_b231 ∧ h0.size ≤ b233_b231) ∧ (Arv Z h b233_b231 (K 0) (.object "com/example/dongl/dongl/crypto/ProtocolVersion") (4 : Int32) [(.ref (A 0)), (.ref (A 1)), (.ref (A 2)), (.ref (A 3))] .null) ∧ (Exa Z h b233_b231 "[Lcom/example/dongl/dongl/crypto/ProtocolVersion;")
theorem own_ef_rm28 (m : MethodId) (p1 : Int32) (A : Nat → Addr) (K : Nat → ClassId) (cs : Int32)  (b189 : Addr) (b196 : Addr) (b228_b226_b214_b200 : Addr) (k189 : ClassId) (k228_k226_k214_k200 : ClassId) : entryFrame m #[(.ref b196)] 5 = mkF m 0 #[.val (.ref b196), .unset, .unset, .unset, .unset] [] := by first | (simp [entryFrame, mkF, argsToLocals, Value.category, maxLocals]; done) | rfl
set_option maxRecDepth 65536 in
set_option maxHeartbeats 40000000 in
theorem rm28 (l : Launch) (Z : State) (a0 : Array Value) (hw : ∀ d ∈ tables_1, d.before a0 Z = true) (ws : List Jvm.Cond) (h0 : Heap) (n0 : Nat) (p1 : Int32) (A : Nat → Addr) (K : Nat → ClassId) (cs : Int32)  (b189 : Addr) (b196 : Addr) (b228_b226_b214_b200 : Addr) (k189 : ClassId) (k228_k226_k214_k200 : ClassId) (EN : own_St Z A K cs) (OL0 : Old Z n0 h0) (G_A_b189 : Arv Z h0 b189 k189 .char (3 : Int32) [(.int (51 : Int32)), (.int (46 : Int32)), (.int (50 : Int32))] (.int (0 : Int32))) (G_E_b196 : Exa Z h0 b196 "java/lang/String") (G_A_b228_b226_b214_b200 : Arv Z h0 b228_b226_b214_b200 k228_k226_k214_k200 .byte (3 : Int32) [(.int (51 : Int32)), (.int (46 : Int32)), (.int (50 : Int32))] (.int (0 : Int32))) (G_F_b196_java_lang_String_value : Fld Z h0 b196 "java/lang/String" "value" "[B" (.ref b228_b226_b214_b200)) (G_F_b196_java_lang_String_coder : Fld Z h0 b196 "java/lang/String" "coder" "B" (.int (0 : Int32))) (gn_b196 : n0 ≤ b196) :
    MetFree l own_m9 (head1 (Jvm.Cond.code own_m9 prog_26_method_4_code 5 (some (.object "com/example/dongl/dongl/crypto/ProtocolVersion")) :: ws) ({ frames := 2, cells := 1, slots := 4, locals := 28 } : Room)) (fun a U => a = #[(.ref b196)] ∧ Z.Warmed39 U.vm ∧ U.heap = h0) (fun _ _ _ _ _ => True) (fun _ U o U' => ∃ v L, o = .returned v ∧ Q_rm28 Z p1 A K cs b189 b196 b228_b226_b214_b200 k189 k228_k226_k214_k200 h0 n0 v U'.heap L ∧ FrameEnd U o U' L ({ frames := 2, cells := 1, slots := 4, locals := 28 } : Room).cells ({ frames := 2, cells := 1, slots := 4, locals := 28 } : Room).slots) := by
  refine MetFree.of_bodySF (plainFor_of_name own_pn2) hisR ?_
  intro p e s m args below meth c s₁ Bd hml0 hP hK
  obtain ⟨rfl, hZ, hh⟩ := hP
  have hx := Bd.exec
  have hby := Bd.bytes
  have hml : c.maxLocals = 5 := hml0
  have hown : s.vm.findClass "com/example/dongl/dongl/crypto/ProtocolVersion" = some m.cls := findClass_of_methodNamed Bd.named
  have hnm := (name_of_methodNamed Bd.named Bd.method).1
  have X0 : Stand p l e ({ frames := 2, cells := 1, slots := 4, locals := 28 } : Room) s m #[(.ref b196)] below meth c s₁ [] 0 0 := Stand.of_body Bd
  have e0 : s₁.heap = h0 := by rw [← hh, Bd.state]; rfl
  have N0 := Fr.nil n0
  have pre0 : ∀ t, Steps p.tables e below (s₁.setTop (mkF m 0 #[.val (.ref b196), .unset, .unset, .unset, .unset] [])) t → Steps p.tables e below (s₁.setTop (entryFrame m #[(.ref b196)] 5)) t := fun t k => castTop (own_ef_rm28 m p1 A K cs b189 b196 b228_b226_b214_b200 k189 k228_k226_k214_k200) k
  have KK0 : Keep h0 h0 [] := Keep.refl _ _
  obtain ⟨_, _, ⟨T233, L233, k233, n233⟩, -, X233, ⟨Lc233, hQ233, l233, y233, z233⟩, st233⟩ := Jvm.LawKit.callS X0 hx (y := own_m8) hown (mvT hZ (hw _ (List.mem_of_getElem? (i := 36) rfl))) (mvT hZ (hw _ (List.mem_of_getElem? (i := 37) rfl))) (mvT hZ (hw _ (List.mem_of_getElem? (i := 31) rfl))) (mvT hZ (hw _ (List.mem_of_getElem? (i := 38) rfl))) (by decide) (backOf (W := 0) (rm29 l Z a0 hw [] h0 n0 p1 A K cs b189 b196 b228_b226_b214_b200 k189 k228_k226_k214_k200 EN OL0 G_A_b189 G_E_b196 G_A_b228_b226_b214_b200) hZ (hw _ (List.mem_of_getElem? (i := 38) rfl)) (hw _ (List.mem_of_getElem? (i := 31) rfl)) (by decide) (by decide)) (g := (mkF m 0 #[.val (.ref b196), .unset, .unset, .unset, .unset] [])) rfl (by rw [hml]; rfl) (argsL := []) (rest := []) (lenOf own_pd5 rfl) rfl (by show 2 * 0 + _ ≤ _; exact Nat.le_of_eq rfl) (hb hby own_d_prog_26_method_4_code_0) (fun _ _ => ⟨rfl, e0, (by decide : 0 + 1 ≤ _), (by decide : 0 + 4 ≤ _)⟩)
  dsimp only [Pt.U, Pt.locs, Pt.cells, Pt.slots] at X233 l233 y233 z233 st233 hQ233
  subst l233 y233 z233
  obtain ⟨b233_b231, rfl, N233q, K233c, ⟨gn_b233_b231, szc_b233_b231⟩, f233_0, f233_1⟩ := hQ233
  have N233 := Fr.app N0 N233q
  have lt_b189_b233_b231 : b189 < b233_b231 := Nat.lt_of_lt_of_le G_A_b189.lt szc_b233_b231
  have lt_b196_b233_b231 : b196 < b233_b231 := Nat.lt_of_lt_of_le G_E_b196.lt szc_b233_b231
  have lt_b228_b226_b214_b200_b233_b231 : b228_b226_b214_b200 < b233_b231 := Nat.lt_of_lt_of_le G_A_b228_b226_b214_b200.lt szc_b233_b231
  have sz_b233_b231 : h0.size ≤ b233_b231 := Nat.le_trans KK0.1 szc_b233_b231
  have OL233 : Old Z n0 T233.heap := OL0.keep K233c all0
  have KK233 : Keep h0 T233.heap [] := KK0.trans K233c all0
  obtain ⟨cl234, Ar234, -, Sz234, Nn234, -, -⟩ := (id f233_0)
  obtain ⟨cl235, Ar235, q235, Sz235, Nn235, Hh235, Gg235⟩ := (id f233_0)
  have hin235 : ¬ ((0 : Int32) < 0 ∨ cl235.slots.size ≤ ((0 : Int32)).toNatClampNeg) := inb_of Sz235 ⟨by decide, by decide⟩
  have hat235 : cl235.slots[((0 : Int32)).toNatClampNeg]? = some (.ref (A 0)) := Has.at Hh235 hin235 rfl
  obtain ⟨T236, X236, e236, st236⟩ := getF X233 hx hZ hown (host := "") (Or.inl (hw _ (List.mem_of_getElem? (i := 54) rfl))) Via.refl rfl (EN.2.1.2.2.2.1.ext OL233.2) (g := (mkF m 21 #[.val (.ref b196), .val (.ref b233_b231), .val (.int (4 : Int32)), .val (.int (0 : Int32)), .val (.ref (A 0))] [(.ref (A 0))])) rfl rfl (hb hby own_d_prog_26_method_4_code_21)
  have fx256 : Fld Z T233.heap b196 "java/lang/String" "value" "[B" (.ref b228_b226_b214_b200) := (G_F_b196_java_lang_String_value.keep K233c nin0)
  have fx257 : Arv Z T233.heap b228_b226_b214_b200 k228_k226_k214_k200 .byte (3 : Int32) [(.int (51 : Int32)), (.int (46 : Int32)), (.int (50 : Int32))] (.int (0 : Int32)) := (G_A_b228_b226_b214_b200.keep K233c nin0)
  have fx258 : Exa Z T233.heap b196 "java/lang/String" := (G_E_b196.keep K233c)
  have fx259 : Fld Z T233.heap b196 "java/lang/String" "coder" "B" (.int (0 : Int32)) := (G_F_b196_java_lang_String_coder.keep K233c nin0)
  obtain ⟨cq260, kq260, q260a, q260b, q260c⟩ := isOf hZ e236 (EN.2.1.2.2.2.2.1.ext OL233.2)
  obtain ⟨_, _, ⟨T260, L260, k260, n260⟩, -, X260, ⟨Lc260, hQ260, l260, y260, z260⟩, st260⟩ := X236.virtualBack hx (y := own_m0) (z := own_m0) hown (mvT hZ (hw _ (List.mem_of_getElem? (i := 56) rfl))) (mvT hZ (hw _ (List.mem_of_getElem? (i := 57) rfl))) (notFace_of_selects (args := #[]) (mvT hZ (hw _ (List.mem_of_getElem? (i := 59) rfl)))) (mvT hZ (hw _ (List.mem_of_getElem? (i := 59) rfl))) (mvT hZ (hw _ (List.mem_of_getElem? (i := 58) rfl))) (by decide) (backOf (W := 0) (rm30 l Z a0 hw [] T233.heap n0 p1 A K cs b196 b228_b226_b214_b200 k228_k226_k214_k200 EN OL233 fx256 fx257 fx258 fx259) hZ (hw _ (List.mem_of_getElem? (i := 60) rfl)) (hw _ (List.mem_of_getElem? (i := 3) rfl)) (by decide) (by decide)) q260a q260c (g := (mkF m 25 #[.val (.ref b196), .val (.ref b233_b231), .val (.int (4 : Int32)), .val (.int (0 : Int32)), .val (.ref (A 0))] [(.ref b196), (.ref (A 5))])) rfl (by rw [hml]; rfl) (Steps.refl _) (argsL := [(.ref b196)]) (rest := []) (lenOf own_pd7 rfl) rfl (by show 2 * 0 + _ ≤ _; exact Nat.le_of_eq rfl) (hb hby own_d_prog_26_method_4_code_25) (fun _ _ => ⟨rfl, e236, (by decide : 1 + 0 ≤ _), (by decide : 4 + 0 ≤ _)⟩)
  dsimp only [Pt.U, Pt.locs, Pt.cells, Pt.slots] at X260 l260 y260 z260 st260 hQ260
  subst l260 y260 z260
  obtain ⟨rfl, N260q, e260⟩ := hQ260
  have N260 := Fr.app N233 N260q
  obtain ⟨cl261, Ar261, q261, Sz261, Nn261, Hh261, Gg261⟩ := (id f233_0)
  have hin261 : ¬ ((1 : Int32) < 0 ∨ cl261.slots.size ≤ ((1 : Int32)).toNatClampNeg) := inb_of Sz261 ⟨by decide, by decide⟩
  have hat261 : cl261.slots[((1 : Int32)).toNatClampNeg]? = some (.ref (A 1)) := Has.at Hh261 hin261 rfl
  obtain ⟨T262, X262, e262, st262⟩ := getF X260 hx hZ hown (host := "") (Or.inl (hw _ (List.mem_of_getElem? (i := 54) rfl))) Via.refl e260 (EN.2.1.2.2.2.2.2.1.ext OL233.2) (g := (mkF m 21 #[.val (.ref b196), .val (.ref b233_b231), .val (.int (4 : Int32)), .val (.int (1 : Int32)), .val (.ref (A 1))] [(.ref (A 1))])) rfl rfl (hb hby own_d_prog_26_method_4_code_21)
  obtain ⟨cq282, kq282, q282a, q282b, q282c⟩ := isOf hZ e262 (EN.2.1.2.2.2.2.2.2.1.ext OL233.2)
  obtain ⟨_, _, ⟨T282, L282, k282, n282⟩, -, X282, ⟨Lc282, hQ282, l282, y282, z282⟩, st282⟩ := X262.virtualBack hx (y := own_m0) (z := own_m0) hown (mvT hZ (hw _ (List.mem_of_getElem? (i := 56) rfl))) (mvT hZ (hw _ (List.mem_of_getElem? (i := 57) rfl))) (notFace_of_selects (args := #[]) (mvT hZ (hw _ (List.mem_of_getElem? (i := 59) rfl)))) (mvT hZ (hw _ (List.mem_of_getElem? (i := 59) rfl))) (mvT hZ (hw _ (List.mem_of_getElem? (i := 58) rfl))) (by decide) (backOf (W := 0) (rm32 l Z a0 hw [] T233.heap n0 p1 A K cs b196 b228_b226_b214_b200 k228_k226_k214_k200 EN OL233 fx256 fx257 fx258 fx259) hZ (hw _ (List.mem_of_getElem? (i := 60) rfl)) (hw _ (List.mem_of_getElem? (i := 3) rfl)) (by decide) (by decide)) q282a q282c (g := (mkF m 25 #[.val (.ref b196), .val (.ref b233_b231), .val (.int (4 : Int32)), .val (.int (1 : Int32)), .val (.ref (A 1))] [(.ref b196), (.ref (A 6))])) rfl (by rw [hml]; rfl) (Steps.refl _) (argsL := [(.ref b196)]) (rest := []) (lenOf own_pd7 rfl) rfl (by show 2 * 0 + _ ≤ _; exact Nat.le_of_eq rfl) (hb hby own_d_prog_26_method_4_code_25) (fun _ _ => ⟨rfl, e262, (by decide : 1 + 0 ≤ _), (by decide : 4 + 0 ≤ _)⟩)
  dsimp only [Pt.U, Pt.locs, Pt.cells, Pt.slots] at X282 l282 y282 z282 st282 hQ282
  subst l282 y282 z282
  obtain ⟨rfl, N282q, e282⟩ := hQ282
  have N282 := Fr.app N260 N282q
  obtain ⟨cl283, Ar283, q283, Sz283, Nn283, Hh283, Gg283⟩ := (id f233_0)
  have hin283 : ¬ ((2 : Int32) < 0 ∨ cl283.slots.size ≤ ((2 : Int32)).toNatClampNeg) := inb_of Sz283 ⟨by decide, by decide⟩
  have hat283 : cl283.slots[((2 : Int32)).toNatClampNeg]? = some (.ref (A 2)) := Has.at Hh283 hin283 rfl
  obtain ⟨T284, X284, e284, st284⟩ := getF X282 hx hZ hown (host := "") (Or.inl (hw _ (List.mem_of_getElem? (i := 54) rfl))) Via.refl e282 (EN.2.1.2.2.2.2.2.2.2.1.ext OL233.2) (g := (mkF m 21 #[.val (.ref b196), .val (.ref b233_b231), .val (.int (4 : Int32)), .val (.int (2 : Int32)), .val (.ref (A 2))] [(.ref (A 2))])) rfl rfl (hb hby own_d_prog_26_method_4_code_21)
  obtain ⟨cq305, kq305, q305a, q305b, q305c⟩ := isOf hZ e284 (EN.2.2.1.1.ext OL233.2)
  obtain ⟨_, _, ⟨T305, L305, k305, n305⟩, -, X305, ⟨Lc305, hQ305, l305, y305, z305⟩, st305⟩ := X284.virtualBack hx (y := own_m0) (z := own_m0) hown (mvT hZ (hw _ (List.mem_of_getElem? (i := 56) rfl))) (mvT hZ (hw _ (List.mem_of_getElem? (i := 57) rfl))) (notFace_of_selects (args := #[]) (mvT hZ (hw _ (List.mem_of_getElem? (i := 59) rfl)))) (mvT hZ (hw _ (List.mem_of_getElem? (i := 59) rfl))) (mvT hZ (hw _ (List.mem_of_getElem? (i := 58) rfl))) (by decide) (backOf (W := 0) (rm34 l Z a0 hw [] T233.heap n0 p1 A K cs b196 b228_b226_b214_b200 k228_k226_k214_k200 EN OL233 fx256 fx257 fx258 fx259 gn_b196) hZ (hw _ (List.mem_of_getElem? (i := 60) rfl)) (hw _ (List.mem_of_getElem? (i := 3) rfl)) (by decide) (by decide)) q305a q305c (g := (mkF m 25 #[.val (.ref b196), .val (.ref b233_b231), .val (.int (4 : Int32)), .val (.int (2 : Int32)), .val (.ref (A 2))] [(.ref b196), (.ref (A 7))])) rfl (by rw [hml]; rfl) (Steps.refl _) (argsL := [(.ref b196)]) (rest := []) (lenOf own_pd7 rfl) rfl (by show 2 * 0 + _ ≤ _; exact Nat.le_of_eq rfl) (hb hby own_d_prog_26_method_4_code_25) (fun _ _ => ⟨rfl, e284, (by decide : 1 + 0 ≤ _), (by decide : 4 + 0 ≤ _)⟩)
  dsimp only [Pt.U, Pt.locs, Pt.cells, Pt.slots] at X305 l305 y305 z305 st305 hQ305
  subst l305 y305 z305
  obtain ⟨rfl, N305q, e305⟩ := hQ305
  have N305 := Fr.app N282 N305q
  obtain ⟨fs, hr, hrun, hended, hW, hsame⟩ := X305.leave (v := some (.ref (A 2))) (fun h => by rw [Bd.returns] at h; cases h)
  refine ⟨_, _, pre0 _ ?_, hrun, hended, _, _, rfl, ?_, ⟨_, rfl⟩, hW, hsame.mono (by decide) (by decide)⟩
  · show Steps p.tables e below (s₁.setTop (mkF m 0 #[.val (.ref b196), .unset, .unset, .unset, .unset] [])) _
    refine st233 _ ?_
    show Steps p.tables e below (T233.setTop (mkF m 3 #[.val (.ref b196), .unset, .unset, .unset, .unset] [(.ref b233_b231)])) _
    refine XS.astoreN X233.here hx rfl (hb hby own_d_prog_26_method_4_code_3) rfl rfl (l' := #[.val (.ref b196), .val (.ref b233_b231), .unset, .unset, .unset]) rfl ?_
    show Steps p.tables e below (T233.setTop (mkF m 4 #[.val (.ref b196), .val (.ref b233_b231), .unset, .unset, .unset] [])) _
    refine XS.aloadN X233.here hx rfl (hb hby own_d_prog_26_method_4_code_4) rfl rfl ?_
    show Steps p.tables e below (T233.setTop (mkF m 5 #[.val (.ref b196), .val (.ref b233_b231), .unset, .unset, .unset] [(.ref b233_b231)])) _
    refine X233.arraylength hx (by exact Ar234.1) (State.isArrayOf_alike hZ.alike Ar234.2.1) (g := (mkF m 5 #[.val (.ref b196), .val (.ref b233_b231), .unset, .unset, .unset] [(.ref b233_b231)])) rfl rfl (hb hby own_d_prog_26_method_4_code_5) _ ?_
    rw [len_of Sz234 Nn234]
    show Steps p.tables e below (T233.setTop (mkF m 6 #[.val (.ref b196), .val (.ref b233_b231), .unset, .unset, .unset] [(.int (4 : Int32))])) _
    refine XS.istoreN X233.here hx rfl (hb hby own_d_prog_26_method_4_code_6) rfl (l' := #[.val (.ref b196), .val (.ref b233_b231), .val (.int (4 : Int32)), .unset, .unset]) rfl ?_
    show Steps p.tables e below (T233.setTop (mkF m 7 #[.val (.ref b196), .val (.ref b233_b231), .val (.int (4 : Int32)), .unset, .unset] [])) _
    refine XS.iconst X233.here hx rfl (hb hby own_d_prog_26_method_4_code_7) ?_
    show Steps p.tables e below (T233.setTop (mkF m 8 #[.val (.ref b196), .val (.ref b233_b231), .val (.int (4 : Int32)), .unset, .unset] [(.int (0 : Int32))])) _
    refine XS.istoreN X233.here hx rfl (hb hby own_d_prog_26_method_4_code_8) rfl (l' := #[.val (.ref b196), .val (.ref b233_b231), .val (.int (4 : Int32)), .val (.int (0 : Int32)), .unset]) rfl ?_
    show Steps p.tables e below (T233.setTop (mkF m 9 #[.val (.ref b196), .val (.ref b233_b231), .val (.int (4 : Int32)), .val (.int (0 : Int32)), .unset] [])) _
    refine XS.iloadN X233.here hx rfl (hb hby own_d_prog_26_method_4_code_9) rfl ?_
    show Steps p.tables e below (T233.setTop (mkF m 10 #[.val (.ref b196), .val (.ref b233_b231), .val (.int (4 : Int32)), .val (.int (0 : Int32)), .unset] [(.int (0 : Int32))])) _
    refine XS.iloadN X233.here hx rfl (hb hby own_d_prog_26_method_4_code_10) rfl ?_
    show Steps p.tables e below (T233.setTop (mkF m 11 #[.val (.ref b196), .val (.ref b233_b231), .val (.int (4 : Int32)), .val (.int (0 : Int32)), .unset] [(.int (4 : Int32)), (.int (0 : Int32))])) _
    refine XS.icmpNo X233.here hx rfl (hb hby own_d_prog_26_method_4_code_11) rfl (tlt (by decide : (0 : Int32) < (4 : Int32))).2.1 ?_
    show Steps p.tables e below (T233.setTop (mkF m 14 #[.val (.ref b196), .val (.ref b233_b231), .val (.int (4 : Int32)), .val (.int (0 : Int32)), .unset] [])) _
    refine XS.aloadN X233.here hx rfl (hb hby own_d_prog_26_method_4_code_14) rfl rfl ?_
    show Steps p.tables e below (T233.setTop (mkF m 15 #[.val (.ref b196), .val (.ref b233_b231), .val (.int (4 : Int32)), .val (.int (0 : Int32)), .unset] [(.ref b233_b231)])) _
    refine XS.iloadN X233.here hx rfl (hb hby own_d_prog_26_method_4_code_15) rfl ?_
    show Steps p.tables e below (T233.setTop (mkF m 16 #[.val (.ref b196), .val (.ref b233_b231), .val (.int (4 : Int32)), .val (.int (0 : Int32)), .unset] [(.int (0 : Int32)), (.ref b233_b231)])) _
    refine X233.aaload hx (j := (0 : Int32)) (v := (.ref (A 0))) (by exact Ar235.1) (State.isArrayOf_alike hZ.alike Ar235.2.1) rfl Ar235.2.2 hin235 hat235 (g := (mkF m 16 #[.val (.ref b196), .val (.ref b233_b231), .val (.int (4 : Int32)), .val (.int (0 : Int32)), .unset] [(.int (0 : Int32)), (.ref b233_b231)])) rfl rfl (hb hby own_d_prog_26_method_4_code_16) _ ?_
    show Steps p.tables e below (T233.setTop (mkF m 17 #[.val (.ref b196), .val (.ref b233_b231), .val (.int (4 : Int32)), .val (.int (0 : Int32)), .unset] [(.ref (A 0))])) _
    refine XS.astore X233.here hx rfl (hb hby own_d_prog_26_method_4_code_17) rfl rfl (l' := #[.val (.ref b196), .val (.ref b233_b231), .val (.int (4 : Int32)), .val (.int (0 : Int32)), .val (.ref (A 0))]) rfl ?_
    show Steps p.tables e below (T233.setTop (mkF m 19 #[.val (.ref b196), .val (.ref b233_b231), .val (.int (4 : Int32)), .val (.int (0 : Int32)), .val (.ref (A 0))] [])) _
    refine XS.aload X233.here hx rfl (hb hby own_d_prog_26_method_4_code_19) rfl rfl ?_
    show Steps p.tables e below (T233.setTop (mkF m 21 #[.val (.ref b196), .val (.ref b233_b231), .val (.int (4 : Int32)), .val (.int (0 : Int32)), .val (.ref (A 0))] [(.ref (A 0))])) _
    refine st236 _ ?_
    show Steps p.tables e below (T236.setTop (mkF m 24 #[.val (.ref b196), .val (.ref b233_b231), .val (.int (4 : Int32)), .val (.int (0 : Int32)), .val (.ref (A 0))] [(.ref (A 5))])) _
    refine XS.aloadN X236.here hx rfl (hb hby own_d_prog_26_method_4_code_24) rfl rfl ?_
    show Steps p.tables e below (T236.setTop (mkF m 25 #[.val (.ref b196), .val (.ref b233_b231), .val (.int (4 : Int32)), .val (.int (0 : Int32)), .val (.ref (A 0))] [(.ref b196), (.ref (A 5))])) _
    refine st260.trans ?_
    show Steps p.tables e below (T260.setTop (mkF m 28 #[.val (.ref b196), .val (.ref b233_b231), .val (.int (4 : Int32)), .val (.int (0 : Int32)), .val (.ref (A 0))] [(.int (0 : Int32))])) _
    refine XS.ifYes X260.here hx rfl (pc0 := 28) (pc' := 34) rfl (hb hby own_d_prog_26_method_4_code_28) rfl ((if0 _ _).trans (teq (by decide : (0 : Int32) = (0 : Int32))).1) (by decide) (by decide) ?_
    show Steps p.tables e below (T260.setTop (mkF m 34 #[.val (.ref b196), .val (.ref b233_b231), .val (.int (4 : Int32)), .val (.int (0 : Int32)), .val (.ref (A 0))] [])) _
    refine XS.iinc X260.here hx rfl (hb hby own_d_prog_26_method_4_code_34) rfl (l' := #[.val (.ref b196), .val (.ref b233_b231), .val (.int (4 : Int32)), .val (.int (1 : Int32)), .val (.ref (A 0))]) rfl ?_
    show Steps p.tables e below (T260.setTop (mkF m 37 #[.val (.ref b196), .val (.ref b233_b231), .val (.int (4 : Int32)), .val (.int (1 : Int32)), .val (.ref (A 0))] [])) _
    refine XS.goto X260.here hx rfl (pc0 := 37) (pc' := 9) rfl (hb hby own_d_prog_26_method_4_code_37) (by decide) (by decide) ?_
    show Steps p.tables e below (T260.setTop (mkF m 9 #[.val (.ref b196), .val (.ref b233_b231), .val (.int (4 : Int32)), .val (.int (1 : Int32)), .val (.ref (A 0))] [])) _
    refine XS.iloadN X260.here hx rfl (hb hby own_d_prog_26_method_4_code_9) rfl ?_
    show Steps p.tables e below (T260.setTop (mkF m 10 #[.val (.ref b196), .val (.ref b233_b231), .val (.int (4 : Int32)), .val (.int (1 : Int32)), .val (.ref (A 0))] [(.int (1 : Int32))])) _
    refine XS.iloadN X260.here hx rfl (hb hby own_d_prog_26_method_4_code_10) rfl ?_
    show Steps p.tables e below (T260.setTop (mkF m 11 #[.val (.ref b196), .val (.ref b233_b231), .val (.int (4 : Int32)), .val (.int (1 : Int32)), .val (.ref (A 0))] [(.int (4 : Int32)), (.int (1 : Int32))])) _
    refine XS.icmpNo X260.here hx rfl (hb hby own_d_prog_26_method_4_code_11) rfl (tlt (by decide : (1 : Int32) < (4 : Int32))).2.1 ?_
    show Steps p.tables e below (T260.setTop (mkF m 14 #[.val (.ref b196), .val (.ref b233_b231), .val (.int (4 : Int32)), .val (.int (1 : Int32)), .val (.ref (A 0))] [])) _
    refine XS.aloadN X260.here hx rfl (hb hby own_d_prog_26_method_4_code_14) rfl rfl ?_
    show Steps p.tables e below (T260.setTop (mkF m 15 #[.val (.ref b196), .val (.ref b233_b231), .val (.int (4 : Int32)), .val (.int (1 : Int32)), .val (.ref (A 0))] [(.ref b233_b231)])) _
    refine XS.iloadN X260.here hx rfl (hb hby own_d_prog_26_method_4_code_15) rfl ?_
    show Steps p.tables e below (T260.setTop (mkF m 16 #[.val (.ref b196), .val (.ref b233_b231), .val (.int (4 : Int32)), .val (.int (1 : Int32)), .val (.ref (A 0))] [(.int (1 : Int32)), (.ref b233_b231)])) _
    refine X260.aaload hx (j := (1 : Int32)) (v := (.ref (A 1))) (by rw [e260]; exact Ar261.1) (State.isArrayOf_alike hZ.alike Ar261.2.1) rfl Ar261.2.2 hin261 hat261 (g := (mkF m 16 #[.val (.ref b196), .val (.ref b233_b231), .val (.int (4 : Int32)), .val (.int (1 : Int32)), .val (.ref (A 0))] [(.int (1 : Int32)), (.ref b233_b231)])) rfl rfl (hb hby own_d_prog_26_method_4_code_16) _ ?_
    show Steps p.tables e below (T260.setTop (mkF m 17 #[.val (.ref b196), .val (.ref b233_b231), .val (.int (4 : Int32)), .val (.int (1 : Int32)), .val (.ref (A 0))] [(.ref (A 1))])) _
    refine XS.astore X260.here hx rfl (hb hby own_d_prog_26_method_4_code_17) rfl rfl (l' := #[.val (.ref b196), .val (.ref b233_b231), .val (.int (4 : Int32)), .val (.int (1 : Int32)), .val (.ref (A 1))]) rfl ?_
    show Steps p.tables e below (T260.setTop (mkF m 19 #[.val (.ref b196), .val (.ref b233_b231), .val (.int (4 : Int32)), .val (.int (1 : Int32)), .val (.ref (A 1))] [])) _
    refine XS.aload X260.here hx rfl (hb hby own_d_prog_26_method_4_code_19) rfl rfl ?_
    show Steps p.tables e below (T260.setTop (mkF m 21 #[.val (.ref b196), .val (.ref b233_b231), .val (.int (4 : Int32)), .val (.int (1 : Int32)), .val (.ref (A 1))] [(.ref (A 1))])) _
    refine st262 _ ?_
    show Steps p.tables e below (T262.setTop (mkF m 24 #[.val (.ref b196), .val (.ref b233_b231), .val (.int (4 : Int32)), .val (.int (1 : Int32)), .val (.ref (A 1))] [(.ref (A 6))])) _
    refine XS.aloadN X262.here hx rfl (hb hby own_d_prog_26_method_4_code_24) rfl rfl ?_
    show Steps p.tables e below (T262.setTop (mkF m 25 #[.val (.ref b196), .val (.ref b233_b231), .val (.int (4 : Int32)), .val (.int (1 : Int32)), .val (.ref (A 1))] [(.ref b196), (.ref (A 6))])) _
    refine st282.trans ?_
    show Steps p.tables e below (T282.setTop (mkF m 28 #[.val (.ref b196), .val (.ref b233_b231), .val (.int (4 : Int32)), .val (.int (1 : Int32)), .val (.ref (A 1))] [(.int (0 : Int32))])) _
    refine XS.ifYes X282.here hx rfl (pc0 := 28) (pc' := 34) rfl (hb hby own_d_prog_26_method_4_code_28) rfl ((if0 _ _).trans (teq (by decide : (0 : Int32) = (0 : Int32))).1) (by decide) (by decide) ?_
    show Steps p.tables e below (T282.setTop (mkF m 34 #[.val (.ref b196), .val (.ref b233_b231), .val (.int (4 : Int32)), .val (.int (1 : Int32)), .val (.ref (A 1))] [])) _
    refine XS.iinc X282.here hx rfl (hb hby own_d_prog_26_method_4_code_34) rfl (l' := #[.val (.ref b196), .val (.ref b233_b231), .val (.int (4 : Int32)), .val (.int (2 : Int32)), .val (.ref (A 1))]) rfl ?_
    show Steps p.tables e below (T282.setTop (mkF m 37 #[.val (.ref b196), .val (.ref b233_b231), .val (.int (4 : Int32)), .val (.int (2 : Int32)), .val (.ref (A 1))] [])) _
    refine XS.goto X282.here hx rfl (pc0 := 37) (pc' := 9) rfl (hb hby own_d_prog_26_method_4_code_37) (by decide) (by decide) ?_
    show Steps p.tables e below (T282.setTop (mkF m 9 #[.val (.ref b196), .val (.ref b233_b231), .val (.int (4 : Int32)), .val (.int (2 : Int32)), .val (.ref (A 1))] [])) _
    refine XS.iloadN X282.here hx rfl (hb hby own_d_prog_26_method_4_code_9) rfl ?_
    show Steps p.tables e below (T282.setTop (mkF m 10 #[.val (.ref b196), .val (.ref b233_b231), .val (.int (4 : Int32)), .val (.int (2 : Int32)), .val (.ref (A 1))] [(.int (2 : Int32))])) _
    refine XS.iloadN X282.here hx rfl (hb hby own_d_prog_26_method_4_code_10) rfl ?_
    show Steps p.tables e below (T282.setTop (mkF m 11 #[.val (.ref b196), .val (.ref b233_b231), .val (.int (4 : Int32)), .val (.int (2 : Int32)), .val (.ref (A 1))] [(.int (4 : Int32)), (.int (2 : Int32))])) _
    refine XS.icmpNo X282.here hx rfl (hb hby own_d_prog_26_method_4_code_11) rfl (tlt (by decide : (2 : Int32) < (4 : Int32))).2.1 ?_
    show Steps p.tables e below (T282.setTop (mkF m 14 #[.val (.ref b196), .val (.ref b233_b231), .val (.int (4 : Int32)), .val (.int (2 : Int32)), .val (.ref (A 1))] [])) _
    refine XS.aloadN X282.here hx rfl (hb hby own_d_prog_26_method_4_code_14) rfl rfl ?_
    show Steps p.tables e below (T282.setTop (mkF m 15 #[.val (.ref b196), .val (.ref b233_b231), .val (.int (4 : Int32)), .val (.int (2 : Int32)), .val (.ref (A 1))] [(.ref b233_b231)])) _
    refine XS.iloadN X282.here hx rfl (hb hby own_d_prog_26_method_4_code_15) rfl ?_
    show Steps p.tables e below (T282.setTop (mkF m 16 #[.val (.ref b196), .val (.ref b233_b231), .val (.int (4 : Int32)), .val (.int (2 : Int32)), .val (.ref (A 1))] [(.int (2 : Int32)), (.ref b233_b231)])) _
    refine X282.aaload hx (j := (2 : Int32)) (v := (.ref (A 2))) (by rw [e282]; exact Ar283.1) (State.isArrayOf_alike hZ.alike Ar283.2.1) rfl Ar283.2.2 hin283 hat283 (g := (mkF m 16 #[.val (.ref b196), .val (.ref b233_b231), .val (.int (4 : Int32)), .val (.int (2 : Int32)), .val (.ref (A 1))] [(.int (2 : Int32)), (.ref b233_b231)])) rfl rfl (hb hby own_d_prog_26_method_4_code_16) _ ?_
    show Steps p.tables e below (T282.setTop (mkF m 17 #[.val (.ref b196), .val (.ref b233_b231), .val (.int (4 : Int32)), .val (.int (2 : Int32)), .val (.ref (A 1))] [(.ref (A 2))])) _
    refine XS.astore X282.here hx rfl (hb hby own_d_prog_26_method_4_code_17) rfl rfl (l' := #[.val (.ref b196), .val (.ref b233_b231), .val (.int (4 : Int32)), .val (.int (2 : Int32)), .val (.ref (A 2))]) rfl ?_
    show Steps p.tables e below (T282.setTop (mkF m 19 #[.val (.ref b196), .val (.ref b233_b231), .val (.int (4 : Int32)), .val (.int (2 : Int32)), .val (.ref (A 2))] [])) _
    refine XS.aload X282.here hx rfl (hb hby own_d_prog_26_method_4_code_19) rfl rfl ?_
    show Steps p.tables e below (T282.setTop (mkF m 21 #[.val (.ref b196), .val (.ref b233_b231), .val (.int (4 : Int32)), .val (.int (2 : Int32)), .val (.ref (A 2))] [(.ref (A 2))])) _
    refine st284 _ ?_
    show Steps p.tables e below (T284.setTop (mkF m 24 #[.val (.ref b196), .val (.ref b233_b231), .val (.int (4 : Int32)), .val (.int (2 : Int32)), .val (.ref (A 2))] [(.ref (A 7))])) _
    refine XS.aloadN X284.here hx rfl (hb hby own_d_prog_26_method_4_code_24) rfl rfl ?_
    show Steps p.tables e below (T284.setTop (mkF m 25 #[.val (.ref b196), .val (.ref b233_b231), .val (.int (4 : Int32)), .val (.int (2 : Int32)), .val (.ref (A 2))] [(.ref b196), (.ref (A 7))])) _
    refine st305.trans ?_
    show Steps p.tables e below (T305.setTop (mkF m 28 #[.val (.ref b196), .val (.ref b233_b231), .val (.int (4 : Int32)), .val (.int (2 : Int32)), .val (.ref (A 2))] [(.int (1 : Int32))])) _
    refine XS.ifNo X305.here hx rfl (hb hby own_d_prog_26_method_4_code_28) rfl ((if0 _ _).trans (feq (by decide : ¬ ((1 : Int32) = (0 : Int32)))).1) ?_
    show Steps p.tables e below (T305.setTop (mkF m 31 #[.val (.ref b196), .val (.ref b233_b231), .val (.int (4 : Int32)), .val (.int (2 : Int32)), .val (.ref (A 2))] [])) _
    refine XS.aload X305.here hx rfl (hb hby own_d_prog_26_method_4_code_31) rfl rfl ?_
    show Steps p.tables e below (T305.setTop (mkF m 33 #[.val (.ref b196), .val (.ref b233_b231), .val (.int (4 : Int32)), .val (.int (2 : Int32)), .val (.ref (A 2))] [(.ref (A 2))])) _
    exact retOut X305 hx Bd.returns rfl (Or.inr (Or.inr (Or.inr (Or.inr ⟨rfl, rfl, rfl⟩)))) (hb hby own_d_prog_26_method_4_code_33) hr
  · show Q_rm28 Z p1 A K cs b189 b196 b228_b226_b214_b200 k189 k228_k226_k214_k200 h0 n0 _ T305.heap _
    rw [e305]
    exact ⟨b233_b231, rfl, N305, KK233, ⟨gn_b233_b231, sz_b233_b231⟩, f233_0, f233_1⟩
theorem own_ef_rm36 (m : MethodId) (p1 : Int32) (A : Nat → Addr) (K : Nat → ClassId) (cs : Int32)  : entryFrame m #[(.ref (A 2))] 1 = mkF m 0 #[.val (.ref (A 2))] [] := by first | (simp [entryFrame, mkF, argsToLocals, Value.category, maxLocals]; done) | rfl
set_option maxRecDepth 65536 in
set_option maxHeartbeats 40000000 in
theorem rm36 (l : Launch) (Z : State) (a0 : Array Value) (hw : ∀ d ∈ tables_1, d.before a0 Z = true) (ws : List Jvm.Cond) (h0 : Heap) (n0 : Nat) (p1 : Int32) (A : Nat → Addr) (K : Nat → ClassId) (cs : Int32)  (EN : own_St Z A K cs) (OL0 : Old Z n0 h0) :
    MetFree l own_m2 (head1 (Jvm.Cond.code own_m2 prog_26_method_5_code 1 (some (.object "java/lang/String")) :: ws) ({ frames := 0, cells := 0, slots := 0, locals := 0 } : Room)) (fun a U => a = #[(.ref (A 2))] ∧ Z.Warmed39 U.vm ∧ U.heap = h0) (fun _ _ _ _ _ => True) (fun _ U o U' => ∃ v L, o = .returned v ∧ (PQ (some (.ref (A 7))) h0 n0) v U'.heap L ∧ FrameEnd U o U' L ({ frames := 0, cells := 0, slots := 0, locals := 0 } : Room).cells ({ frames := 0, cells := 0, slots := 0, locals := 0 } : Room).slots) := by
  refine MetFree.of_bodySF (plainFor_of_name own_pn2) hisR ?_
  intro p e s m args below meth c s₁ Bd hml0 hP hK
  obtain ⟨rfl, hZ, hh⟩ := hP
  have hx := Bd.exec
  have hby := Bd.bytes
  have hml : c.maxLocals = 1 := hml0
  have hown : s.vm.findClass "com/example/dongl/dongl/crypto/ProtocolVersion" = some m.cls := findClass_of_methodNamed Bd.named
  have hnm := (name_of_methodNamed Bd.named Bd.method).1
  have X0 : Stand p l e ({ frames := 0, cells := 0, slots := 0, locals := 0 } : Room) s m #[(.ref (A 2))] below meth c s₁ [] 0 0 := Stand.of_body Bd
  have e0 : s₁.heap = h0 := by rw [← hh, Bd.state]; rfl
  have N0 := Fr.nil n0
  have pre0 : ∀ t, Steps p.tables e below (s₁.setTop (mkF m 0 #[.val (.ref (A 2))] [])) t → Steps p.tables e below (s₁.setTop (entryFrame m #[(.ref (A 2))] 1)) t := fun t k => castTop (own_ef_rm36 m p1 A K cs ) k
  have KK0 : Keep h0 h0 [] := Keep.refl _ _
  obtain ⟨T308, X308, e308, st308⟩ := getF X0 hx hZ hown (host := "") (Or.inl (hw _ (List.mem_of_getElem? (i := 54) rfl))) Via.refl e0 (EN.2.1.2.2.2.2.2.2.2.1.ext OL0.2) (g := (mkF m 1 #[.val (.ref (A 2))] [(.ref (A 2))])) rfl rfl (hb hby own_d_prog_26_method_5_code_1)
  obtain ⟨fs, hr, hrun, hended, hW, hsame⟩ := X308.leave (v := some (.ref (A 7))) (fun h => by rw [Bd.returns] at h; cases h)
  refine ⟨_, _, pre0 _ ?_, hrun, hended, _, _, rfl, ?_, ⟨_, rfl⟩, hW, hsame.mono (by decide) (by decide)⟩
  · show Steps p.tables e below (s₁.setTop (mkF m 0 #[.val (.ref (A 2))] [])) _
    refine XS.aloadN X0.here hx rfl (hb hby own_d_prog_26_method_5_code_0) rfl rfl ?_
    show Steps p.tables e below (s₁.setTop (mkF m 1 #[.val (.ref (A 2))] [(.ref (A 2))])) _
    refine st308 _ ?_
    show Steps p.tables e below (T308.setTop (mkF m 4 #[.val (.ref (A 2))] [(.ref (A 7))])) _
    exact retOut X308 hx Bd.returns rfl (Or.inr (Or.inr (Or.inr (Or.inr ⟨rfl, rfl, rfl⟩)))) (hb hby own_d_prog_26_method_5_code_4) hr
  · show PQ (some (.ref (A 7))) h0 n0 _ T308.heap _
    rw [e308]
    exact ⟨rfl, N0, rfl⟩
def Q_rm40 (Z : State) (p1 : Int32) (A : Nat → Addr) (K : Nat → ClassId) (cs : Int32) (b315 : Addr) (b326 : Addr) (k315 : ClassId) (k326 : ClassId) (h0 : Heap) (n0 : Nat) (v : Option Value) (h : Heap) (L : List Loc) : Prop := v = (some (.int (3 : Int32))) ∧ Fr n0 L ∧ Keep h0 h [b326] ∧ (Arv Z h b326 k326 .byte (3 : Int32) [(.int (51 : Int32)), (.int (46 : Int32)), (.int (51 : Int32))] (.int (0 : Int32)))
theorem own_ef_rm40 (m : MethodId) (p1 : Int32) (A : Nat → Addr) (K : Nat → ClassId) (cs : Int32)  (b315 : Addr) (b326 : Addr) (k315 : ClassId) (k326 : ClassId) : entryFrame m #[(.ref b315), (.int (0 : Int32)), (.ref b326), (.int (0 : Int32)), (.int (3 : Int32))] 7 = mkF m 0 #[.val (.ref b315), .val (.int (0 : Int32)), .val (.ref b326), .val (.int (0 : Int32)), .val (.int (3 : Int32)), .unset, .unset] [] := by first | (simp [entryFrame, mkF, argsToLocals, Value.category, maxLocals]; done) | rfl
set_option maxRecDepth 65536 in
set_option maxHeartbeats 40000000 in
theorem rm40 (l : Launch) (Z : State) (a0 : Array Value) (hw : ∀ d ∈ tables_1, d.before a0 Z = true) (ws : List Jvm.Cond) (h0 : Heap) (n0 : Nat) (p1 : Int32) (A : Nat → Addr) (K : Nat → ClassId) (cs : Int32)  (b315 : Addr) (b326 : Addr) (k315 : ClassId) (k326 : ClassId) (EN : own_St Z A K cs) (OL0 : Old Z n0 h0) (G_A_b315 : Arv Z h0 b315 k315 .char (3 : Int32) [(.int (51 : Int32)), (.int (46 : Int32)), (.int (51 : Int32))] (.int (0 : Int32))) (G_A_b326 : Arv Z h0 b326 k326 .byte (3 : Int32) [] (.int (0 : Int32))) (ne_b315_b326 : b315 ≠ b326) (gn_b326 : n0 ≤ b326) :
    MetFree l own_m3 (head1 (Jvm.Cond.code own_m3 jdk_52_method_21_code 7 (some .int) :: ws) ({ frames := 0, cells := 0, slots := 0, locals := 0 } : Room)) (fun a U => a = #[(.ref b315), (.int (0 : Int32)), (.ref b326), (.int (0 : Int32)), (.int (3 : Int32))] ∧ Z.Warmed39 U.vm ∧ U.heap = h0) (fun _ _ _ _ _ => True) (fun _ U o U' => ∃ v L, o = .returned v ∧ Q_rm40 Z p1 A K cs b315 b326 k315 k326 h0 n0 v U'.heap L ∧ FrameEnd U o U' L ({ frames := 0, cells := 0, slots := 0, locals := 0 } : Room).cells ({ frames := 0, cells := 0, slots := 0, locals := 0 } : Room).slots) := by
  refine MetFree.of_bodySF (plainFor_of_name own_pn0) hisR ?_
  intro p e s m args below meth c s₁ Bd hml0 hP hK
  obtain ⟨rfl, hZ, hh⟩ := hP
  have hx := Bd.exec
  have hby := Bd.bytes
  have hml : c.maxLocals = 7 := hml0
  have hown : s.vm.findClass "java/lang/StringUTF16" = some m.cls := findClass_of_methodNamed Bd.named
  have hnm := (name_of_methodNamed Bd.named Bd.method).1
  have X0 : Stand p l e ({ frames := 0, cells := 0, slots := 0, locals := 0 } : Room) s m #[(.ref b315), (.int (0 : Int32)), (.ref b326), (.int (0 : Int32)), (.int (3 : Int32))] below meth c s₁ [] 0 0 := Stand.of_body Bd
  have e0 : s₁.heap = h0 := by rw [← hh, Bd.state]; rfl
  have N0 := Fr.nil n0
  have pre0 : ∀ t, Steps p.tables e below (s₁.setTop (mkF m 0 #[.val (.ref b315), .val (.int (0 : Int32)), .val (.ref b326), .val (.int (0 : Int32)), .val (.int (3 : Int32)), .unset, .unset] [])) t → Steps p.tables e below (s₁.setTop (entryFrame m #[(.ref b315), (.int (0 : Int32)), (.ref b326), (.int (0 : Int32)), (.int (3 : Int32))] 7)) t := fun t k => castTop (own_ef_rm40 m p1 A K cs b315 b326 k315 k326) k
  have KK0 : Keep h0 h0 [b326] := Keep.refl _ _
  obtain ⟨cl327, Ar327, q327, Sz327, Nn327, Hh327, Gg327⟩ := (id G_A_b315)
  have hin327 : ¬ ((0 : Int32) < 0 ∨ cl327.slots.size ≤ ((0 : Int32)).toNatClampNeg) := inb_of Sz327 ⟨by decide, by decide⟩
  have hat327 : cl327.slots[((0 : Int32)).toNatClampNeg]? = some (.int (51 : Int32)) := Has.at Hh327 hin327 rfl
  obtain ⟨cl328, Ar328, q328, Sz328, Nn328, Hh328, Gg328⟩ := (id (Arv.pad G_A_b326 (pad_rep [] (.int (0 : Int32)) 1)))
  have hin328 : ¬ ((0 : Int32) < 0 ∨ cl328.slots.size ≤ ((0 : Int32)).toNatClampNeg) := inb_of Sz328 ⟨by decide, by decide⟩
  obtain ⟨T329, h329, X329, e329, W329, st329⟩ := stB X0 hx hZ e0 Ar328 (j := (0 : Int32)) hin328 (g := (mkF m 31 #[.val (.ref b315), .val (.int (0 : Int32)), .val (.ref b326), .val (.int (0 : Int32)), .val (.int (3 : Int32)), .val (.int (0 : Int32)), .val (.int (51 : Int32))] [(.int (51 : Int32)), (.int (0 : Int32)), (.ref b326)])) rfl rfl (hb hby own_d_jdk_52_method_21_code_31)
  have NF329 := Fr.snoc X329 N0 gn_b326
  have OL329 : Old Z n0 h329 := OL0.wr W329 gn_b326
  have KK329 : Keep h0 h329 [b326] := KK0.wr W329 (Or.inl (List.mem_of_getElem? (i := 0) rfl))
  have V329 : Arv Z h329 b326 k326 .byte (3 : Int32) [(.int (51 : Int32))] (.int (0 : Int32)) := Arv.set Ar328 q328 Sz328 Nn328 Hh328 Gg328 (fits_nar_byte _) W329 0 (by decide) (by decide)
  have fx330 : Arv Z h329 b315 k315 .char (3 : Int32) [(.int (51 : Int32)), (.int (46 : Int32)), (.int (51 : Int32))] (.int (0 : Int32)) := (G_A_b315.other W329 ne_b315_b326)
  obtain ⟨cl331, Ar331, q331, Sz331, Nn331, Hh331, Gg331⟩ := (id fx330)
  have hin331 : ¬ ((1 : Int32) < 0 ∨ cl331.slots.size ≤ ((1 : Int32)).toNatClampNeg) := inb_of Sz331 ⟨by decide, by decide⟩
  have hat331 : cl331.slots[((1 : Int32)).toNatClampNeg]? = some (.int (46 : Int32)) := Has.at Hh331 hin331 rfl
  obtain ⟨cl332, Ar332, q332, Sz332, Nn332, Hh332, Gg332⟩ := (id (Arv.pad V329 (pad_rep [(.int (51 : Int32))] (.int (0 : Int32)) 1)))
  have hin332 : ¬ ((1 : Int32) < 0 ∨ cl332.slots.size ≤ ((1 : Int32)).toNatClampNeg) := inb_of Sz332 ⟨by decide, by decide⟩
  obtain ⟨T333, h333, X333, e333, W333, st333⟩ := stB X329 hx hZ e329 Ar332 (j := (1 : Int32)) hin332 (g := (mkF m 31 #[.val (.ref b315), .val (.int (1 : Int32)), .val (.ref b326), .val (.int (1 : Int32)), .val (.int (3 : Int32)), .val (.int (1 : Int32)), .val (.int (46 : Int32))] [(.int (46 : Int32)), (.int (1 : Int32)), (.ref b326)])) rfl rfl (hb hby own_d_jdk_52_method_21_code_31)
  have NF333 := Fr.snoc X333 NF329 gn_b326
  have OL333 : Old Z n0 h333 := OL329.wr W333 gn_b326
  have KK333 : Keep h0 h333 [b326] := KK329.wr W333 (Or.inl (List.mem_of_getElem? (i := 0) rfl))
  have V333 : Arv Z h333 b326 k326 .byte (3 : Int32) [(.int (51 : Int32)), (.int (46 : Int32))] (.int (0 : Int32)) := Arv.set Ar332 q332 Sz332 Nn332 Hh332 Gg332 (fits_nar_byte _) W333 1 (by decide) (by decide)
  have fx334 : Arv Z h333 b315 k315 .char (3 : Int32) [(.int (51 : Int32)), (.int (46 : Int32)), (.int (51 : Int32))] (.int (0 : Int32)) := (fx330.other W333 ne_b315_b326)
  obtain ⟨cl335, Ar335, q335, Sz335, Nn335, Hh335, Gg335⟩ := (id fx334)
  have hin335 : ¬ ((2 : Int32) < 0 ∨ cl335.slots.size ≤ ((2 : Int32)).toNatClampNeg) := inb_of Sz335 ⟨by decide, by decide⟩
  have hat335 : cl335.slots[((2 : Int32)).toNatClampNeg]? = some (.int (51 : Int32)) := Has.at Hh335 hin335 rfl
  obtain ⟨cl336, Ar336, q336, Sz336, Nn336, Hh336, Gg336⟩ := (id (Arv.pad V333 (pad_rep [(.int (51 : Int32)), (.int (46 : Int32))] (.int (0 : Int32)) 1)))
  have hin336 : ¬ ((2 : Int32) < 0 ∨ cl336.slots.size ≤ ((2 : Int32)).toNatClampNeg) := inb_of Sz336 ⟨by decide, by decide⟩
  obtain ⟨T337, h337, X337, e337, W337, st337⟩ := stB X333 hx hZ e333 Ar336 (j := (2 : Int32)) hin336 (g := (mkF m 31 #[.val (.ref b315), .val (.int (2 : Int32)), .val (.ref b326), .val (.int (2 : Int32)), .val (.int (3 : Int32)), .val (.int (2 : Int32)), .val (.int (51 : Int32))] [(.int (51 : Int32)), (.int (2 : Int32)), (.ref b326)])) rfl rfl (hb hby own_d_jdk_52_method_21_code_31)
  have NF337 := Fr.snoc X337 NF333 gn_b326
  have OL337 : Old Z n0 h337 := OL333.wr W337 gn_b326
  have KK337 : Keep h0 h337 [b326] := KK333.wr W337 (Or.inl (List.mem_of_getElem? (i := 0) rfl))
  have V337 : Arv Z h337 b326 k326 .byte (3 : Int32) [(.int (51 : Int32)), (.int (46 : Int32)), (.int (51 : Int32))] (.int (0 : Int32)) := Arv.set Ar336 q336 Sz336 Nn336 Hh336 Gg336 (fits_nar_byte _) W337 2 (by decide) (by decide)
  obtain ⟨fs, hr, hrun, hended, hW, hsame⟩ := X337.leave (v := some (.int (3 : Int32))) (fun h => by rw [Bd.returns] at h; cases h)
  refine ⟨_, _, pre0 _ ?_, hrun, hended, _, _, rfl, ?_, ⟨_, rfl⟩, hW, hsame.mono (by decide) (by decide)⟩
  · show Steps p.tables e below (s₁.setTop (mkF m 0 #[.val (.ref b315), .val (.int (0 : Int32)), .val (.ref b326), .val (.int (0 : Int32)), .val (.int (3 : Int32)), .unset, .unset] [])) _
    refine XS.iconst X0.here hx rfl (hb hby own_d_jdk_52_method_21_code_0) ?_
    show Steps p.tables e below (s₁.setTop (mkF m 1 #[.val (.ref b315), .val (.int (0 : Int32)), .val (.ref b326), .val (.int (0 : Int32)), .val (.int (3 : Int32)), .unset, .unset] [(.int (0 : Int32))])) _
    refine XS.istore X0.here hx rfl (hb hby own_d_jdk_52_method_21_code_1) rfl (l' := #[.val (.ref b315), .val (.int (0 : Int32)), .val (.ref b326), .val (.int (0 : Int32)), .val (.int (3 : Int32)), .val (.int (0 : Int32)), .unset]) rfl ?_
    show Steps p.tables e below (s₁.setTop (mkF m 3 #[.val (.ref b315), .val (.int (0 : Int32)), .val (.ref b326), .val (.int (0 : Int32)), .val (.int (3 : Int32)), .val (.int (0 : Int32)), .unset] [])) _
    refine XS.iload X0.here hx rfl (hb hby own_d_jdk_52_method_21_code_3) rfl ?_
    show Steps p.tables e below (s₁.setTop (mkF m 5 #[.val (.ref b315), .val (.int (0 : Int32)), .val (.ref b326), .val (.int (0 : Int32)), .val (.int (3 : Int32)), .val (.int (0 : Int32)), .unset] [(.int (0 : Int32))])) _
    refine XS.iload X0.here hx rfl (hb hby own_d_jdk_52_method_21_code_5) rfl ?_
    show Steps p.tables e below (s₁.setTop (mkF m 7 #[.val (.ref b315), .val (.int (0 : Int32)), .val (.ref b326), .val (.int (0 : Int32)), .val (.int (3 : Int32)), .val (.int (0 : Int32)), .unset] [(.int (3 : Int32)), (.int (0 : Int32))])) _
    refine XS.icmpNo X0.here hx rfl (hb hby own_d_jdk_52_method_21_code_7) rfl (tlt (by decide : (0 : Int32) < (3 : Int32))).2.1 ?_
    show Steps p.tables e below (s₁.setTop (mkF m 10 #[.val (.ref b315), .val (.int (0 : Int32)), .val (.ref b326), .val (.int (0 : Int32)), .val (.int (3 : Int32)), .val (.int (0 : Int32)), .unset] [])) _
    refine XS.aloadN X0.here hx rfl (hb hby own_d_jdk_52_method_21_code_10) rfl rfl ?_
    show Steps p.tables e below (s₁.setTop (mkF m 11 #[.val (.ref b315), .val (.int (0 : Int32)), .val (.ref b326), .val (.int (0 : Int32)), .val (.int (3 : Int32)), .val (.int (0 : Int32)), .unset] [(.ref b315)])) _
    refine XS.iloadN X0.here hx rfl (hb hby own_d_jdk_52_method_21_code_11) rfl ?_
    show Steps p.tables e below (s₁.setTop (mkF m 12 #[.val (.ref b315), .val (.int (0 : Int32)), .val (.ref b326), .val (.int (0 : Int32)), .val (.int (3 : Int32)), .val (.int (0 : Int32)), .unset] [(.int (0 : Int32)), (.ref b315)])) _
    refine X0.caload hx (j := (0 : Int32)) (v := (.int (51 : Int32))) (by rw [e0]; exact Ar327.1) (State.isArrayOf_alike hZ.alike Ar327.2.1) Ar327.2.2 hin327 hat327 (g := (mkF m 12 #[.val (.ref b315), .val (.int (0 : Int32)), .val (.ref b326), .val (.int (0 : Int32)), .val (.int (3 : Int32)), .val (.int (0 : Int32)), .unset] [(.int (0 : Int32)), (.ref b315)])) rfl rfl (hb hby own_d_jdk_52_method_21_code_12) _ ?_
    show Steps p.tables e below (s₁.setTop (mkF m 13 #[.val (.ref b315), .val (.int (0 : Int32)), .val (.ref b326), .val (.int (0 : Int32)), .val (.int (3 : Int32)), .val (.int (0 : Int32)), .unset] [(.int (51 : Int32))])) _
    refine XS.istore X0.here hx rfl (hb hby own_d_jdk_52_method_21_code_13) rfl (l' := #[.val (.ref b315), .val (.int (0 : Int32)), .val (.ref b326), .val (.int (0 : Int32)), .val (.int (3 : Int32)), .val (.int (0 : Int32)), .val (.int (51 : Int32))]) rfl ?_
    show Steps p.tables e below (s₁.setTop (mkF m 15 #[.val (.ref b315), .val (.int (0 : Int32)), .val (.ref b326), .val (.int (0 : Int32)), .val (.int (3 : Int32)), .val (.int (0 : Int32)), .val (.int (51 : Int32))] [])) _
    refine XS.iload X0.here hx rfl (hb hby own_d_jdk_52_method_21_code_15) rfl ?_
    show Steps p.tables e below (s₁.setTop (mkF m 17 #[.val (.ref b315), .val (.int (0 : Int32)), .val (.ref b326), .val (.int (0 : Int32)), .val (.int (3 : Int32)), .val (.int (0 : Int32)), .val (.int (51 : Int32))] [(.int (51 : Int32))])) _
    refine XS.sipush X0.here hx rfl (hb hby own_d_jdk_52_method_21_code_17) ?_
    show Steps p.tables e below (s₁.setTop (mkF m 20 #[.val (.ref b315), .val (.int (0 : Int32)), .val (.ref b326), .val (.int (0 : Int32)), .val (.int (3 : Int32)), .val (.int (0 : Int32)), .val (.int (51 : Int32))] [(.int (255 : Int32)), (.int (51 : Int32))])) _
    refine XS.icmpYes X0.here hx rfl (pc0 := 20) (pc' := 26) rfl (hb hby own_d_jdk_52_method_21_code_20) rfl (flt (by decide : ¬ ((255 : Int32) < (51 : Int32)))).2.2.2 (by decide) (by decide) ?_
    show Steps p.tables e below (s₁.setTop (mkF m 26 #[.val (.ref b315), .val (.int (0 : Int32)), .val (.ref b326), .val (.int (0 : Int32)), .val (.int (3 : Int32)), .val (.int (0 : Int32)), .val (.int (51 : Int32))] [])) _
    refine XS.aloadN X0.here hx rfl (hb hby own_d_jdk_52_method_21_code_26) rfl rfl ?_
    show Steps p.tables e below (s₁.setTop (mkF m 27 #[.val (.ref b315), .val (.int (0 : Int32)), .val (.ref b326), .val (.int (0 : Int32)), .val (.int (3 : Int32)), .val (.int (0 : Int32)), .val (.int (51 : Int32))] [(.ref b326)])) _
    refine XS.iloadN X0.here hx rfl (hb hby own_d_jdk_52_method_21_code_27) rfl ?_
    show Steps p.tables e below (s₁.setTop (mkF m 28 #[.val (.ref b315), .val (.int (0 : Int32)), .val (.ref b326), .val (.int (0 : Int32)), .val (.int (3 : Int32)), .val (.int (0 : Int32)), .val (.int (51 : Int32))] [(.int (0 : Int32)), (.ref b326)])) _
    refine XS.iload X0.here hx rfl (hb hby own_d_jdk_52_method_21_code_28) rfl ?_
    show Steps p.tables e below (s₁.setTop (mkF m 30 #[.val (.ref b315), .val (.int (0 : Int32)), .val (.ref b326), .val (.int (0 : Int32)), .val (.int (3 : Int32)), .val (.int (0 : Int32)), .val (.int (51 : Int32))] [(.int (51 : Int32)), (.int (0 : Int32)), (.ref b326)])) _
    refine XS.i2b X0.here hx rfl (hb hby own_d_jdk_52_method_21_code_30) rfl ?_
    show Steps p.tables e below (s₁.setTop (mkF m 31 #[.val (.ref b315), .val (.int (0 : Int32)), .val (.ref b326), .val (.int (0 : Int32)), .val (.int (3 : Int32)), .val (.int (0 : Int32)), .val (.int (51 : Int32))] [(.int (51 : Int32)), (.int (0 : Int32)), (.ref b326)])) _
    refine st329 _ ?_
    show Steps p.tables e below (T329.setTop (mkF m 32 #[.val (.ref b315), .val (.int (0 : Int32)), .val (.ref b326), .val (.int (0 : Int32)), .val (.int (3 : Int32)), .val (.int (0 : Int32)), .val (.int (51 : Int32))] [])) _
    refine XS.iinc X329.here hx rfl (hb hby own_d_jdk_52_method_21_code_32) rfl (l' := #[.val (.ref b315), .val (.int (1 : Int32)), .val (.ref b326), .val (.int (0 : Int32)), .val (.int (3 : Int32)), .val (.int (0 : Int32)), .val (.int (51 : Int32))]) rfl ?_
    show Steps p.tables e below (T329.setTop (mkF m 35 #[.val (.ref b315), .val (.int (1 : Int32)), .val (.ref b326), .val (.int (0 : Int32)), .val (.int (3 : Int32)), .val (.int (0 : Int32)), .val (.int (51 : Int32))] [])) _
    refine XS.iinc X329.here hx rfl (hb hby own_d_jdk_52_method_21_code_35) rfl (l' := #[.val (.ref b315), .val (.int (1 : Int32)), .val (.ref b326), .val (.int (1 : Int32)), .val (.int (3 : Int32)), .val (.int (0 : Int32)), .val (.int (51 : Int32))]) rfl ?_
    show Steps p.tables e below (T329.setTop (mkF m 38 #[.val (.ref b315), .val (.int (1 : Int32)), .val (.ref b326), .val (.int (1 : Int32)), .val (.int (3 : Int32)), .val (.int (0 : Int32)), .val (.int (51 : Int32))] [])) _
    refine XS.iinc X329.here hx rfl (hb hby own_d_jdk_52_method_21_code_38) rfl (l' := #[.val (.ref b315), .val (.int (1 : Int32)), .val (.ref b326), .val (.int (1 : Int32)), .val (.int (3 : Int32)), .val (.int (1 : Int32)), .val (.int (51 : Int32))]) rfl ?_
    show Steps p.tables e below (T329.setTop (mkF m 41 #[.val (.ref b315), .val (.int (1 : Int32)), .val (.ref b326), .val (.int (1 : Int32)), .val (.int (3 : Int32)), .val (.int (1 : Int32)), .val (.int (51 : Int32))] [])) _
    refine XS.goto X329.here hx rfl (pc0 := 41) (pc' := 3) rfl (hb hby own_d_jdk_52_method_21_code_41) (by decide) (by decide) ?_
    show Steps p.tables e below (T329.setTop (mkF m 3 #[.val (.ref b315), .val (.int (1 : Int32)), .val (.ref b326), .val (.int (1 : Int32)), .val (.int (3 : Int32)), .val (.int (1 : Int32)), .val (.int (51 : Int32))] [])) _
    refine XS.iload X329.here hx rfl (hb hby own_d_jdk_52_method_21_code_3) rfl ?_
    show Steps p.tables e below (T329.setTop (mkF m 5 #[.val (.ref b315), .val (.int (1 : Int32)), .val (.ref b326), .val (.int (1 : Int32)), .val (.int (3 : Int32)), .val (.int (1 : Int32)), .val (.int (51 : Int32))] [(.int (1 : Int32))])) _
    refine XS.iload X329.here hx rfl (hb hby own_d_jdk_52_method_21_code_5) rfl ?_
    show Steps p.tables e below (T329.setTop (mkF m 7 #[.val (.ref b315), .val (.int (1 : Int32)), .val (.ref b326), .val (.int (1 : Int32)), .val (.int (3 : Int32)), .val (.int (1 : Int32)), .val (.int (51 : Int32))] [(.int (3 : Int32)), (.int (1 : Int32))])) _
    refine XS.icmpNo X329.here hx rfl (hb hby own_d_jdk_52_method_21_code_7) rfl (tlt (by decide : (1 : Int32) < (3 : Int32))).2.1 ?_
    show Steps p.tables e below (T329.setTop (mkF m 10 #[.val (.ref b315), .val (.int (1 : Int32)), .val (.ref b326), .val (.int (1 : Int32)), .val (.int (3 : Int32)), .val (.int (1 : Int32)), .val (.int (51 : Int32))] [])) _
    refine XS.aloadN X329.here hx rfl (hb hby own_d_jdk_52_method_21_code_10) rfl rfl ?_
    show Steps p.tables e below (T329.setTop (mkF m 11 #[.val (.ref b315), .val (.int (1 : Int32)), .val (.ref b326), .val (.int (1 : Int32)), .val (.int (3 : Int32)), .val (.int (1 : Int32)), .val (.int (51 : Int32))] [(.ref b315)])) _
    refine XS.iloadN X329.here hx rfl (hb hby own_d_jdk_52_method_21_code_11) rfl ?_
    show Steps p.tables e below (T329.setTop (mkF m 12 #[.val (.ref b315), .val (.int (1 : Int32)), .val (.ref b326), .val (.int (1 : Int32)), .val (.int (3 : Int32)), .val (.int (1 : Int32)), .val (.int (51 : Int32))] [(.int (1 : Int32)), (.ref b315)])) _
    refine X329.caload hx (j := (1 : Int32)) (v := (.int (46 : Int32))) (by rw [e329]; exact Ar331.1) (State.isArrayOf_alike hZ.alike Ar331.2.1) Ar331.2.2 hin331 hat331 (g := (mkF m 12 #[.val (.ref b315), .val (.int (1 : Int32)), .val (.ref b326), .val (.int (1 : Int32)), .val (.int (3 : Int32)), .val (.int (1 : Int32)), .val (.int (51 : Int32))] [(.int (1 : Int32)), (.ref b315)])) rfl rfl (hb hby own_d_jdk_52_method_21_code_12) _ ?_
    show Steps p.tables e below (T329.setTop (mkF m 13 #[.val (.ref b315), .val (.int (1 : Int32)), .val (.ref b326), .val (.int (1 : Int32)), .val (.int (3 : Int32)), .val (.int (1 : Int32)), .val (.int (51 : Int32))] [(.int (46 : Int32))])) _
    refine XS.istore X329.here hx rfl (hb hby own_d_jdk_52_method_21_code_13) rfl (l' := #[.val (.ref b315), .val (.int (1 : Int32)), .val (.ref b326), .val (.int (1 : Int32)), .val (.int (3 : Int32)), .val (.int (1 : Int32)), .val (.int (46 : Int32))]) rfl ?_
    show Steps p.tables e below (T329.setTop (mkF m 15 #[.val (.ref b315), .val (.int (1 : Int32)), .val (.ref b326), .val (.int (1 : Int32)), .val (.int (3 : Int32)), .val (.int (1 : Int32)), .val (.int (46 : Int32))] [])) _
    refine XS.iload X329.here hx rfl (hb hby own_d_jdk_52_method_21_code_15) rfl ?_
    show Steps p.tables e below (T329.setTop (mkF m 17 #[.val (.ref b315), .val (.int (1 : Int32)), .val (.ref b326), .val (.int (1 : Int32)), .val (.int (3 : Int32)), .val (.int (1 : Int32)), .val (.int (46 : Int32))] [(.int (46 : Int32))])) _
    refine XS.sipush X329.here hx rfl (hb hby own_d_jdk_52_method_21_code_17) ?_
    show Steps p.tables e below (T329.setTop (mkF m 20 #[.val (.ref b315), .val (.int (1 : Int32)), .val (.ref b326), .val (.int (1 : Int32)), .val (.int (3 : Int32)), .val (.int (1 : Int32)), .val (.int (46 : Int32))] [(.int (255 : Int32)), (.int (46 : Int32))])) _
    refine XS.icmpYes X329.here hx rfl (pc0 := 20) (pc' := 26) rfl (hb hby own_d_jdk_52_method_21_code_20) rfl (flt (by decide : ¬ ((255 : Int32) < (46 : Int32)))).2.2.2 (by decide) (by decide) ?_
    show Steps p.tables e below (T329.setTop (mkF m 26 #[.val (.ref b315), .val (.int (1 : Int32)), .val (.ref b326), .val (.int (1 : Int32)), .val (.int (3 : Int32)), .val (.int (1 : Int32)), .val (.int (46 : Int32))] [])) _
    refine XS.aloadN X329.here hx rfl (hb hby own_d_jdk_52_method_21_code_26) rfl rfl ?_
    show Steps p.tables e below (T329.setTop (mkF m 27 #[.val (.ref b315), .val (.int (1 : Int32)), .val (.ref b326), .val (.int (1 : Int32)), .val (.int (3 : Int32)), .val (.int (1 : Int32)), .val (.int (46 : Int32))] [(.ref b326)])) _
    refine XS.iloadN X329.here hx rfl (hb hby own_d_jdk_52_method_21_code_27) rfl ?_
    show Steps p.tables e below (T329.setTop (mkF m 28 #[.val (.ref b315), .val (.int (1 : Int32)), .val (.ref b326), .val (.int (1 : Int32)), .val (.int (3 : Int32)), .val (.int (1 : Int32)), .val (.int (46 : Int32))] [(.int (1 : Int32)), (.ref b326)])) _
    refine XS.iload X329.here hx rfl (hb hby own_d_jdk_52_method_21_code_28) rfl ?_
    show Steps p.tables e below (T329.setTop (mkF m 30 #[.val (.ref b315), .val (.int (1 : Int32)), .val (.ref b326), .val (.int (1 : Int32)), .val (.int (3 : Int32)), .val (.int (1 : Int32)), .val (.int (46 : Int32))] [(.int (46 : Int32)), (.int (1 : Int32)), (.ref b326)])) _
    refine XS.i2b X329.here hx rfl (hb hby own_d_jdk_52_method_21_code_30) rfl ?_
    show Steps p.tables e below (T329.setTop (mkF m 31 #[.val (.ref b315), .val (.int (1 : Int32)), .val (.ref b326), .val (.int (1 : Int32)), .val (.int (3 : Int32)), .val (.int (1 : Int32)), .val (.int (46 : Int32))] [(.int (46 : Int32)), (.int (1 : Int32)), (.ref b326)])) _
    refine st333 _ ?_
    show Steps p.tables e below (T333.setTop (mkF m 32 #[.val (.ref b315), .val (.int (1 : Int32)), .val (.ref b326), .val (.int (1 : Int32)), .val (.int (3 : Int32)), .val (.int (1 : Int32)), .val (.int (46 : Int32))] [])) _
    refine XS.iinc X333.here hx rfl (hb hby own_d_jdk_52_method_21_code_32) rfl (l' := #[.val (.ref b315), .val (.int (2 : Int32)), .val (.ref b326), .val (.int (1 : Int32)), .val (.int (3 : Int32)), .val (.int (1 : Int32)), .val (.int (46 : Int32))]) rfl ?_
    show Steps p.tables e below (T333.setTop (mkF m 35 #[.val (.ref b315), .val (.int (2 : Int32)), .val (.ref b326), .val (.int (1 : Int32)), .val (.int (3 : Int32)), .val (.int (1 : Int32)), .val (.int (46 : Int32))] [])) _
    refine XS.iinc X333.here hx rfl (hb hby own_d_jdk_52_method_21_code_35) rfl (l' := #[.val (.ref b315), .val (.int (2 : Int32)), .val (.ref b326), .val (.int (2 : Int32)), .val (.int (3 : Int32)), .val (.int (1 : Int32)), .val (.int (46 : Int32))]) rfl ?_
    show Steps p.tables e below (T333.setTop (mkF m 38 #[.val (.ref b315), .val (.int (2 : Int32)), .val (.ref b326), .val (.int (2 : Int32)), .val (.int (3 : Int32)), .val (.int (1 : Int32)), .val (.int (46 : Int32))] [])) _
    refine XS.iinc X333.here hx rfl (hb hby own_d_jdk_52_method_21_code_38) rfl (l' := #[.val (.ref b315), .val (.int (2 : Int32)), .val (.ref b326), .val (.int (2 : Int32)), .val (.int (3 : Int32)), .val (.int (2 : Int32)), .val (.int (46 : Int32))]) rfl ?_
    show Steps p.tables e below (T333.setTop (mkF m 41 #[.val (.ref b315), .val (.int (2 : Int32)), .val (.ref b326), .val (.int (2 : Int32)), .val (.int (3 : Int32)), .val (.int (2 : Int32)), .val (.int (46 : Int32))] [])) _
    refine XS.goto X333.here hx rfl (pc0 := 41) (pc' := 3) rfl (hb hby own_d_jdk_52_method_21_code_41) (by decide) (by decide) ?_
    show Steps p.tables e below (T333.setTop (mkF m 3 #[.val (.ref b315), .val (.int (2 : Int32)), .val (.ref b326), .val (.int (2 : Int32)), .val (.int (3 : Int32)), .val (.int (2 : Int32)), .val (.int (46 : Int32))] [])) _
    refine XS.iload X333.here hx rfl (hb hby own_d_jdk_52_method_21_code_3) rfl ?_
    show Steps p.tables e below (T333.setTop (mkF m 5 #[.val (.ref b315), .val (.int (2 : Int32)), .val (.ref b326), .val (.int (2 : Int32)), .val (.int (3 : Int32)), .val (.int (2 : Int32)), .val (.int (46 : Int32))] [(.int (2 : Int32))])) _
    refine XS.iload X333.here hx rfl (hb hby own_d_jdk_52_method_21_code_5) rfl ?_
    show Steps p.tables e below (T333.setTop (mkF m 7 #[.val (.ref b315), .val (.int (2 : Int32)), .val (.ref b326), .val (.int (2 : Int32)), .val (.int (3 : Int32)), .val (.int (2 : Int32)), .val (.int (46 : Int32))] [(.int (3 : Int32)), (.int (2 : Int32))])) _
    refine XS.icmpNo X333.here hx rfl (hb hby own_d_jdk_52_method_21_code_7) rfl (tlt (by decide : (2 : Int32) < (3 : Int32))).2.1 ?_
    show Steps p.tables e below (T333.setTop (mkF m 10 #[.val (.ref b315), .val (.int (2 : Int32)), .val (.ref b326), .val (.int (2 : Int32)), .val (.int (3 : Int32)), .val (.int (2 : Int32)), .val (.int (46 : Int32))] [])) _
    refine XS.aloadN X333.here hx rfl (hb hby own_d_jdk_52_method_21_code_10) rfl rfl ?_
    show Steps p.tables e below (T333.setTop (mkF m 11 #[.val (.ref b315), .val (.int (2 : Int32)), .val (.ref b326), .val (.int (2 : Int32)), .val (.int (3 : Int32)), .val (.int (2 : Int32)), .val (.int (46 : Int32))] [(.ref b315)])) _
    refine XS.iloadN X333.here hx rfl (hb hby own_d_jdk_52_method_21_code_11) rfl ?_
    show Steps p.tables e below (T333.setTop (mkF m 12 #[.val (.ref b315), .val (.int (2 : Int32)), .val (.ref b326), .val (.int (2 : Int32)), .val (.int (3 : Int32)), .val (.int (2 : Int32)), .val (.int (46 : Int32))] [(.int (2 : Int32)), (.ref b315)])) _
    refine X333.caload hx (j := (2 : Int32)) (v := (.int (51 : Int32))) (by rw [e333]; exact Ar335.1) (State.isArrayOf_alike hZ.alike Ar335.2.1) Ar335.2.2 hin335 hat335 (g := (mkF m 12 #[.val (.ref b315), .val (.int (2 : Int32)), .val (.ref b326), .val (.int (2 : Int32)), .val (.int (3 : Int32)), .val (.int (2 : Int32)), .val (.int (46 : Int32))] [(.int (2 : Int32)), (.ref b315)])) rfl rfl (hb hby own_d_jdk_52_method_21_code_12) _ ?_
    show Steps p.tables e below (T333.setTop (mkF m 13 #[.val (.ref b315), .val (.int (2 : Int32)), .val (.ref b326), .val (.int (2 : Int32)), .val (.int (3 : Int32)), .val (.int (2 : Int32)), .val (.int (46 : Int32))] [(.int (51 : Int32))])) _
    refine XS.istore X333.here hx rfl (hb hby own_d_jdk_52_method_21_code_13) rfl (l' := #[.val (.ref b315), .val (.int (2 : Int32)), .val (.ref b326), .val (.int (2 : Int32)), .val (.int (3 : Int32)), .val (.int (2 : Int32)), .val (.int (51 : Int32))]) rfl ?_
    show Steps p.tables e below (T333.setTop (mkF m 15 #[.val (.ref b315), .val (.int (2 : Int32)), .val (.ref b326), .val (.int (2 : Int32)), .val (.int (3 : Int32)), .val (.int (2 : Int32)), .val (.int (51 : Int32))] [])) _
    refine XS.iload X333.here hx rfl (hb hby own_d_jdk_52_method_21_code_15) rfl ?_
    show Steps p.tables e below (T333.setTop (mkF m 17 #[.val (.ref b315), .val (.int (2 : Int32)), .val (.ref b326), .val (.int (2 : Int32)), .val (.int (3 : Int32)), .val (.int (2 : Int32)), .val (.int (51 : Int32))] [(.int (51 : Int32))])) _
    refine XS.sipush X333.here hx rfl (hb hby own_d_jdk_52_method_21_code_17) ?_
    show Steps p.tables e below (T333.setTop (mkF m 20 #[.val (.ref b315), .val (.int (2 : Int32)), .val (.ref b326), .val (.int (2 : Int32)), .val (.int (3 : Int32)), .val (.int (2 : Int32)), .val (.int (51 : Int32))] [(.int (255 : Int32)), (.int (51 : Int32))])) _
    refine XS.icmpYes X333.here hx rfl (pc0 := 20) (pc' := 26) rfl (hb hby own_d_jdk_52_method_21_code_20) rfl (flt (by decide : ¬ ((255 : Int32) < (51 : Int32)))).2.2.2 (by decide) (by decide) ?_
    show Steps p.tables e below (T333.setTop (mkF m 26 #[.val (.ref b315), .val (.int (2 : Int32)), .val (.ref b326), .val (.int (2 : Int32)), .val (.int (3 : Int32)), .val (.int (2 : Int32)), .val (.int (51 : Int32))] [])) _
    refine XS.aloadN X333.here hx rfl (hb hby own_d_jdk_52_method_21_code_26) rfl rfl ?_
    show Steps p.tables e below (T333.setTop (mkF m 27 #[.val (.ref b315), .val (.int (2 : Int32)), .val (.ref b326), .val (.int (2 : Int32)), .val (.int (3 : Int32)), .val (.int (2 : Int32)), .val (.int (51 : Int32))] [(.ref b326)])) _
    refine XS.iloadN X333.here hx rfl (hb hby own_d_jdk_52_method_21_code_27) rfl ?_
    show Steps p.tables e below (T333.setTop (mkF m 28 #[.val (.ref b315), .val (.int (2 : Int32)), .val (.ref b326), .val (.int (2 : Int32)), .val (.int (3 : Int32)), .val (.int (2 : Int32)), .val (.int (51 : Int32))] [(.int (2 : Int32)), (.ref b326)])) _
    refine XS.iload X333.here hx rfl (hb hby own_d_jdk_52_method_21_code_28) rfl ?_
    show Steps p.tables e below (T333.setTop (mkF m 30 #[.val (.ref b315), .val (.int (2 : Int32)), .val (.ref b326), .val (.int (2 : Int32)), .val (.int (3 : Int32)), .val (.int (2 : Int32)), .val (.int (51 : Int32))] [(.int (51 : Int32)), (.int (2 : Int32)), (.ref b326)])) _
    refine XS.i2b X333.here hx rfl (hb hby own_d_jdk_52_method_21_code_30) rfl ?_
    show Steps p.tables e below (T333.setTop (mkF m 31 #[.val (.ref b315), .val (.int (2 : Int32)), .val (.ref b326), .val (.int (2 : Int32)), .val (.int (3 : Int32)), .val (.int (2 : Int32)), .val (.int (51 : Int32))] [(.int (51 : Int32)), (.int (2 : Int32)), (.ref b326)])) _
    refine st337 _ ?_
    show Steps p.tables e below (T337.setTop (mkF m 32 #[.val (.ref b315), .val (.int (2 : Int32)), .val (.ref b326), .val (.int (2 : Int32)), .val (.int (3 : Int32)), .val (.int (2 : Int32)), .val (.int (51 : Int32))] [])) _
    refine XS.iinc X337.here hx rfl (hb hby own_d_jdk_52_method_21_code_32) rfl (l' := #[.val (.ref b315), .val (.int (3 : Int32)), .val (.ref b326), .val (.int (2 : Int32)), .val (.int (3 : Int32)), .val (.int (2 : Int32)), .val (.int (51 : Int32))]) rfl ?_
    show Steps p.tables e below (T337.setTop (mkF m 35 #[.val (.ref b315), .val (.int (3 : Int32)), .val (.ref b326), .val (.int (2 : Int32)), .val (.int (3 : Int32)), .val (.int (2 : Int32)), .val (.int (51 : Int32))] [])) _
    refine XS.iinc X337.here hx rfl (hb hby own_d_jdk_52_method_21_code_35) rfl (l' := #[.val (.ref b315), .val (.int (3 : Int32)), .val (.ref b326), .val (.int (3 : Int32)), .val (.int (3 : Int32)), .val (.int (2 : Int32)), .val (.int (51 : Int32))]) rfl ?_
    show Steps p.tables e below (T337.setTop (mkF m 38 #[.val (.ref b315), .val (.int (3 : Int32)), .val (.ref b326), .val (.int (3 : Int32)), .val (.int (3 : Int32)), .val (.int (2 : Int32)), .val (.int (51 : Int32))] [])) _
    refine XS.iinc X337.here hx rfl (hb hby own_d_jdk_52_method_21_code_38) rfl (l' := #[.val (.ref b315), .val (.int (3 : Int32)), .val (.ref b326), .val (.int (3 : Int32)), .val (.int (3 : Int32)), .val (.int (3 : Int32)), .val (.int (51 : Int32))]) rfl ?_
    show Steps p.tables e below (T337.setTop (mkF m 41 #[.val (.ref b315), .val (.int (3 : Int32)), .val (.ref b326), .val (.int (3 : Int32)), .val (.int (3 : Int32)), .val (.int (3 : Int32)), .val (.int (51 : Int32))] [])) _
    refine XS.goto X337.here hx rfl (pc0 := 41) (pc' := 3) rfl (hb hby own_d_jdk_52_method_21_code_41) (by decide) (by decide) ?_
    show Steps p.tables e below (T337.setTop (mkF m 3 #[.val (.ref b315), .val (.int (3 : Int32)), .val (.ref b326), .val (.int (3 : Int32)), .val (.int (3 : Int32)), .val (.int (3 : Int32)), .val (.int (51 : Int32))] [])) _
    refine XS.iload X337.here hx rfl (hb hby own_d_jdk_52_method_21_code_3) rfl ?_
    show Steps p.tables e below (T337.setTop (mkF m 5 #[.val (.ref b315), .val (.int (3 : Int32)), .val (.ref b326), .val (.int (3 : Int32)), .val (.int (3 : Int32)), .val (.int (3 : Int32)), .val (.int (51 : Int32))] [(.int (3 : Int32))])) _
    refine XS.iload X337.here hx rfl (hb hby own_d_jdk_52_method_21_code_5) rfl ?_
    show Steps p.tables e below (T337.setTop (mkF m 7 #[.val (.ref b315), .val (.int (3 : Int32)), .val (.ref b326), .val (.int (3 : Int32)), .val (.int (3 : Int32)), .val (.int (3 : Int32)), .val (.int (51 : Int32))] [(.int (3 : Int32)), (.int (3 : Int32))])) _
    refine XS.icmpYes X337.here hx rfl (pc0 := 7) (pc' := 44) rfl (hb hby own_d_jdk_52_method_21_code_7) rfl (flt (by decide : ¬ ((3 : Int32) < (3 : Int32)))).2.1 (by decide) (by decide) ?_
    show Steps p.tables e below (T337.setTop (mkF m 44 #[.val (.ref b315), .val (.int (3 : Int32)), .val (.ref b326), .val (.int (3 : Int32)), .val (.int (3 : Int32)), .val (.int (3 : Int32)), .val (.int (51 : Int32))] [])) _
    refine XS.iload X337.here hx rfl (hb hby own_d_jdk_52_method_21_code_44) rfl ?_
    show Steps p.tables e below (T337.setTop (mkF m 46 #[.val (.ref b315), .val (.int (3 : Int32)), .val (.ref b326), .val (.int (3 : Int32)), .val (.int (3 : Int32)), .val (.int (3 : Int32)), .val (.int (51 : Int32))] [(.int (3 : Int32))])) _
    exact retI X337 hx Bd.returns (hb hby own_d_jdk_52_method_21_code_46) hr
  · show Q_rm40 Z p1 A K cs b315 b326 k315 k326 h0 n0 _ T337.heap _
    rw [e337]
    exact ⟨rfl, NF337, KK337, V337⟩
def Q_rm39 (Z : State) (p1 : Int32) (A : Nat → Addr) (K : Nat → ClassId) (cs : Int32) (b315 : Addr) (b322 : Addr) (k315 : ClassId) (h0 : Heap) (n0 : Nat) (v : Option Value) (h : Heap) (L : List Loc) : Prop := ∃ b326 : Addr, ∃ k326 : ClassId, v = (some (.ref b326)) ∧ Fr n0 L ∧ Keep h0 h [] ∧ (n0 ≤ b326 ∧ h0.size ≤ b326) ∧ (Arv Z h b326 k326 .byte (3 : Int32) [(.int (51 : Int32)), (.int (46 : Int32)), (.int (51 : Int32))] (.int (0 : Int32)))
theorem own_ef_rm39 (m : MethodId) (p1 : Int32) (A : Nat → Addr) (K : Nat → ClassId) (cs : Int32)  (b315 : Addr) (b322 : Addr) (k315 : ClassId) : entryFrame m #[(.ref b315), (.int (0 : Int32)), (.int (3 : Int32))] 6 = mkF m 0 #[.val (.ref b315), .val (.int (0 : Int32)), .val (.int (3 : Int32)), .unset, .unset, .unset] [] := by first | (simp [entryFrame, mkF, argsToLocals, Value.category, maxLocals]; done) | rfl
set_option maxRecDepth 65536 in
set_option maxHeartbeats 40000000 in
theorem rm39 (l : Launch) (Z : State) (a0 : Array Value) (hw : ∀ d ∈ tables_1, d.before a0 Z = true) (ws : List Jvm.Cond) (h0 : Heap) (n0 : Nat) (p1 : Int32) (A : Nat → Addr) (K : Nat → ClassId) (cs : Int32)  (b315 : Addr) (b322 : Addr) (k315 : ClassId) (EN : own_St Z A K cs) (OL0 : Old Z n0 h0) (G_A_b315 : Arv Z h0 b315 k315 .char (3 : Int32) [(.int (51 : Int32)), (.int (46 : Int32)), (.int (51 : Int32))] (.int (0 : Int32))) (G_E_b322 : Exa Z h0 b322 "java/lang/String") :
    MetFree l own_m4 (head1 (Jvm.Cond.code own_m4 jdk_52_method_16_code 6 (some (.array .byte)) :: ws) ({ frames := 1, cells := 1, slots := 3, locals := 18 } : Room)) (fun a U => a = #[(.ref b315), (.int (0 : Int32)), (.int (3 : Int32))] ∧ Z.Warmed39 U.vm ∧ U.heap = h0) (fun _ _ _ _ _ => True) (fun _ U o U' => ∃ v L, o = .returned v ∧ Q_rm39 Z p1 A K cs b315 b322 k315 h0 n0 v U'.heap L ∧ FrameEnd U o U' L ({ frames := 1, cells := 1, slots := 3, locals := 18 } : Room).cells ({ frames := 1, cells := 1, slots := 3, locals := 18 } : Room).slots) := by
  refine MetFree.of_bodySF (plainFor_of_name own_pn0) hisR ?_
  intro p e s m args below meth c s₁ Bd hml0 hP hK
  obtain ⟨rfl, hZ, hh⟩ := hP
  have hx := Bd.exec
  have hby := Bd.bytes
  have hml : c.maxLocals = 6 := hml0
  have hown : s.vm.findClass "java/lang/StringUTF16" = some m.cls := findClass_of_methodNamed Bd.named
  have hnm := (name_of_methodNamed Bd.named Bd.method).1
  have X0 : Stand p l e ({ frames := 1, cells := 1, slots := 3, locals := 18 } : Room) s m #[(.ref b315), (.int (0 : Int32)), (.int (3 : Int32))] below meth c s₁ [] 0 0 := Stand.of_body Bd
  have e0 : s₁.heap = h0 := by rw [← hh, Bd.state]; rfl
  have N0 := Fr.nil n0
  have pre0 : ∀ t, Steps p.tables e below (s₁.setTop (mkF m 0 #[.val (.ref b315), .val (.int (0 : Int32)), .val (.int (3 : Int32)), .unset, .unset, .unset] [])) t → Steps p.tables e below (s₁.setTop (entryFrame m #[(.ref b315), (.int (0 : Int32)), (.int (3 : Int32))] 6)) t := fun t k => castTop (own_ef_rm39 m p1 A K cs b315 b322 k315) k
  have KK0 : Keep h0 h0 [] := Keep.refl _ _
  obtain ⟨T326, h326, k326, X326, e326, E326, A326, st326⟩ := newP X0 hx hZ (hw _ (List.mem_of_getElem? (i := 19) rfl)) e0 (g := (mkF m 1 #[.val (.ref b315), .val (.int (0 : Int32)), .val (.int (3 : Int32)), .unset, .unset, .unset] [(.int (3 : Int32))])) rfl (hb hby own_d_jdk_52_method_16_code_1) rfl (by decide) (cap := 3) (by decide) (by decide) (by decide) (by decide)
  obtain ⟨b326, g326⟩ : ∃ z, z = h0.size := ⟨_, rfl⟩
  rw [← g326] at A326 st326
  have gn_b326 : n0 ≤ b326 := Nat.le_trans (OL0.1 ▸ OL0.2.1) (Nat.le_of_eq g326.symm)
  have sz_b326 : h0.size ≤ b326 := Nat.le_trans KK0.1 (Nat.le_of_eq g326.symm)
  have lt_b315_b326 : b315 < b326 := Nat.lt_of_lt_of_le G_A_b315.lt (Nat.le_of_eq g326.symm)
  have lt_b322_b326 : b322 < b326 := Nat.lt_of_lt_of_le G_E_b322.lt (Nat.le_of_eq g326.symm)
  have OL326 : Old Z n0 h326 := OL0.ext E326
  have KK326 : Keep h0 h326 [] := KK0.ext E326
  have V326 : Arv Z h326 b326 k326 .byte (3 : Int32) [] (.int (0 : Int32)) := Arv.new A326 (by decide)
  have fx338 : Arv Z h326 b315 k315 .char (3 : Int32) [(.int (51 : Int32)), (.int (46 : Int32)), (.int (51 : Int32))] (.int (0 : Int32)) := (G_A_b315.ext E326)
  obtain ⟨_, _, ⟨T339, L339, k339, n339⟩, -, X339, ⟨Lc339, hQ339, l339, y339, z339⟩, st339⟩ := Jvm.LawKit.callS X326 hx (y := own_m3) hown (mvT hZ (hw _ (List.mem_of_getElem? (i := 20) rfl))) (mvT hZ (hw _ (List.mem_of_getElem? (i := 21) rfl))) (mvT hZ (hw _ (List.mem_of_getElem? (i := 17) rfl))) (mvT hZ (hw _ (List.mem_of_getElem? (i := 22) rfl))) (by decide) (backOf (W := 0) (rm40 l Z a0 hw [] h326 n0 p1 A K cs b315 b326 k315 k326 EN OL326 fx338 V326 (Nat.ne_of_lt lt_b315_b326) gn_b326) hZ (hw _ (List.mem_of_getElem? (i := 22) rfl)) (hw _ (List.mem_of_getElem? (i := 17) rfl)) (by decide) (by decide)) (g := (mkF m 9 #[.val (.ref b315), .val (.int (0 : Int32)), .val (.int (3 : Int32)), .val (.ref b326), .unset, .unset] [(.int (3 : Int32)), (.int (0 : Int32)), (.ref b326), (.int (0 : Int32)), (.ref b315)])) rfl (by rw [hml]; rfl) (argsL := [(.ref b315), (.int (0 : Int32)), (.ref b326), (.int (0 : Int32)), (.int (3 : Int32))]) (rest := []) (lenOf own_pd0 rfl) rfl (by show 2 * 0 + _ ≤ _; exact Nat.le_of_eq rfl) (hb hby own_d_jdk_52_method_16_code_9) (fun _ _ => ⟨rfl, e326, (by decide : 1 + 0 ≤ _), (by decide : 3 + 0 ≤ _)⟩)
  dsimp only [Pt.U, Pt.locs, Pt.cells, Pt.slots] at X339 l339 y339 z339 st339 hQ339
  subst l339 y339 z339
  obtain ⟨rfl, N339q, K339c, f339_0⟩ := hQ339
  have N339 := Fr.app N0 N339q
  have OL339 : Old Z n0 T339.heap := OL326.keep K339c (allS gn_b326 all0)
  have KK339 : Keep h0 T339.heap [] := KK326.trans K339c (allS (Or.inr sz_b326) all0)
  obtain ⟨fs, hr, hrun, hended, hW, hsame⟩ := X339.leave (v := some (.ref b326)) (fun h => by rw [Bd.returns] at h; cases h)
  refine ⟨_, _, pre0 _ ?_, hrun, hended, _, _, rfl, ?_, ⟨_, rfl⟩, hW, hsame.mono (by decide) (by decide)⟩
  · show Steps p.tables e below (s₁.setTop (mkF m 0 #[.val (.ref b315), .val (.int (0 : Int32)), .val (.int (3 : Int32)), .unset, .unset, .unset] [])) _
    refine XS.iloadN X0.here hx rfl (hb hby own_d_jdk_52_method_16_code_0) rfl ?_
    show Steps p.tables e below (s₁.setTop (mkF m 1 #[.val (.ref b315), .val (.int (0 : Int32)), .val (.int (3 : Int32)), .unset, .unset, .unset] [(.int (3 : Int32))])) _
    refine st326 _ ?_
    show Steps p.tables e below (T326.setTop (mkF m 3 #[.val (.ref b315), .val (.int (0 : Int32)), .val (.int (3 : Int32)), .unset, .unset, .unset] [(.ref b326)])) _
    refine XS.astoreN X326.here hx rfl (hb hby own_d_jdk_52_method_16_code_3) rfl rfl (l' := #[.val (.ref b315), .val (.int (0 : Int32)), .val (.int (3 : Int32)), .val (.ref b326), .unset, .unset]) rfl ?_
    show Steps p.tables e below (T326.setTop (mkF m 4 #[.val (.ref b315), .val (.int (0 : Int32)), .val (.int (3 : Int32)), .val (.ref b326), .unset, .unset] [])) _
    refine XS.aloadN X326.here hx rfl (hb hby own_d_jdk_52_method_16_code_4) rfl rfl ?_
    show Steps p.tables e below (T326.setTop (mkF m 5 #[.val (.ref b315), .val (.int (0 : Int32)), .val (.int (3 : Int32)), .val (.ref b326), .unset, .unset] [(.ref b315)])) _
    refine XS.iloadN X326.here hx rfl (hb hby own_d_jdk_52_method_16_code_5) rfl ?_
    show Steps p.tables e below (T326.setTop (mkF m 6 #[.val (.ref b315), .val (.int (0 : Int32)), .val (.int (3 : Int32)), .val (.ref b326), .unset, .unset] [(.int (0 : Int32)), (.ref b315)])) _
    refine XS.aloadN X326.here hx rfl (hb hby own_d_jdk_52_method_16_code_6) rfl rfl ?_
    show Steps p.tables e below (T326.setTop (mkF m 7 #[.val (.ref b315), .val (.int (0 : Int32)), .val (.int (3 : Int32)), .val (.ref b326), .unset, .unset] [(.ref b326), (.int (0 : Int32)), (.ref b315)])) _
    refine XS.iconst X326.here hx rfl (hb hby own_d_jdk_52_method_16_code_7) ?_
    show Steps p.tables e below (T326.setTop (mkF m 8 #[.val (.ref b315), .val (.int (0 : Int32)), .val (.int (3 : Int32)), .val (.ref b326), .unset, .unset] [(.int (0 : Int32)), (.ref b326), (.int (0 : Int32)), (.ref b315)])) _
    refine XS.iloadN X326.here hx rfl (hb hby own_d_jdk_52_method_16_code_8) rfl ?_
    show Steps p.tables e below (T326.setTop (mkF m 9 #[.val (.ref b315), .val (.int (0 : Int32)), .val (.int (3 : Int32)), .val (.ref b326), .unset, .unset] [(.int (3 : Int32)), (.int (0 : Int32)), (.ref b326), (.int (0 : Int32)), (.ref b315)])) _
    refine st339 _ ?_
    show Steps p.tables e below (T339.setTop (mkF m 12 #[.val (.ref b315), .val (.int (0 : Int32)), .val (.int (3 : Int32)), .val (.ref b326), .unset, .unset] [(.int (3 : Int32))])) _
    refine XS.istore X339.here hx rfl (hb hby own_d_jdk_52_method_16_code_12) rfl (l' := #[.val (.ref b315), .val (.int (0 : Int32)), .val (.int (3 : Int32)), .val (.ref b326), .val (.int (3 : Int32)), .unset]) rfl ?_
    show Steps p.tables e below (T339.setTop (mkF m 14 #[.val (.ref b315), .val (.int (0 : Int32)), .val (.int (3 : Int32)), .val (.ref b326), .val (.int (3 : Int32)), .unset] [])) _
    refine XS.iload X339.here hx rfl (hb hby own_d_jdk_52_method_16_code_14) rfl ?_
    show Steps p.tables e below (T339.setTop (mkF m 16 #[.val (.ref b315), .val (.int (0 : Int32)), .val (.int (3 : Int32)), .val (.ref b326), .val (.int (3 : Int32)), .unset] [(.int (3 : Int32))])) _
    refine XS.iloadN X339.here hx rfl (hb hby own_d_jdk_52_method_16_code_16) rfl ?_
    show Steps p.tables e below (T339.setTop (mkF m 17 #[.val (.ref b315), .val (.int (0 : Int32)), .val (.int (3 : Int32)), .val (.ref b326), .val (.int (3 : Int32)), .unset] [(.int (3 : Int32)), (.int (3 : Int32))])) _
    refine XS.icmpYes X339.here hx rfl (pc0 := 17) (pc' := 57) rfl (hb hby own_d_jdk_52_method_16_code_17) rfl (teq (by decide : (3 : Int32) = (3 : Int32))).1 (by decide) (by decide) ?_
    show Steps p.tables e below (T339.setTop (mkF m 57 #[.val (.ref b315), .val (.int (0 : Int32)), .val (.int (3 : Int32)), .val (.ref b326), .val (.int (3 : Int32)), .unset] [])) _
    refine XS.aloadN X339.here hx rfl (hb hby own_d_jdk_52_method_16_code_57) rfl rfl ?_
    show Steps p.tables e below (T339.setTop (mkF m 58 #[.val (.ref b315), .val (.int (0 : Int32)), .val (.int (3 : Int32)), .val (.ref b326), .val (.int (3 : Int32)), .unset] [(.ref b326)])) _
    exact retOut X339 hx Bd.returns rfl (Or.inr (Or.inr (Or.inr (Or.inr ⟨rfl, rfl, rfl⟩)))) (hb hby own_d_jdk_52_method_16_code_58) hr
  · show Q_rm39 Z p1 A K cs b315 b322 k315 h0 n0 _ T339.heap _
    exact ⟨b326, k326, rfl, N339, KK339, ⟨gn_b326, sz_b326⟩, f339_0⟩
theorem own_ef_rm41 (m : MethodId) (p1 : Int32) (A : Nat → Addr) (K : Nat → ClassId) (cs : Int32)  (b340_b326 : Addr) (k340_k326 : ClassId) : entryFrame m #[(.ref b340_b326), (.int (3 : Int32))] 2 = mkF m 0 #[.val (.ref b340_b326), .val (.int (3 : Int32))] [] := by first | (simp [entryFrame, mkF, argsToLocals, Value.category, maxLocals]; done) | rfl
set_option maxRecDepth 65536 in
set_option maxHeartbeats 40000000 in
theorem rm41 (l : Launch) (Z : State) (a0 : Array Value) (hw : ∀ d ∈ tables_1, d.before a0 Z = true) (ws : List Jvm.Cond) (h0 : Heap) (n0 : Nat) (p1 : Int32) (A : Nat → Addr) (K : Nat → ClassId) (cs : Int32)  (b340_b326 : Addr) (k340_k326 : ClassId) (EN : own_St Z A K cs) (OL0 : Old Z n0 h0) (G_A_b340_b326 : Arv Z h0 b340_b326 k340_k326 .byte (3 : Int32) [(.int (51 : Int32)), (.int (46 : Int32)), (.int (51 : Int32))] (.int (0 : Int32))) :
    MetFree l own_m5 (head1 (Jvm.Cond.code own_m5 jdk_52_method_15_code 2 (some .byte) :: ws) ({ frames := 0, cells := 0, slots := 0, locals := 0 } : Room)) (fun a U => a = #[(.ref b340_b326), (.int (3 : Int32))] ∧ Z.Warmed39 U.vm ∧ U.heap = h0) (fun _ _ _ _ _ => True) (fun _ U o U' => ∃ v L, o = .returned v ∧ (PQ (some (.int (0 : Int32))) h0 n0) v U'.heap L ∧ FrameEnd U o U' L ({ frames := 0, cells := 0, slots := 0, locals := 0 } : Room).cells ({ frames := 0, cells := 0, slots := 0, locals := 0 } : Room).slots) := by
  refine MetFree.of_bodySF (plainFor_of_name own_pn0) hisR ?_
  intro p e s m args below meth c s₁ Bd hml0 hP hK
  obtain ⟨rfl, hZ, hh⟩ := hP
  have hx := Bd.exec
  have hby := Bd.bytes
  have hml : c.maxLocals = 2 := hml0
  have hown : s.vm.findClass "java/lang/StringUTF16" = some m.cls := findClass_of_methodNamed Bd.named
  have hnm := (name_of_methodNamed Bd.named Bd.method).1
  have X0 : Stand p l e ({ frames := 0, cells := 0, slots := 0, locals := 0 } : Room) s m #[(.ref b340_b326), (.int (3 : Int32))] below meth c s₁ [] 0 0 := Stand.of_body Bd
  have e0 : s₁.heap = h0 := by rw [← hh, Bd.state]; rfl
  have N0 := Fr.nil n0
  have pre0 : ∀ t, Steps p.tables e below (s₁.setTop (mkF m 0 #[.val (.ref b340_b326), .val (.int (3 : Int32))] [])) t → Steps p.tables e below (s₁.setTop (entryFrame m #[(.ref b340_b326), (.int (3 : Int32))] 2)) t := fun t k => castTop (own_ef_rm41 m p1 A K cs b340_b326 k340_k326) k
  have KK0 : Keep h0 h0 [] := Keep.refl _ _
  obtain ⟨cl341, Ar341, -, Sz341, Nn341, -, -⟩ := (id G_A_b340_b326)
  obtain ⟨fs, hr, hrun, hended, hW, hsame⟩ := X0.leave (v := some (.int (0 : Int32))) (fun h => by rw [Bd.returns] at h; cases h)
  refine ⟨_, _, pre0 _ ?_, hrun, hended, _, _, rfl, ?_, ⟨_, rfl⟩, hW, hsame.mono (by decide) (by decide)⟩
  · show Steps p.tables e below (s₁.setTop (mkF m 0 #[.val (.ref b340_b326), .val (.int (3 : Int32))] [])) _
    refine XS.iloadN X0.here hx rfl (hb hby own_d_jdk_52_method_15_code_0) rfl ?_
    show Steps p.tables e below (s₁.setTop (mkF m 1 #[.val (.ref b340_b326), .val (.int (3 : Int32))] [(.int (3 : Int32))])) _
    refine XS.aloadN X0.here hx rfl (hb hby own_d_jdk_52_method_15_code_1) rfl rfl ?_
    show Steps p.tables e below (s₁.setTop (mkF m 2 #[.val (.ref b340_b326), .val (.int (3 : Int32))] [(.ref b340_b326), (.int (3 : Int32))])) _
    refine X0.arraylength hx (by rw [e0]; exact Ar341.1) (State.isArrayOf_alike hZ.alike Ar341.2.1) (g := (mkF m 2 #[.val (.ref b340_b326), .val (.int (3 : Int32))] [(.ref b340_b326), (.int (3 : Int32))])) rfl rfl (hb hby own_d_jdk_52_method_15_code_2) _ ?_
    rw [len_of Sz341 Nn341]
    show Steps p.tables e below (s₁.setTop (mkF m 3 #[.val (.ref b340_b326), .val (.int (3 : Int32))] [(.int (3 : Int32)), (.int (3 : Int32))])) _
    refine XS.isub X0.here hx rfl (hb hby own_d_jdk_52_method_15_code_3) rfl ?_
    show Steps p.tables e below (s₁.setTop (mkF m 4 #[.val (.ref b340_b326), .val (.int (3 : Int32))] [(.int (0 : Int32))])) _
    refine XS.bipush X0.here hx rfl (hb hby own_d_jdk_52_method_15_code_4) ?_
    show Steps p.tables e below (s₁.setTop (mkF m 6 #[.val (.ref b340_b326), .val (.int (3 : Int32))] [(.int (31 : Int32)), (.int (0 : Int32))])) _
    refine XS.iushr X0.here hx rfl (hb hby own_d_jdk_52_method_15_code_6) rfl ?_
    show Steps p.tables e below (s₁.setTop (mkF m 7 #[.val (.ref b340_b326), .val (.int (3 : Int32))] [(.int (0 : Int32))])) _
    refine XS.i2b X0.here hx rfl (hb hby own_d_jdk_52_method_15_code_7) rfl ?_
    show Steps p.tables e below (s₁.setTop (mkF m 8 #[.val (.ref b340_b326), .val (.int (3 : Int32))] [(.int (0 : Int32))])) _
    exact retN X0 hx (t := .byte) Bd.returns (by simp) (hb hby own_d_jdk_52_method_15_code_8) hr
  · show PQ (some (.int (0 : Int32))) h0 n0 _ s₁.heap _
    rw [e0]
    exact ⟨rfl, N0, rfl⟩
def Q_rm38 (Z : State) (p1 : Int32) (A : Nat → Addr) (K : Nat → ClassId) (cs : Int32) (b315 : Addr) (b322 : Addr) (k315 : ClassId) (h0 : Heap) (n0 : Nat) (v : Option Value) (h : Heap) (L : List Loc) : Prop := ∃ b340_b326 : Addr, ∃ k340_k326 : ClassId, v = none ∧ Fr n0 L ∧ Keep h0 h [b322] ∧ (n0 ≤ b340_b326 ∧ h0.size ≤ b340_b326) ∧ (Exa Z h b322 "java/lang/String") ∧ (Fld Z h b322 "java/lang/String" "coder" "B" (.int (0 : Int32))) ∧ (Fld Z h b322 "java/lang/String" "value" "[B" (.ref b340_b326)) ∧ (Arv Z h b340_b326 k340_k326 .byte (3 : Int32) [(.int (51 : Int32)), (.int (46 : Int32)), (.int (51 : Int32))] (.int (0 : Int32)))
theorem own_ef_rm38 (m : MethodId) (p1 : Int32) (A : Nat → Addr) (K : Nat → ClassId) (cs : Int32)  (b315 : Addr) (b322 : Addr) (k315 : ClassId) : entryFrame m #[(.ref b322), (.ref b315), (.int (0 : Int32)), (.int (3 : Int32)), .null] 6 = mkF m 0 #[.val (.ref b322), .val (.ref b315), .val (.int (0 : Int32)), .val (.int (3 : Int32)), .val .null, .unset] [] := by first | (simp [entryFrame, mkF, argsToLocals, Value.category, maxLocals]; done) | rfl
set_option maxRecDepth 65536 in
set_option maxHeartbeats 40000000 in
theorem rm38 (l : Launch) (Z : State) (a0 : Array Value) (hw : ∀ d ∈ tables_1, d.before a0 Z = true) (ws : List Jvm.Cond) (h0 : Heap) (n0 : Nat) (p1 : Int32) (A : Nat → Addr) (K : Nat → ClassId) (cs : Int32)  (b315 : Addr) (b322 : Addr) (k315 : ClassId) (EN : own_St Z A K cs) (OL0 : Old Z n0 h0) (G_A_b315 : Arv Z h0 b315 k315 .char (3 : Int32) [(.int (51 : Int32)), (.int (46 : Int32)), (.int (51 : Int32))] (.int (0 : Int32))) (G_E_b322 : Exa Z h0 b322 "java/lang/String") (G_F_b322_java_lang_String_coder : Fld Z h0 b322 "java/lang/String" "coder" "B" (.int (0 : Int32))) (G_F_b322_java_lang_String_value : Fld Z h0 b322 "java/lang/String" "value" "[B" .null) (gn_b322 : n0 ≤ b322) :
    MetFree l own_m6 (head1 (Jvm.Cond.code own_m6 jdk_42_method_149_code 6 none :: ws) ({ frames := 2, cells := 1, slots := 3, locals := 35 } : Room)) (fun a U => a = #[(.ref b322), (.ref b315), (.int (0 : Int32)), (.int (3 : Int32)), .null] ∧ Z.Warmed39 U.vm ∧ U.heap = h0) (fun _ _ _ _ _ => True) (fun _ U o U' => ∃ v L, o = .returned v ∧ Q_rm38 Z p1 A K cs b315 b322 k315 h0 n0 v U'.heap L ∧ FrameEnd U o U' L ({ frames := 2, cells := 1, slots := 3, locals := 35 } : Room).cells ({ frames := 2, cells := 1, slots := 3, locals := 35 } : Room).slots) := by
  refine MetFree.of_bodySF (plainFor_of_name own_pn1) hisR ?_
  intro p e s m args below meth c s₁ Bd hml0 hP hK
  obtain ⟨rfl, hZ, hh⟩ := hP
  have hx := Bd.exec
  have hby := Bd.bytes
  have hml : c.maxLocals = 6 := hml0
  have hown : s.vm.findClass "java/lang/String" = some m.cls := findClass_of_methodNamed Bd.named
  have hnm := (name_of_methodNamed Bd.named Bd.method).1
  have X0 : Stand p l e ({ frames := 2, cells := 1, slots := 3, locals := 35 } : Room) s m #[(.ref b322), (.ref b315), (.int (0 : Int32)), (.int (3 : Int32)), .null] below meth c s₁ [] 0 0 := Stand.of_body Bd
  have e0 : s₁.heap = h0 := by rw [← hh, Bd.state]; rfl
  have N0 := Fr.nil n0
  have pre0 : ∀ t, Steps p.tables e below (s₁.setTop (mkF m 0 #[.val (.ref b322), .val (.ref b315), .val (.int (0 : Int32)), .val (.int (3 : Int32)), .val .null, .unset] [])) t → Steps p.tables e below (s₁.setTop (entryFrame m #[(.ref b322), (.ref b315), (.int (0 : Int32)), (.int (3 : Int32)), .null] 6)) t := fun t k => castTop (own_ef_rm38 m p1 A K cs b315 b322 k315) k
  have KK0 : Keep h0 h0 [b322] := Keep.refl _ _
  obtain ⟨T324, X324, e324, st324⟩ := initO X0 hx hZ hown (hw _ (List.mem_of_getElem? (i := 11) rfl)) (hw _ (List.mem_of_getElem? (i := 12) rfl)) (hw _ (List.mem_of_getElem? (i := 13) rfl)) e0 (g := (mkF m 1 #[.val (.ref b322), .val (.ref b315), .val (.int (0 : Int32)), .val (.int (3 : Int32)), .val .null, .unset] [(.ref b322)])) rfl (by rw [hml]; rfl) rfl (hb hby own_d_jdk_42_method_149_code_1) (by decide) (W := 0) (by show 2 * 0 + _ ≤ _; exact Nat.le_of_eq rfl) (by decide)
  obtain ⟨T325, X325, e325, st325⟩ := getS2 X324 hx hZ hown (host := "") (Or.inl (hw _ (List.mem_of_getElem? (i := 14) rfl))) Via.refl e324 (EN.2.2.2.1.2.2.2.1.ext OL0.2) (g := (mkF m 27 #[.val (.ref b322), .val (.ref b315), .val (.int (0 : Int32)), .val (.int (3 : Int32)), .val .null, .unset] [])) rfl (hb hby own_d_jdk_42_method_149_code_27)
  obtain ⟨_, _, ⟨T340, L340, k340, n340⟩, -, X340, ⟨Lc340, hQ340, l340, y340, z340⟩, st340⟩ := Jvm.LawKit.callS X325 hx (y := own_m4) hown (mvT hZ (hw _ (List.mem_of_getElem? (i := 15) rfl))) (mvT hZ (hw _ (List.mem_of_getElem? (i := 16) rfl))) (mvT hZ (hw _ (List.mem_of_getElem? (i := 17) rfl))) (mvT hZ (hw _ (List.mem_of_getElem? (i := 18) rfl))) (by decide) (backOf (W := 0) (rm39 l Z a0 hw [] h0 n0 p1 A K cs b315 b322 k315 EN OL0 G_A_b315 G_E_b322) hZ (hw _ (List.mem_of_getElem? (i := 18) rfl)) (hw _ (List.mem_of_getElem? (i := 17) rfl)) (by decide) (by decide)) (g := (mkF m 36 #[.val (.ref b322), .val (.ref b315), .val (.int (0 : Int32)), .val (.int (3 : Int32)), .val .null, .unset] [(.int (3 : Int32)), (.int (0 : Int32)), (.ref b315)])) rfl (by rw [hml]; rfl) (argsL := [(.ref b315), (.int (0 : Int32)), (.int (3 : Int32))]) (rest := []) (lenOf own_pd1 rfl) rfl (by show 2 * 0 + _ ≤ _; exact Nat.le_of_eq rfl) (hb hby own_d_jdk_42_method_149_code_36) (fun _ _ => ⟨rfl, e325, (by decide : 0 + 1 ≤ _), (by decide : 0 + 3 ≤ _)⟩)
  dsimp only [Pt.U, Pt.locs, Pt.cells, Pt.slots] at X340 l340 y340 z340 st340 hQ340
  subst l340 y340 z340
  obtain ⟨b340_b326, k340_k326, rfl, N340q, K340c, ⟨gn_b340_b326, szc_b340_b326⟩, f340_0⟩ := hQ340
  have N340 := Fr.app N0 N340q
  have lt_b315_b340_b326 : b315 < b340_b326 := Nat.lt_of_lt_of_le G_A_b315.lt szc_b340_b326
  have lt_b322_b340_b326 : b322 < b340_b326 := Nat.lt_of_lt_of_le G_E_b322.lt szc_b340_b326
  have sz_b340_b326 : h0.size ≤ b340_b326 := Nat.le_trans KK0.1 szc_b340_b326
  have OL340 : Old Z n0 T340.heap := OL0.keep K340c all0
  have KK340 : Keep h0 T340.heap [b322] := KK0.trans K340c all0
  obtain ⟨_, _, ⟨T342, L342, k342, n342⟩, -, X342, ⟨Lc342, hQ342, l342, y342, z342⟩, st342⟩ := Jvm.LawKit.callS X340 hx (y := own_m5) hown (mvT hZ (hw _ (List.mem_of_getElem? (i := 23) rfl))) (mvT hZ (hw _ (List.mem_of_getElem? (i := 24) rfl))) (mvT hZ (hw _ (List.mem_of_getElem? (i := 17) rfl))) (mvT hZ (hw _ (List.mem_of_getElem? (i := 25) rfl))) (by decide) (backOf (W := 1) (rm41 l Z a0 hw [] T340.heap n0 p1 A K cs b340_b326 k340_k326 EN OL340 f340_0) hZ (hw _ (List.mem_of_getElem? (i := 25) rfl)) (hw _ (List.mem_of_getElem? (i := 17) rfl)) (by decide) (by decide)) (g := (mkF m 45 #[.val (.ref b322), .val (.ref b315), .val (.int (0 : Int32)), .val (.int (3 : Int32)), .val .null, .val (.ref b340_b326)] [(.int (3 : Int32)), (.ref b340_b326), (.ref b322)])) rfl (by rw [hml]; rfl) (argsL := [(.ref b340_b326), (.int (3 : Int32))]) (rest := [(.ref b322)]) (lenOf own_pd2 rfl) rfl (by show 2 * 0 + _ ≤ _; exact Nat.le_of_eq rfl) (hb hby own_d_jdk_42_method_149_code_45) (fun _ _ => ⟨rfl, rfl, (by decide : 1 + 0 ≤ _), (by decide : 3 + 0 ≤ _)⟩)
  dsimp only [Pt.U, Pt.locs, Pt.cells, Pt.slots] at X342 l342 y342 z342 st342 hQ342
  subst l342 y342 z342
  obtain ⟨rfl, N342q, e342⟩ := hQ342
  have N342 := Fr.app N340 N342q
  have fx343 : Fld Z T340.heap b322 "java/lang/String" "coder" "B" (.int (0 : Int32)) := (G_F_b322_java_lang_String_coder.keep K340c nin0)
  have fx344 : Exa Z T340.heap b322 "java/lang/String" := (G_E_b322.keep K340c)
  obtain ⟨T345, h345, X345, e345, W345, st345⟩ := putFN X342 hx hZ hown (hw _ (List.mem_of_getElem? (i := 26) rfl)) Via.refl e342 fx343 fx344 (Or.inr ⟨(hw _ (List.mem_of_getElem? (i := 27) rfl)), rfl, hnm⟩) (hw _ (List.mem_of_getElem? (i := 2) rfl)) (ty := .byte) (v' := (.int (0 : Int32))) (by decide) rfl (by decide) (g := (mkF m 48 #[.val (.ref b322), .val (.ref b315), .val (.int (0 : Int32)), .val (.int (3 : Int32)), .val .null, .val (.ref b340_b326)] [(.int (0 : Int32)), (.ref b322)])) rfl rfl (hb hby own_d_jdk_42_method_149_code_48)
  have NF345 := Fr.snoc X345 N342 gn_b322
  have OL345 : Old Z n0 h345 := OL340.wr W345 gn_b322
  have KK345 : Keep h0 h345 [b322] := KK340.wr W345 (Or.inl (List.mem_of_getElem? (i := 0) rfl))
  have Fw345 : Fld Z h345 b322 "java/lang/String" "coder" "B" (.int (0 : Int32)) := fx343.same W345
  have fx346 : Fld Z h345 b322 "java/lang/String" "value" "[B" .null := ((G_F_b322_java_lang_String_value.keep K340c nin0).other W345 (Or.inr (slot_ne (Or.inr (hw _ (List.mem_of_getElem? (i := 29) rfl))) (Or.inr (hw _ (List.mem_of_getElem? (i := 27) rfl))) (by decide) (t := (.array .byte)) (t' := .byte) (by decide) (by decide))))
  have fx347 : Exa Z h345 b322 "java/lang/String" := (fx344.wr W345)
  obtain ⟨T348, h348, X348, e348, W348, st348⟩ := putF X345 hx hZ hown (host := "") (Or.inl (hw _ (List.mem_of_getElem? (i := 28) rfl))) Via.refl e345 fx346 fx347 (Or.inr ⟨(hw _ (List.mem_of_getElem? (i := 29) rfl)), rfl, hnm⟩) (hw _ (List.mem_of_getElem? (i := 2) rfl)) (ty := (.array .byte)) (by decide) rfl rfl (g := (mkF m 54 #[.val (.ref b322), .val (.ref b315), .val (.int (0 : Int32)), .val (.int (3 : Int32)), .val .null, .val (.ref b340_b326)] [(.ref b340_b326), (.ref b322)])) rfl rfl (hb hby own_d_jdk_42_method_149_code_54)
  have NF348 := Fr.snoc X348 NF345 gn_b322
  have OL348 : Old Z n0 h348 := OL345.wr W348 gn_b322
  have KK348 : Keep h0 h348 [b322] := KK345.wr W348 (Or.inl (List.mem_of_getElem? (i := 0) rfl))
  have Fw348 : Fld Z h348 b322 "java/lang/String" "value" "[B" (.ref b340_b326) := fx346.same W348
  have fx349 : Exa Z h348 b322 "java/lang/String" := (fx347.wr W348)
  have fx350 : Fld Z h348 b322 "java/lang/String" "coder" "B" (.int (0 : Int32)) := (Fw345.other W348 (Or.inr (slot_ne (Or.inr (hw _ (List.mem_of_getElem? (i := 27) rfl))) (Or.inr (hw _ (List.mem_of_getElem? (i := 29) rfl))) (by decide) (t := .byte) (t' := (.array .byte)) (by decide) (by decide))))
  have fx351 : Arv Z h348 b340_b326 k340_k326 .byte (3 : Int32) [(.int (51 : Int32)), (.int (46 : Int32)), (.int (51 : Int32))] (.int (0 : Int32)) := ((f340_0.other W345 (Ne.symm (Nat.ne_of_lt lt_b322_b340_b326))).other W348 (Ne.symm (Nat.ne_of_lt lt_b322_b340_b326)))
  obtain ⟨fs, hr, hrun, hended, hW, hsame⟩ := X348.leave (v := none) (fun _ => rfl)
  refine ⟨_, _, pre0 _ ?_, hrun, hended, _, _, rfl, ?_, ⟨_, rfl⟩, hW, hsame.mono (by decide) (by decide)⟩
  · show Steps p.tables e below (s₁.setTop (mkF m 0 #[.val (.ref b322), .val (.ref b315), .val (.int (0 : Int32)), .val (.int (3 : Int32)), .val .null, .unset] [])) _
    refine XS.aloadN X0.here hx rfl (hb hby own_d_jdk_42_method_149_code_0) rfl rfl ?_
    show Steps p.tables e below (s₁.setTop (mkF m 1 #[.val (.ref b322), .val (.ref b315), .val (.int (0 : Int32)), .val (.int (3 : Int32)), .val .null, .unset] [(.ref b322)])) _
    refine st324 _ ?_
    show Steps p.tables e below (T324.setTop (mkF m 4 #[.val (.ref b322), .val (.ref b315), .val (.int (0 : Int32)), .val (.int (3 : Int32)), .val .null, .unset] [])) _
    refine XS.iloadN X324.here hx rfl (hb hby own_d_jdk_42_method_149_code_4) rfl ?_
    show Steps p.tables e below (T324.setTop (mkF m 5 #[.val (.ref b322), .val (.ref b315), .val (.int (0 : Int32)), .val (.int (3 : Int32)), .val .null, .unset] [(.int (3 : Int32))])) _
    refine XS.ifYes X324.here hx rfl (pc0 := 5) (pc' := 27) rfl (hb hby own_d_jdk_42_method_149_code_5) rfl ((if0 _ _).trans (feq (by decide : ¬ ((3 : Int32) = (0 : Int32)))).2) (by decide) (by decide) ?_
    show Steps p.tables e below (T324.setTop (mkF m 27 #[.val (.ref b322), .val (.ref b315), .val (.int (0 : Int32)), .val (.int (3 : Int32)), .val .null, .unset] [])) _
    refine st325 _ ?_
    show Steps p.tables e below (T325.setTop (mkF m 30 #[.val (.ref b322), .val (.ref b315), .val (.int (0 : Int32)), .val (.int (3 : Int32)), .val .null, .unset] [(.int cs)])) _
    refine XS.ifNo X325.here hx rfl (hb hby own_d_jdk_42_method_149_code_30) rfl ((if0 _ _).trans (feq EN.2.2.2.1.2.2.2.2.1).1) ?_
    show Steps p.tables e below (T325.setTop (mkF m 33 #[.val (.ref b322), .val (.ref b315), .val (.int (0 : Int32)), .val (.int (3 : Int32)), .val .null, .unset] [])) _
    refine XS.aloadN X325.here hx rfl (hb hby own_d_jdk_42_method_149_code_33) rfl rfl ?_
    show Steps p.tables e below (T325.setTop (mkF m 34 #[.val (.ref b322), .val (.ref b315), .val (.int (0 : Int32)), .val (.int (3 : Int32)), .val .null, .unset] [(.ref b315)])) _
    refine XS.iloadN X325.here hx rfl (hb hby own_d_jdk_42_method_149_code_34) rfl ?_
    show Steps p.tables e below (T325.setTop (mkF m 35 #[.val (.ref b322), .val (.ref b315), .val (.int (0 : Int32)), .val (.int (3 : Int32)), .val .null, .unset] [(.int (0 : Int32)), (.ref b315)])) _
    refine XS.iloadN X325.here hx rfl (hb hby own_d_jdk_42_method_149_code_35) rfl ?_
    show Steps p.tables e below (T325.setTop (mkF m 36 #[.val (.ref b322), .val (.ref b315), .val (.int (0 : Int32)), .val (.int (3 : Int32)), .val .null, .unset] [(.int (3 : Int32)), (.int (0 : Int32)), (.ref b315)])) _
    refine st340 _ ?_
    show Steps p.tables e below (T340.setTop (mkF m 39 #[.val (.ref b322), .val (.ref b315), .val (.int (0 : Int32)), .val (.int (3 : Int32)), .val .null, .unset] [(.ref b340_b326)])) _
    refine XS.astore X340.here hx rfl (hb hby own_d_jdk_42_method_149_code_39) rfl rfl (l' := #[.val (.ref b322), .val (.ref b315), .val (.int (0 : Int32)), .val (.int (3 : Int32)), .val .null, .val (.ref b340_b326)]) rfl ?_
    show Steps p.tables e below (T340.setTop (mkF m 41 #[.val (.ref b322), .val (.ref b315), .val (.int (0 : Int32)), .val (.int (3 : Int32)), .val .null, .val (.ref b340_b326)] [])) _
    refine XS.aloadN X340.here hx rfl (hb hby own_d_jdk_42_method_149_code_41) rfl rfl ?_
    show Steps p.tables e below (T340.setTop (mkF m 42 #[.val (.ref b322), .val (.ref b315), .val (.int (0 : Int32)), .val (.int (3 : Int32)), .val .null, .val (.ref b340_b326)] [(.ref b322)])) _
    refine XS.aload X340.here hx rfl (hb hby own_d_jdk_42_method_149_code_42) rfl rfl ?_
    show Steps p.tables e below (T340.setTop (mkF m 44 #[.val (.ref b322), .val (.ref b315), .val (.int (0 : Int32)), .val (.int (3 : Int32)), .val .null, .val (.ref b340_b326)] [(.ref b340_b326), (.ref b322)])) _
    refine XS.iloadN X340.here hx rfl (hb hby own_d_jdk_42_method_149_code_44) rfl ?_
    show Steps p.tables e below (T340.setTop (mkF m 45 #[.val (.ref b322), .val (.ref b315), .val (.int (0 : Int32)), .val (.int (3 : Int32)), .val .null, .val (.ref b340_b326)] [(.int (3 : Int32)), (.ref b340_b326), (.ref b322)])) _
    refine st342 _ ?_
    show Steps p.tables e below (T342.setTop (mkF m 48 #[.val (.ref b322), .val (.ref b315), .val (.int (0 : Int32)), .val (.int (3 : Int32)), .val .null, .val (.ref b340_b326)] [(.int (0 : Int32)), (.ref b322)])) _
    refine st345 _ ?_
    show Steps p.tables e below (T345.setTop (mkF m 51 #[.val (.ref b322), .val (.ref b315), .val (.int (0 : Int32)), .val (.int (3 : Int32)), .val .null, .val (.ref b340_b326)] [])) _
    refine XS.aloadN X345.here hx rfl (hb hby own_d_jdk_42_method_149_code_51) rfl rfl ?_
    show Steps p.tables e below (T345.setTop (mkF m 52 #[.val (.ref b322), .val (.ref b315), .val (.int (0 : Int32)), .val (.int (3 : Int32)), .val .null, .val (.ref b340_b326)] [(.ref b322)])) _
    refine XS.aload X345.here hx rfl (hb hby own_d_jdk_42_method_149_code_52) rfl rfl ?_
    show Steps p.tables e below (T345.setTop (mkF m 54 #[.val (.ref b322), .val (.ref b315), .val (.int (0 : Int32)), .val (.int (3 : Int32)), .val .null, .val (.ref b340_b326)] [(.ref b340_b326), (.ref b322)])) _
    refine st348 _ ?_
    show Steps p.tables e below (T348.setTop (mkF m 57 #[.val (.ref b322), .val (.ref b315), .val (.int (0 : Int32)), .val (.int (3 : Int32)), .val .null, .val (.ref b340_b326)] [])) _
    exact X348.returnOut hx Bd.returns (hb hby own_d_jdk_42_method_149_code_57) hr
  · show Q_rm38 Z p1 A K cs b315 b322 k315 h0 n0 _ T348.heap _
    rw [e348]
    exact ⟨b340_b326, k340_k326, rfl, NF348, KK348, ⟨gn_b340_b326, sz_b340_b326⟩, fx349, fx350, Fw348, fx351⟩
def Q_rm37 (Z : State) (p1 : Int32) (A : Nat → Addr) (K : Nat → ClassId) (cs : Int32) (b315 : Addr) (b322 : Addr) (k315 : ClassId) (h0 : Heap) (n0 : Nat) (v : Option Value) (h : Heap) (L : List Loc) : Prop := ∃ b352_b340_b326 : Addr, ∃ k352_k340_k326 : ClassId, v = none ∧ Fr n0 L ∧ Keep h0 h [b322] ∧ (n0 ≤ b352_b340_b326 ∧ h0.size ≤ b352_b340_b326) ∧ (Exa Z h b322 "java/lang/String") ∧ (Fld Z h b322 "java/lang/String" "coder" "B" (.int (0 : Int32))) ∧ (Fld Z h b322 "java/lang/String" "value" "[B" (.ref b352_b340_b326)) ∧ (Arv Z h b352_b340_b326 k352_k340_k326 .byte (3 : Int32) [(.int (51 : Int32)), (.int (46 : Int32)), (.int (51 : Int32))] (.int (0 : Int32)))
theorem own_ef_rm37 (m : MethodId) (p1 : Int32) (A : Nat → Addr) (K : Nat → ClassId) (cs : Int32)  (b315 : Addr) (b322 : Addr) (k315 : ClassId) : entryFrame m #[(.ref b322), (.ref b315)] 2 = mkF m 0 #[.val (.ref b322), .val (.ref b315)] [] := by first | (simp [entryFrame, mkF, argsToLocals, Value.category, maxLocals]; done) | rfl
set_option maxRecDepth 65536 in
set_option maxHeartbeats 40000000 in
theorem rm37 (l : Launch) (Z : State) (a0 : Array Value) (hw : ∀ d ∈ tables_1, d.before a0 Z = true) (ws : List Jvm.Cond) (h0 : Heap) (n0 : Nat) (p1 : Int32) (A : Nat → Addr) (K : Nat → ClassId) (cs : Int32)  (b315 : Addr) (b322 : Addr) (k315 : ClassId) (EN : own_St Z A K cs) (OL0 : Old Z n0 h0) (G_A_b315 : Arv Z h0 b315 k315 .char (3 : Int32) [(.int (51 : Int32)), (.int (46 : Int32)), (.int (51 : Int32))] (.int (0 : Int32))) (G_E_b322 : Exa Z h0 b322 "java/lang/String") (G_F_b322_java_lang_String_coder : Fld Z h0 b322 "java/lang/String" "coder" "B" (.int (0 : Int32))) (G_F_b322_java_lang_String_value : Fld Z h0 b322 "java/lang/String" "value" "[B" .null) (gn_b322 : n0 ≤ b322) :
    MetFree l own_m7 (head1 (Jvm.Cond.code own_m7 jdk_42_method_3_code 2 none :: ws) ({ frames := 3, cells := 1, slots := 3, locals := 52 } : Room)) (fun a U => a = #[(.ref b322), (.ref b315)] ∧ Z.Warmed39 U.vm ∧ U.heap = h0) (fun _ _ _ _ _ => True) (fun _ U o U' => ∃ v L, o = .returned v ∧ Q_rm37 Z p1 A K cs b315 b322 k315 h0 n0 v U'.heap L ∧ FrameEnd U o U' L ({ frames := 3, cells := 1, slots := 3, locals := 52 } : Room).cells ({ frames := 3, cells := 1, slots := 3, locals := 52 } : Room).slots) := by
  refine MetFree.of_bodySF (plainFor_of_name own_pn1) hisR ?_
  intro p e s m args below meth c s₁ Bd hml0 hP hK
  obtain ⟨rfl, hZ, hh⟩ := hP
  have hx := Bd.exec
  have hby := Bd.bytes
  have hml : c.maxLocals = 2 := hml0
  have hown : s.vm.findClass "java/lang/String" = some m.cls := findClass_of_methodNamed Bd.named
  have hnm := (name_of_methodNamed Bd.named Bd.method).1
  have X0 : Stand p l e ({ frames := 3, cells := 1, slots := 3, locals := 52 } : Room) s m #[(.ref b322), (.ref b315)] below meth c s₁ [] 0 0 := Stand.of_body Bd
  have e0 : s₁.heap = h0 := by rw [← hh, Bd.state]; rfl
  have N0 := Fr.nil n0
  have pre0 : ∀ t, Steps p.tables e below (s₁.setTop (mkF m 0 #[.val (.ref b322), .val (.ref b315)] [])) t → Steps p.tables e below (s₁.setTop (entryFrame m #[(.ref b322), (.ref b315)] 2)) t := fun t k => castTop (own_ef_rm37 m p1 A K cs b315 b322 k315) k
  have KK0 : Keep h0 h0 [b322] := Keep.refl _ _
  obtain ⟨cl323, Ar323, -, Sz323, Nn323, -, -⟩ := (id G_A_b315)
  obtain ⟨_, _, ⟨T352, L352, k352, n352⟩, -, X352, ⟨Lc352, hQ352, l352, y352, z352⟩, st352⟩ := X0.specialBack hx (y := own_m6) rfl hown (mvT hZ (hw _ (List.mem_of_getElem? (i := 7) rfl))) (mvT hZ (hw _ (List.mem_of_getElem? (i := 8) rfl))) (mvT hZ (hw _ (List.mem_of_getElem? (i := 10) rfl))) (by decide) (backOf (W := 0) (rm38 l Z a0 hw [] h0 n0 p1 A K cs b315 b322 k315 EN OL0 G_A_b315 G_E_b322 G_F_b322_java_lang_String_coder G_F_b322_java_lang_String_value gn_b322) hZ (hw _ (List.mem_of_getElem? (i := 10) rfl)) (hw _ (List.mem_of_getElem? (i := 3) rfl)) (by decide) (by decide)) (g := (mkF m 6 #[.val (.ref b322), .val (.ref b315)] [.null, (.int (3 : Int32)), (.int (0 : Int32)), (.ref b315), (.ref b322)])) rfl (by rw [hml]; rfl) (Steps.refl _) (a := b322) (argsL := [(.ref b315), (.int (0 : Int32)), (.int (3 : Int32)), .null]) (rest := []) (lenOf own_pd3 rfl) rfl (by show 2 * 0 + _ ≤ _; exact Nat.le_of_eq rfl) (hb hby own_d_jdk_42_method_3_code_6) (fun _ _ => ⟨rfl, e0, (by decide : 0 + 1 ≤ _), (by decide : 0 + 3 ≤ _)⟩)
  dsimp only [Pt.U, Pt.locs, Pt.cells, Pt.slots] at X352 l352 y352 z352 st352 hQ352
  subst l352 y352 z352
  obtain ⟨b352_b340_b326, k352_k340_k326, rfl, N352q, K352c, ⟨gn_b352_b340_b326, szc_b352_b340_b326⟩, f352_0, f352_1, f352_2, f352_3⟩ := hQ352
  have N352 := Fr.app N0 N352q
  have lt_b315_b352_b340_b326 : b315 < b352_b340_b326 := Nat.lt_of_lt_of_le G_A_b315.lt szc_b352_b340_b326
  have lt_b322_b352_b340_b326 : b322 < b352_b340_b326 := Nat.lt_of_lt_of_le G_E_b322.lt szc_b352_b340_b326
  have sz_b352_b340_b326 : h0.size ≤ b352_b340_b326 := Nat.le_trans KK0.1 szc_b352_b340_b326
  have OL352 : Old Z n0 T352.heap := OL0.keep K352c (allS gn_b322 all0)
  have KK352 : Keep h0 T352.heap [b322] := KK0.trans K352c (allS (Or.inl (List.mem_of_getElem? (i := 0) rfl)) all0)
  obtain ⟨fs, hr, hrun, hended, hW, hsame⟩ := X352.leave (v := none) (fun _ => rfl)
  refine ⟨_, _, pre0 _ ?_, hrun, hended, _, _, rfl, ?_, ⟨_, rfl⟩, hW, hsame.mono (by decide) (by decide)⟩
  · show Steps p.tables e below (s₁.setTop (mkF m 0 #[.val (.ref b322), .val (.ref b315)] [])) _
    refine XS.aloadN X0.here hx rfl (hb hby own_d_jdk_42_method_3_code_0) rfl rfl ?_
    show Steps p.tables e below (s₁.setTop (mkF m 1 #[.val (.ref b322), .val (.ref b315)] [(.ref b322)])) _
    refine XS.aloadN X0.here hx rfl (hb hby own_d_jdk_42_method_3_code_1) rfl rfl ?_
    show Steps p.tables e below (s₁.setTop (mkF m 2 #[.val (.ref b322), .val (.ref b315)] [(.ref b315), (.ref b322)])) _
    refine XS.iconst X0.here hx rfl (hb hby own_d_jdk_42_method_3_code_2) ?_
    show Steps p.tables e below (s₁.setTop (mkF m 3 #[.val (.ref b322), .val (.ref b315)] [(.int (0 : Int32)), (.ref b315), (.ref b322)])) _
    refine XS.aloadN X0.here hx rfl (hb hby own_d_jdk_42_method_3_code_3) rfl rfl ?_
    show Steps p.tables e below (s₁.setTop (mkF m 4 #[.val (.ref b322), .val (.ref b315)] [(.ref b315), (.int (0 : Int32)), (.ref b315), (.ref b322)])) _
    refine X0.arraylength hx (by rw [e0]; exact Ar323.1) (State.isArrayOf_alike hZ.alike Ar323.2.1) (g := (mkF m 4 #[.val (.ref b322), .val (.ref b315)] [(.ref b315), (.int (0 : Int32)), (.ref b315), (.ref b322)])) rfl rfl (hb hby own_d_jdk_42_method_3_code_4) _ ?_
    rw [len_of Sz323 Nn323]
    show Steps p.tables e below (s₁.setTop (mkF m 5 #[.val (.ref b322), .val (.ref b315)] [(.int (3 : Int32)), (.int (0 : Int32)), (.ref b315), (.ref b322)])) _
    refine XS.aconstNull X0.here hx rfl (hb hby own_d_jdk_42_method_3_code_5) ?_
    show Steps p.tables e below (s₁.setTop (mkF m 6 #[.val (.ref b322), .val (.ref b315)] [.null, (.int (3 : Int32)), (.int (0 : Int32)), (.ref b315), (.ref b322)])) _
    refine st352.trans ?_
    show Steps p.tables e below (T352.setTop (mkF m 9 #[.val (.ref b322), .val (.ref b315)] [])) _
    exact X352.returnOut hx Bd.returns (hb hby own_d_jdk_42_method_3_code_9) hr
  · show Q_rm37 Z p1 A K cs b315 b322 k315 h0 n0 _ T352.heap _
    exact ⟨b352_b340_b326, k352_k340_k326, rfl, N352, KK352, ⟨gn_b352_b340_b326, sz_b352_b340_b326⟩, f352_0, f352_1, f352_2, f352_3⟩
def Q_rm43 (Z : State) (p1 : Int32) (A : Nat → Addr) (K : Nat → ClassId) (cs : Int32) (b315 : Addr) (b322 : Addr) (b354_b352_b340_b326 : Addr) (k315 : ClassId) (k354_k352_k340_k326 : ClassId) (h0 : Heap) (n0 : Nat) (v : Option Value) (h : Heap) (L : List Loc) : Prop := ∃ b357 : Addr, v = (some (.ref b357)) ∧ Fr n0 L ∧ Keep h0 h [] ∧ (n0 ≤ b357 ∧ h0.size ≤ b357) ∧ (Arv Z h b357 (K 0) (.object "com/example/dongl/dongl/crypto/ProtocolVersion") (4 : Int32) [(.ref (A 0)), (.ref (A 1)), (.ref (A 2)), (.ref (A 3))] .null) ∧ (Exa Z h b357 "[Lcom/example/dongl/dongl/crypto/ProtocolVersion;")
theorem own_ef_rm43 (m : MethodId) (p1 : Int32) (A : Nat → Addr) (K : Nat → ClassId) (cs : Int32)  (b315 : Addr) (b322 : Addr) (b354_b352_b340_b326 : Addr) (k315 : ClassId) (k354_k352_k340_k326 : ClassId) : entryFrame m #[] 0 = mkF m 0 #[] [] := by first | (simp [entryFrame, mkF, argsToLocals, Value.category, maxLocals]; done) | rfl
set_option maxRecDepth 65536 in
set_option maxHeartbeats 40000000 in
theorem rm43 (l : Launch) (Z : State) (a0 : Array Value) (hw : ∀ d ∈ tables_1, d.before a0 Z = true) (ws : List Jvm.Cond) (h0 : Heap) (n0 : Nat) (p1 : Int32) (A : Nat → Addr) (K : Nat → ClassId) (cs : Int32)  (b315 : Addr) (b322 : Addr) (b354_b352_b340_b326 : Addr) (k315 : ClassId) (k354_k352_k340_k326 : ClassId) (EN : own_St Z A K cs) (OL0 : Old Z n0 h0) (G_A_b315 : Arv Z h0 b315 k315 .char (3 : Int32) [(.int (51 : Int32)), (.int (46 : Int32)), (.int (51 : Int32))] (.int (0 : Int32))) (G_E_b322 : Exa Z h0 b322 "java/lang/String") (G_A_b354_b352_b340_b326 : Arv Z h0 b354_b352_b340_b326 k354_k352_k340_k326 .byte (3 : Int32) [(.int (51 : Int32)), (.int (46 : Int32)), (.int (51 : Int32))] (.int (0 : Int32))) :
    MetFree l own_m8 (head1 (Jvm.Cond.code own_m8 prog_26_method_1_code 0 (some (.array (.object "com/example/dongl/dongl/crypto/ProtocolVersion"))) :: ws) ({ frames := 1, cells := 1, slots := 4, locals := 14 } : Room)) (fun a U => a = #[] ∧ Z.Warmed39 U.vm ∧ U.heap = h0) (fun _ _ _ _ _ => True) (fun _ U o U' => ∃ v L, o = .returned v ∧ Q_rm43 Z p1 A K cs b315 b322 b354_b352_b340_b326 k315 k354_k352_k340_k326 h0 n0 v U'.heap L ∧ FrameEnd U o U' L ({ frames := 1, cells := 1, slots := 4, locals := 14 } : Room).cells ({ frames := 1, cells := 1, slots := 4, locals := 14 } : Room).slots) := by
  refine MetFree.of_bodySF (plainFor_of_name own_pn2) hisR ?_
  intro p e s m args below meth c s₁ Bd hml0 hP hK
  obtain ⟨rfl, hZ, hh⟩ := hP
  have hx := Bd.exec
  have hby := Bd.bytes
  have hml : c.maxLocals = 0 := hml0
  have hown : s.vm.findClass "com/example/dongl/dongl/crypto/ProtocolVersion" = some m.cls := findClass_of_methodNamed Bd.named
  have hnm := (name_of_methodNamed Bd.named Bd.method).1
  have X0 : Stand p l e ({ frames := 1, cells := 1, slots := 4, locals := 14 } : Room) s m #[] below meth c s₁ [] 0 0 := Stand.of_body Bd
  have e0 : s₁.heap = h0 := by rw [← hh, Bd.state]; rfl
  have N0 := Fr.nil n0
  have pre0 : ∀ t, Steps p.tables e below (s₁.setTop (mkF m 0 #[] [])) t → Steps p.tables e below (s₁.setTop (entryFrame m #[] 0)) t := fun t k => castTop (own_ef_rm43 m p1 A K cs b315 b322 b354_b352_b340_b326 k315 k354_k352_k340_k326) k
  have KK0 : Keep h0 h0 [] := Keep.refl _ _
  obtain ⟨T356, X356, e356, st356⟩ := getS2 X0 hx hZ hown (host := "") (Or.inl (hw _ (List.mem_of_getElem? (i := 39) rfl))) Via.refl e0 (EN.2.1.1.ext OL0.2) (g := (mkF m 0 #[] [])) rfl (hb hby own_d_prog_26_method_1_code_0)
  obtain ⟨T357, h357, X357, e357, E357, V357, A357, st357⟩ := cloneH X356 hx hZ hown (hw _ (List.mem_of_getElem? (i := 41) rfl)) (hw _ (List.mem_of_getElem? (i := 42) rfl)) (hw _ (List.mem_of_getElem? (i := 46) rfl)) (hw _ (List.mem_of_getElem? (i := 44) rfl)) (hw _ (List.mem_of_getElem? (i := 45) rfl)) (hw _ (List.mem_of_getElem? (i := 47) rfl)) e356 (Arv.arh (EN.2.1.2.2.1.ext OL0.2)) (EN.2.1.2.1.ext OL0.2) (g := (mkF m 3 #[] [(.ref (A 4))])) rfl (by rw [hml]; rfl) rfl (hb hby own_d_prog_26_method_1_code_3) (by decide) (W := 0) (cap := 4) (by show 2 * 0 + _ ≤ _; exact Nat.le_of_eq rfl) (by decide) (by decide) (by decide) (by decide)
  obtain ⟨b357, g357⟩ : ∃ z, z = h0.size := ⟨_, rfl⟩
  rw [← g357] at V357 A357 st357
  have gn_b357 : n0 ≤ b357 := Nat.le_trans (OL0.1 ▸ OL0.2.1) (Nat.le_of_eq g357.symm)
  have sz_b357 : h0.size ≤ b357 := Nat.le_trans KK0.1 (Nat.le_of_eq g357.symm)
  have lt_b315_b357 : b315 < b357 := Nat.lt_of_lt_of_le G_A_b315.lt (Nat.le_of_eq g357.symm)
  have lt_b322_b357 : b322 < b357 := Nat.lt_of_lt_of_le G_E_b322.lt (Nat.le_of_eq g357.symm)
  have lt_b354_b352_b340_b326_b357 : b354_b352_b340_b326 < b357 := Nat.lt_of_lt_of_le G_A_b354_b352_b340_b326.lt (Nat.le_of_eq g357.symm)
  have OL357 : Old Z n0 h357 := OL0.ext E357
  have KK357 : Keep h0 h357 [] := KK0.ext E357
  have Vv357 : Arv Z h357 b357 (K 0) (.object "com/example/dongl/dongl/crypto/ProtocolVersion") (4 : Int32) [(.ref (A 0)), (.ref (A 1)), (.ref (A 2)), (.ref (A 3))] .null := V357
  obtain ⟨T358, X358, e358, st358⟩ := castY X357 hx hZ hown (hw _ (List.mem_of_getElem? (i := 52) rfl)) e357 (Ins.self A357) (g := (mkF m 6 #[] [(.ref b357)])) rfl rfl (hb hby own_d_prog_26_method_1_code_6)
  obtain ⟨fs, hr, hrun, hended, hW, hsame⟩ := X358.leave (v := some (.ref b357)) (fun h => by rw [Bd.returns] at h; cases h)
  refine ⟨_, _, pre0 _ ?_, hrun, hended, _, _, rfl, ?_, ⟨_, rfl⟩, hW, hsame.mono (by decide) (by decide)⟩
  · show Steps p.tables e below (s₁.setTop (mkF m 0 #[] [])) _
    refine st356 _ ?_
    show Steps p.tables e below (T356.setTop (mkF m 3 #[] [(.ref (A 4))])) _
    refine st357 _ ?_
    show Steps p.tables e below (T357.setTop (mkF m 6 #[] [(.ref b357)])) _
    refine st358 _ ?_
    show Steps p.tables e below (T358.setTop (mkF m 9 #[] [(.ref b357)])) _
    exact retOut X358 hx Bd.returns rfl (Or.inr (Or.inr (Or.inr (Or.inr ⟨rfl, rfl, rfl⟩)))) (hb hby own_d_prog_26_method_1_code_9) hr
  · show Q_rm43 Z p1 A K cs b315 b322 b354_b352_b340_b326 k315 k354_k352_k340_k326 h0 n0 _ T358.heap _
    rw [e358]
    exact ⟨b357, rfl, N0, KK357, ⟨gn_b357, sz_b357⟩, Vv357, A357⟩
theorem own_ef_rm45 (m : MethodId) (p1 : Int32) (A : Nat → Addr) (K : Nat → ClassId) (cs : Int32)  (b354_b352_b340_b326 : Addr) (k354_k352_k340_k326 : ClassId) : entryFrame m #[(.ref (A 9)), (.ref b354_b352_b340_b326)] 3 = mkF m 0 #[.val (.ref (A 9)), .val (.ref b354_b352_b340_b326), .unset] [] := by first | (simp [entryFrame, mkF, argsToLocals, Value.category, maxLocals]; done) | rfl
set_option maxRecDepth 65536 in
set_option maxHeartbeats 40000000 in
theorem rm45 (l : Launch) (Z : State) (a0 : Array Value) (hw : ∀ d ∈ tables_1, d.before a0 Z = true) (ws : List Jvm.Cond) (h0 : Heap) (n0 : Nat) (p1 : Int32) (A : Nat → Addr) (K : Nat → ClassId) (cs : Int32)  (b354_b352_b340_b326 : Addr) (k354_k352_k340_k326 : ClassId) (EN : own_St Z A K cs) (OL0 : Old Z n0 h0) (G_A_b354_b352_b340_b326 : Arv Z h0 b354_b352_b340_b326 k354_k352_k340_k326 .byte (3 : Int32) [(.int (51 : Int32)), (.int (46 : Int32)), (.int (51 : Int32))] (.int (0 : Int32))) :
    MetFree l own_m1 (head1 (Jvm.Cond.code own_m1 jdk_43_method_13_code 3 (some .boolean) :: ws) ({ frames := 0, cells := 0, slots := 0, locals := 0 } : Room)) (fun a U => a = #[(.ref (A 9)), (.ref b354_b352_b340_b326)] ∧ Z.Warmed39 U.vm ∧ U.heap = h0) (fun _ _ _ _ _ => True) (fun _ U o U' => ∃ v L, o = .returned v ∧ (PQ (some (.int (0 : Int32))) h0 n0) v U'.heap L ∧ FrameEnd U o U' L ({ frames := 0, cells := 0, slots := 0, locals := 0 } : Room).cells ({ frames := 0, cells := 0, slots := 0, locals := 0 } : Room).slots) := by
  refine MetFree.of_bodySF (plainFor_of_name own_pn3) hisR ?_
  intro p e s m args below meth c s₁ Bd hml0 hP hK
  obtain ⟨rfl, hZ, hh⟩ := hP
  have hx := Bd.exec
  have hby := Bd.bytes
  have hml : c.maxLocals = 3 := hml0
  have hown : s.vm.findClass "java/lang/StringLatin1" = some m.cls := findClass_of_methodNamed Bd.named
  have hnm := (name_of_methodNamed Bd.named Bd.method).1
  have X0 : Stand p l e ({ frames := 0, cells := 0, slots := 0, locals := 0 } : Room) s m #[(.ref (A 9)), (.ref b354_b352_b340_b326)] below meth c s₁ [] 0 0 := Stand.of_body Bd
  have e0 : s₁.heap = h0 := by rw [← hh, Bd.state]; rfl
  have N0 := Fr.nil n0
  have pre0 : ∀ t, Steps p.tables e below (s₁.setTop (mkF m 0 #[.val (.ref (A 9)), .val (.ref b354_b352_b340_b326), .unset] [])) t → Steps p.tables e below (s₁.setTop (entryFrame m #[(.ref (A 9)), (.ref b354_b352_b340_b326)] 3)) t := fun t k => castTop (own_ef_rm45 m p1 A K cs b354_b352_b340_b326 k354_k352_k340_k326) k
  have KK0 : Keep h0 h0 [] := Keep.refl _ _
  obtain ⟨cl370, Ar370, -, Sz370, Nn370, -, -⟩ := (id (EN.2.2.1.2.2.2.2.1.ext OL0.2))
  obtain ⟨cl371, Ar371, -, Sz371, Nn371, -, -⟩ := (id G_A_b354_b352_b340_b326)
  obtain ⟨cl372, Ar372, -, Sz372, Nn372, -, -⟩ := (id (EN.2.2.1.2.2.2.2.1.ext OL0.2))
  obtain ⟨cl373, Ar373, q373, Sz373, Nn373, Hh373, Gg373⟩ := (id (EN.2.2.1.2.2.2.2.1.ext OL0.2))
  have hin373 : ¬ ((0 : Int32) < 0 ∨ cl373.slots.size ≤ ((0 : Int32)).toNatClampNeg) := inb_of Sz373 ⟨by decide, by decide⟩
  have hat373 : cl373.slots[((0 : Int32)).toNatClampNeg]? = some (.int (51 : Int32)) := Has.at Hh373 hin373 rfl
  obtain ⟨cl374, Ar374, q374, Sz374, Nn374, Hh374, Gg374⟩ := (id G_A_b354_b352_b340_b326)
  have hin374 : ¬ ((0 : Int32) < 0 ∨ cl374.slots.size ≤ ((0 : Int32)).toNatClampNeg) := inb_of Sz374 ⟨by decide, by decide⟩
  have hat374 : cl374.slots[((0 : Int32)).toNatClampNeg]? = some (.int (51 : Int32)) := Has.at Hh374 hin374 rfl
  obtain ⟨cl375, Ar375, -, Sz375, Nn375, -, -⟩ := (id (EN.2.2.1.2.2.2.2.1.ext OL0.2))
  obtain ⟨cl376, Ar376, q376, Sz376, Nn376, Hh376, Gg376⟩ := (id (EN.2.2.1.2.2.2.2.1.ext OL0.2))
  have hin376 : ¬ ((1 : Int32) < 0 ∨ cl376.slots.size ≤ ((1 : Int32)).toNatClampNeg) := inb_of Sz376 ⟨by decide, by decide⟩
  have hat376 : cl376.slots[((1 : Int32)).toNatClampNeg]? = some (.int (46 : Int32)) := Has.at Hh376 hin376 rfl
  obtain ⟨cl377, Ar377, q377, Sz377, Nn377, Hh377, Gg377⟩ := (id G_A_b354_b352_b340_b326)
  have hin377 : ¬ ((1 : Int32) < 0 ∨ cl377.slots.size ≤ ((1 : Int32)).toNatClampNeg) := inb_of Sz377 ⟨by decide, by decide⟩
  have hat377 : cl377.slots[((1 : Int32)).toNatClampNeg]? = some (.int (46 : Int32)) := Has.at Hh377 hin377 rfl
  obtain ⟨cl378, Ar378, -, Sz378, Nn378, -, -⟩ := (id (EN.2.2.1.2.2.2.2.1.ext OL0.2))
  obtain ⟨cl379, Ar379, q379, Sz379, Nn379, Hh379, Gg379⟩ := (id (EN.2.2.1.2.2.2.2.1.ext OL0.2))
  have hin379 : ¬ ((2 : Int32) < 0 ∨ cl379.slots.size ≤ ((2 : Int32)).toNatClampNeg) := inb_of Sz379 ⟨by decide, by decide⟩
  have hat379 : cl379.slots[((2 : Int32)).toNatClampNeg]? = some (.int (48 : Int32)) := Has.at Hh379 hin379 rfl
  obtain ⟨cl380, Ar380, q380, Sz380, Nn380, Hh380, Gg380⟩ := (id G_A_b354_b352_b340_b326)
  have hin380 : ¬ ((2 : Int32) < 0 ∨ cl380.slots.size ≤ ((2 : Int32)).toNatClampNeg) := inb_of Sz380 ⟨by decide, by decide⟩
  have hat380 : cl380.slots[((2 : Int32)).toNatClampNeg]? = some (.int (51 : Int32)) := Has.at Hh380 hin380 rfl
  obtain ⟨fs, hr, hrun, hended, hW, hsame⟩ := X0.leave (v := some (.int (0 : Int32))) (fun h => by rw [Bd.returns] at h; cases h)
  refine ⟨_, _, pre0 _ ?_, hrun, hended, _, _, rfl, ?_, ⟨_, rfl⟩, hW, hsame.mono (by decide) (by decide)⟩
  · show Steps p.tables e below (s₁.setTop (mkF m 0 #[.val (.ref (A 9)), .val (.ref b354_b352_b340_b326), .unset] [])) _
    refine XS.aloadN X0.here hx rfl (hb hby own_d_jdk_43_method_13_code_0) rfl rfl ?_
    show Steps p.tables e below (s₁.setTop (mkF m 1 #[.val (.ref (A 9)), .val (.ref b354_b352_b340_b326), .unset] [(.ref (A 9))])) _
    refine X0.arraylength hx (by rw [e0]; exact Ar370.1) (State.isArrayOf_alike hZ.alike Ar370.2.1) (g := (mkF m 1 #[.val (.ref (A 9)), .val (.ref b354_b352_b340_b326), .unset] [(.ref (A 9))])) rfl rfl (hb hby own_d_jdk_43_method_13_code_1) _ ?_
    rw [len_of Sz370 Nn370]
    show Steps p.tables e below (s₁.setTop (mkF m 2 #[.val (.ref (A 9)), .val (.ref b354_b352_b340_b326), .unset] [(.int (3 : Int32))])) _
    refine XS.aloadN X0.here hx rfl (hb hby own_d_jdk_43_method_13_code_2) rfl rfl ?_
    show Steps p.tables e below (s₁.setTop (mkF m 3 #[.val (.ref (A 9)), .val (.ref b354_b352_b340_b326), .unset] [(.ref b354_b352_b340_b326), (.int (3 : Int32))])) _
    refine X0.arraylength hx (by rw [e0]; exact Ar371.1) (State.isArrayOf_alike hZ.alike Ar371.2.1) (g := (mkF m 3 #[.val (.ref (A 9)), .val (.ref b354_b352_b340_b326), .unset] [(.ref b354_b352_b340_b326), (.int (3 : Int32))])) rfl rfl (hb hby own_d_jdk_43_method_13_code_3) _ ?_
    rw [len_of Sz371 Nn371]
    show Steps p.tables e below (s₁.setTop (mkF m 4 #[.val (.ref (A 9)), .val (.ref b354_b352_b340_b326), .unset] [(.int (3 : Int32)), (.int (3 : Int32))])) _
    refine XS.icmpNo X0.here hx rfl (hb hby own_d_jdk_43_method_13_code_4) rfl (teq (by decide : (3 : Int32) = (3 : Int32))).2 ?_
    show Steps p.tables e below (s₁.setTop (mkF m 7 #[.val (.ref (A 9)), .val (.ref b354_b352_b340_b326), .unset] [])) _
    refine XS.iconst X0.here hx rfl (hb hby own_d_jdk_43_method_13_code_7) ?_
    show Steps p.tables e below (s₁.setTop (mkF m 8 #[.val (.ref (A 9)), .val (.ref b354_b352_b340_b326), .unset] [(.int (0 : Int32))])) _
    refine XS.istoreN X0.here hx rfl (hb hby own_d_jdk_43_method_13_code_8) rfl (l' := #[.val (.ref (A 9)), .val (.ref b354_b352_b340_b326), .val (.int (0 : Int32))]) rfl ?_
    show Steps p.tables e below (s₁.setTop (mkF m 9 #[.val (.ref (A 9)), .val (.ref b354_b352_b340_b326), .val (.int (0 : Int32))] [])) _
    refine XS.iloadN X0.here hx rfl (hb hby own_d_jdk_43_method_13_code_9) rfl ?_
    show Steps p.tables e below (s₁.setTop (mkF m 10 #[.val (.ref (A 9)), .val (.ref b354_b352_b340_b326), .val (.int (0 : Int32))] [(.int (0 : Int32))])) _
    refine XS.aloadN X0.here hx rfl (hb hby own_d_jdk_43_method_13_code_10) rfl rfl ?_
    show Steps p.tables e below (s₁.setTop (mkF m 11 #[.val (.ref (A 9)), .val (.ref b354_b352_b340_b326), .val (.int (0 : Int32))] [(.ref (A 9)), (.int (0 : Int32))])) _
    refine X0.arraylength hx (by rw [e0]; exact Ar372.1) (State.isArrayOf_alike hZ.alike Ar372.2.1) (g := (mkF m 11 #[.val (.ref (A 9)), .val (.ref b354_b352_b340_b326), .val (.int (0 : Int32))] [(.ref (A 9)), (.int (0 : Int32))])) rfl rfl (hb hby own_d_jdk_43_method_13_code_11) _ ?_
    rw [len_of Sz372 Nn372]
    show Steps p.tables e below (s₁.setTop (mkF m 12 #[.val (.ref (A 9)), .val (.ref b354_b352_b340_b326), .val (.int (0 : Int32))] [(.int (3 : Int32)), (.int (0 : Int32))])) _
    refine XS.icmpNo X0.here hx rfl (hb hby own_d_jdk_43_method_13_code_12) rfl (tlt (by decide : (0 : Int32) < (3 : Int32))).2.1 ?_
    show Steps p.tables e below (s₁.setTop (mkF m 15 #[.val (.ref (A 9)), .val (.ref b354_b352_b340_b326), .val (.int (0 : Int32))] [])) _
    refine XS.aloadN X0.here hx rfl (hb hby own_d_jdk_43_method_13_code_15) rfl rfl ?_
    show Steps p.tables e below (s₁.setTop (mkF m 16 #[.val (.ref (A 9)), .val (.ref b354_b352_b340_b326), .val (.int (0 : Int32))] [(.ref (A 9))])) _
    refine XS.iloadN X0.here hx rfl (hb hby own_d_jdk_43_method_13_code_16) rfl ?_
    show Steps p.tables e below (s₁.setTop (mkF m 17 #[.val (.ref (A 9)), .val (.ref b354_b352_b340_b326), .val (.int (0 : Int32))] [(.int (0 : Int32)), (.ref (A 9))])) _
    refine X0.baloadBytes hx (j := (0 : Int32)) (v := (.int (51 : Int32))) (by rw [e0]; exact Ar373.1) (State.isArrayOf_alike hZ.alike Ar373.2.1) Ar373.2.2 hin373 hat373 (g := (mkF m 17 #[.val (.ref (A 9)), .val (.ref b354_b352_b340_b326), .val (.int (0 : Int32))] [(.int (0 : Int32)), (.ref (A 9))])) rfl rfl (hb hby own_d_jdk_43_method_13_code_17) _ ?_
    show Steps p.tables e below (s₁.setTop (mkF m 18 #[.val (.ref (A 9)), .val (.ref b354_b352_b340_b326), .val (.int (0 : Int32))] [(.int (51 : Int32))])) _
    refine XS.aloadN X0.here hx rfl (hb hby own_d_jdk_43_method_13_code_18) rfl rfl ?_
    show Steps p.tables e below (s₁.setTop (mkF m 19 #[.val (.ref (A 9)), .val (.ref b354_b352_b340_b326), .val (.int (0 : Int32))] [(.ref b354_b352_b340_b326), (.int (51 : Int32))])) _
    refine XS.iloadN X0.here hx rfl (hb hby own_d_jdk_43_method_13_code_19) rfl ?_
    show Steps p.tables e below (s₁.setTop (mkF m 20 #[.val (.ref (A 9)), .val (.ref b354_b352_b340_b326), .val (.int (0 : Int32))] [(.int (0 : Int32)), (.ref b354_b352_b340_b326), (.int (51 : Int32))])) _
    refine X0.baloadBytes hx (j := (0 : Int32)) (v := (.int (51 : Int32))) (by rw [e0]; exact Ar374.1) (State.isArrayOf_alike hZ.alike Ar374.2.1) Ar374.2.2 hin374 hat374 (g := (mkF m 20 #[.val (.ref (A 9)), .val (.ref b354_b352_b340_b326), .val (.int (0 : Int32))] [(.int (0 : Int32)), (.ref b354_b352_b340_b326), (.int (51 : Int32))])) rfl rfl (hb hby own_d_jdk_43_method_13_code_20) _ ?_
    show Steps p.tables e below (s₁.setTop (mkF m 21 #[.val (.ref (A 9)), .val (.ref b354_b352_b340_b326), .val (.int (0 : Int32))] [(.int (51 : Int32)), (.int (51 : Int32))])) _
    refine XS.icmpYes X0.here hx rfl (pc0 := 21) (pc' := 26) rfl (hb hby own_d_jdk_43_method_13_code_21) rfl (teq (by decide : (51 : Int32) = (51 : Int32))).1 (by decide) (by decide) ?_
    show Steps p.tables e below (s₁.setTop (mkF m 26 #[.val (.ref (A 9)), .val (.ref b354_b352_b340_b326), .val (.int (0 : Int32))] [])) _
    refine XS.iinc X0.here hx rfl (hb hby own_d_jdk_43_method_13_code_26) rfl (l' := #[.val (.ref (A 9)), .val (.ref b354_b352_b340_b326), .val (.int (1 : Int32))]) rfl ?_
    show Steps p.tables e below (s₁.setTop (mkF m 29 #[.val (.ref (A 9)), .val (.ref b354_b352_b340_b326), .val (.int (1 : Int32))] [])) _
    refine XS.goto X0.here hx rfl (pc0 := 29) (pc' := 9) rfl (hb hby own_d_jdk_43_method_13_code_29) (by decide) (by decide) ?_
    show Steps p.tables e below (s₁.setTop (mkF m 9 #[.val (.ref (A 9)), .val (.ref b354_b352_b340_b326), .val (.int (1 : Int32))] [])) _
    refine XS.iloadN X0.here hx rfl (hb hby own_d_jdk_43_method_13_code_9) rfl ?_
    show Steps p.tables e below (s₁.setTop (mkF m 10 #[.val (.ref (A 9)), .val (.ref b354_b352_b340_b326), .val (.int (1 : Int32))] [(.int (1 : Int32))])) _
    refine XS.aloadN X0.here hx rfl (hb hby own_d_jdk_43_method_13_code_10) rfl rfl ?_
    show Steps p.tables e below (s₁.setTop (mkF m 11 #[.val (.ref (A 9)), .val (.ref b354_b352_b340_b326), .val (.int (1 : Int32))] [(.ref (A 9)), (.int (1 : Int32))])) _
    refine X0.arraylength hx (by rw [e0]; exact Ar375.1) (State.isArrayOf_alike hZ.alike Ar375.2.1) (g := (mkF m 11 #[.val (.ref (A 9)), .val (.ref b354_b352_b340_b326), .val (.int (1 : Int32))] [(.ref (A 9)), (.int (1 : Int32))])) rfl rfl (hb hby own_d_jdk_43_method_13_code_11) _ ?_
    rw [len_of Sz375 Nn375]
    show Steps p.tables e below (s₁.setTop (mkF m 12 #[.val (.ref (A 9)), .val (.ref b354_b352_b340_b326), .val (.int (1 : Int32))] [(.int (3 : Int32)), (.int (1 : Int32))])) _
    refine XS.icmpNo X0.here hx rfl (hb hby own_d_jdk_43_method_13_code_12) rfl (tlt (by decide : (1 : Int32) < (3 : Int32))).2.1 ?_
    show Steps p.tables e below (s₁.setTop (mkF m 15 #[.val (.ref (A 9)), .val (.ref b354_b352_b340_b326), .val (.int (1 : Int32))] [])) _
    refine XS.aloadN X0.here hx rfl (hb hby own_d_jdk_43_method_13_code_15) rfl rfl ?_
    show Steps p.tables e below (s₁.setTop (mkF m 16 #[.val (.ref (A 9)), .val (.ref b354_b352_b340_b326), .val (.int (1 : Int32))] [(.ref (A 9))])) _
    refine XS.iloadN X0.here hx rfl (hb hby own_d_jdk_43_method_13_code_16) rfl ?_
    show Steps p.tables e below (s₁.setTop (mkF m 17 #[.val (.ref (A 9)), .val (.ref b354_b352_b340_b326), .val (.int (1 : Int32))] [(.int (1 : Int32)), (.ref (A 9))])) _
    refine X0.baloadBytes hx (j := (1 : Int32)) (v := (.int (46 : Int32))) (by rw [e0]; exact Ar376.1) (State.isArrayOf_alike hZ.alike Ar376.2.1) Ar376.2.2 hin376 hat376 (g := (mkF m 17 #[.val (.ref (A 9)), .val (.ref b354_b352_b340_b326), .val (.int (1 : Int32))] [(.int (1 : Int32)), (.ref (A 9))])) rfl rfl (hb hby own_d_jdk_43_method_13_code_17) _ ?_
    show Steps p.tables e below (s₁.setTop (mkF m 18 #[.val (.ref (A 9)), .val (.ref b354_b352_b340_b326), .val (.int (1 : Int32))] [(.int (46 : Int32))])) _
    refine XS.aloadN X0.here hx rfl (hb hby own_d_jdk_43_method_13_code_18) rfl rfl ?_
    show Steps p.tables e below (s₁.setTop (mkF m 19 #[.val (.ref (A 9)), .val (.ref b354_b352_b340_b326), .val (.int (1 : Int32))] [(.ref b354_b352_b340_b326), (.int (46 : Int32))])) _
    refine XS.iloadN X0.here hx rfl (hb hby own_d_jdk_43_method_13_code_19) rfl ?_
    show Steps p.tables e below (s₁.setTop (mkF m 20 #[.val (.ref (A 9)), .val (.ref b354_b352_b340_b326), .val (.int (1 : Int32))] [(.int (1 : Int32)), (.ref b354_b352_b340_b326), (.int (46 : Int32))])) _
    refine X0.baloadBytes hx (j := (1 : Int32)) (v := (.int (46 : Int32))) (by rw [e0]; exact Ar377.1) (State.isArrayOf_alike hZ.alike Ar377.2.1) Ar377.2.2 hin377 hat377 (g := (mkF m 20 #[.val (.ref (A 9)), .val (.ref b354_b352_b340_b326), .val (.int (1 : Int32))] [(.int (1 : Int32)), (.ref b354_b352_b340_b326), (.int (46 : Int32))])) rfl rfl (hb hby own_d_jdk_43_method_13_code_20) _ ?_
    show Steps p.tables e below (s₁.setTop (mkF m 21 #[.val (.ref (A 9)), .val (.ref b354_b352_b340_b326), .val (.int (1 : Int32))] [(.int (46 : Int32)), (.int (46 : Int32))])) _
    refine XS.icmpYes X0.here hx rfl (pc0 := 21) (pc' := 26) rfl (hb hby own_d_jdk_43_method_13_code_21) rfl (teq (by decide : (46 : Int32) = (46 : Int32))).1 (by decide) (by decide) ?_
    show Steps p.tables e below (s₁.setTop (mkF m 26 #[.val (.ref (A 9)), .val (.ref b354_b352_b340_b326), .val (.int (1 : Int32))] [])) _
    refine XS.iinc X0.here hx rfl (hb hby own_d_jdk_43_method_13_code_26) rfl (l' := #[.val (.ref (A 9)), .val (.ref b354_b352_b340_b326), .val (.int (2 : Int32))]) rfl ?_
    show Steps p.tables e below (s₁.setTop (mkF m 29 #[.val (.ref (A 9)), .val (.ref b354_b352_b340_b326), .val (.int (2 : Int32))] [])) _
    refine XS.goto X0.here hx rfl (pc0 := 29) (pc' := 9) rfl (hb hby own_d_jdk_43_method_13_code_29) (by decide) (by decide) ?_
    show Steps p.tables e below (s₁.setTop (mkF m 9 #[.val (.ref (A 9)), .val (.ref b354_b352_b340_b326), .val (.int (2 : Int32))] [])) _
    refine XS.iloadN X0.here hx rfl (hb hby own_d_jdk_43_method_13_code_9) rfl ?_
    show Steps p.tables e below (s₁.setTop (mkF m 10 #[.val (.ref (A 9)), .val (.ref b354_b352_b340_b326), .val (.int (2 : Int32))] [(.int (2 : Int32))])) _
    refine XS.aloadN X0.here hx rfl (hb hby own_d_jdk_43_method_13_code_10) rfl rfl ?_
    show Steps p.tables e below (s₁.setTop (mkF m 11 #[.val (.ref (A 9)), .val (.ref b354_b352_b340_b326), .val (.int (2 : Int32))] [(.ref (A 9)), (.int (2 : Int32))])) _
    refine X0.arraylength hx (by rw [e0]; exact Ar378.1) (State.isArrayOf_alike hZ.alike Ar378.2.1) (g := (mkF m 11 #[.val (.ref (A 9)), .val (.ref b354_b352_b340_b326), .val (.int (2 : Int32))] [(.ref (A 9)), (.int (2 : Int32))])) rfl rfl (hb hby own_d_jdk_43_method_13_code_11) _ ?_
    rw [len_of Sz378 Nn378]
    show Steps p.tables e below (s₁.setTop (mkF m 12 #[.val (.ref (A 9)), .val (.ref b354_b352_b340_b326), .val (.int (2 : Int32))] [(.int (3 : Int32)), (.int (2 : Int32))])) _
    refine XS.icmpNo X0.here hx rfl (hb hby own_d_jdk_43_method_13_code_12) rfl (tlt (by decide : (2 : Int32) < (3 : Int32))).2.1 ?_
    show Steps p.tables e below (s₁.setTop (mkF m 15 #[.val (.ref (A 9)), .val (.ref b354_b352_b340_b326), .val (.int (2 : Int32))] [])) _
    refine XS.aloadN X0.here hx rfl (hb hby own_d_jdk_43_method_13_code_15) rfl rfl ?_
    show Steps p.tables e below (s₁.setTop (mkF m 16 #[.val (.ref (A 9)), .val (.ref b354_b352_b340_b326), .val (.int (2 : Int32))] [(.ref (A 9))])) _
    refine XS.iloadN X0.here hx rfl (hb hby own_d_jdk_43_method_13_code_16) rfl ?_
    show Steps p.tables e below (s₁.setTop (mkF m 17 #[.val (.ref (A 9)), .val (.ref b354_b352_b340_b326), .val (.int (2 : Int32))] [(.int (2 : Int32)), (.ref (A 9))])) _
    refine X0.baloadBytes hx (j := (2 : Int32)) (v := (.int (48 : Int32))) (by rw [e0]; exact Ar379.1) (State.isArrayOf_alike hZ.alike Ar379.2.1) Ar379.2.2 hin379 hat379 (g := (mkF m 17 #[.val (.ref (A 9)), .val (.ref b354_b352_b340_b326), .val (.int (2 : Int32))] [(.int (2 : Int32)), (.ref (A 9))])) rfl rfl (hb hby own_d_jdk_43_method_13_code_17) _ ?_
    show Steps p.tables e below (s₁.setTop (mkF m 18 #[.val (.ref (A 9)), .val (.ref b354_b352_b340_b326), .val (.int (2 : Int32))] [(.int (48 : Int32))])) _
    refine XS.aloadN X0.here hx rfl (hb hby own_d_jdk_43_method_13_code_18) rfl rfl ?_
    show Steps p.tables e below (s₁.setTop (mkF m 19 #[.val (.ref (A 9)), .val (.ref b354_b352_b340_b326), .val (.int (2 : Int32))] [(.ref b354_b352_b340_b326), (.int (48 : Int32))])) _
    refine XS.iloadN X0.here hx rfl (hb hby own_d_jdk_43_method_13_code_19) rfl ?_
    show Steps p.tables e below (s₁.setTop (mkF m 20 #[.val (.ref (A 9)), .val (.ref b354_b352_b340_b326), .val (.int (2 : Int32))] [(.int (2 : Int32)), (.ref b354_b352_b340_b326), (.int (48 : Int32))])) _
    refine X0.baloadBytes hx (j := (2 : Int32)) (v := (.int (51 : Int32))) (by rw [e0]; exact Ar380.1) (State.isArrayOf_alike hZ.alike Ar380.2.1) Ar380.2.2 hin380 hat380 (g := (mkF m 20 #[.val (.ref (A 9)), .val (.ref b354_b352_b340_b326), .val (.int (2 : Int32))] [(.int (2 : Int32)), (.ref b354_b352_b340_b326), (.int (48 : Int32))])) rfl rfl (hb hby own_d_jdk_43_method_13_code_20) _ ?_
    show Steps p.tables e below (s₁.setTop (mkF m 21 #[.val (.ref (A 9)), .val (.ref b354_b352_b340_b326), .val (.int (2 : Int32))] [(.int (51 : Int32)), (.int (48 : Int32))])) _
    refine XS.icmpNo X0.here hx rfl (hb hby own_d_jdk_43_method_13_code_21) rfl (feq (by decide : ¬ ((48 : Int32) = (51 : Int32)))).1 ?_
    show Steps p.tables e below (s₁.setTop (mkF m 24 #[.val (.ref (A 9)), .val (.ref b354_b352_b340_b326), .val (.int (2 : Int32))] [])) _
    refine XS.iconst X0.here hx rfl (hb hby own_d_jdk_43_method_13_code_24) ?_
    show Steps p.tables e below (s₁.setTop (mkF m 25 #[.val (.ref (A 9)), .val (.ref b354_b352_b340_b326), .val (.int (2 : Int32))] [(.int (0 : Int32))])) _
    exact retN X0 hx (t := .boolean) Bd.returns (by simp) (hb hby own_d_jdk_43_method_13_code_25) hr
  · show PQ (some (.int (0 : Int32))) h0 n0 _ s₁.heap _
    rw [e0]
    exact ⟨rfl, N0, rfl⟩
theorem own_ef_rm44 (m : MethodId) (p1 : Int32) (A : Nat → Addr) (K : Nat → ClassId) (cs : Int32)  (b322 : Addr) (b354_b352_b340_b326 : Addr) (k354_k352_k340_k326 : ClassId) : entryFrame m #[(.ref (A 5)), (.ref b322)] 3 = mkF m 0 #[.val (.ref (A 5)), .val (.ref b322), .unset] [] := by first | (simp [entryFrame, mkF, argsToLocals, Value.category, maxLocals]; done) | rfl
set_option maxRecDepth 65536 in
set_option maxHeartbeats 40000000 in
theorem rm44 (l : Launch) (Z : State) (a0 : Array Value) (hw : ∀ d ∈ tables_1, d.before a0 Z = true) (ws : List Jvm.Cond) (h0 : Heap) (n0 : Nat) (p1 : Int32) (A : Nat → Addr) (K : Nat → ClassId) (cs : Int32)  (b322 : Addr) (b354_b352_b340_b326 : Addr) (k354_k352_k340_k326 : ClassId) (EN : own_St Z A K cs) (OL0 : Old Z n0 h0) (G_F_b322_java_lang_String_value : Fld Z h0 b322 "java/lang/String" "value" "[B" (.ref b354_b352_b340_b326)) (G_A_b354_b352_b340_b326 : Arv Z h0 b354_b352_b340_b326 k354_k352_k340_k326 .byte (3 : Int32) [(.int (51 : Int32)), (.int (46 : Int32)), (.int (51 : Int32))] (.int (0 : Int32))) (G_E_b322 : Exa Z h0 b322 "java/lang/String") (G_F_b322_java_lang_String_coder : Fld Z h0 b322 "java/lang/String" "coder" "B" (.int (0 : Int32))) :
    MetFree l own_m0 (head1 (Jvm.Cond.code own_m0 jdk_42_method_66_code 3 (some .boolean) :: ws) ({ frames := 1, cells := 0, slots := 0, locals := 14 } : Room)) (fun a U => a = #[(.ref (A 5)), (.ref b322)] ∧ Z.Warmed39 U.vm ∧ U.heap = h0) (fun _ _ _ _ _ => True) (fun _ U o U' => ∃ v L, o = .returned v ∧ (PQ (some (.int (0 : Int32))) h0 n0) v U'.heap L ∧ FrameEnd U o U' L ({ frames := 1, cells := 0, slots := 0, locals := 14 } : Room).cells ({ frames := 1, cells := 0, slots := 0, locals := 14 } : Room).slots) := by
  refine MetFree.of_bodySF (plainFor_of_name own_pn1) hisR ?_
  intro p e s m args below meth c s₁ Bd hml0 hP hK
  obtain ⟨rfl, hZ, hh⟩ := hP
  have hx := Bd.exec
  have hby := Bd.bytes
  have hml : c.maxLocals = 3 := hml0
  have hown : s.vm.findClass "java/lang/String" = some m.cls := findClass_of_methodNamed Bd.named
  have hnm := (name_of_methodNamed Bd.named Bd.method).1
  have X0 : Stand p l e ({ frames := 1, cells := 0, slots := 0, locals := 14 } : Room) s m #[(.ref (A 5)), (.ref b322)] below meth c s₁ [] 0 0 := Stand.of_body Bd
  have e0 : s₁.heap = h0 := by rw [← hh, Bd.state]; rfl
  have N0 := Fr.nil n0
  have pre0 : ∀ t, Steps p.tables e below (s₁.setTop (mkF m 0 #[.val (.ref (A 5)), .val (.ref b322), .unset] [])) t → Steps p.tables e below (s₁.setTop (entryFrame m #[(.ref (A 5)), (.ref b322)] 3)) t := fun t k => castTop (own_ef_rm44 m p1 A K cs b322 b354_b352_b340_b326 k354_k352_k340_k326) k
  have KK0 : Keep h0 h0 [] := Keep.refl _ _
  obtain ⟨T363, X363, e363, st363⟩ := instY X0 hx hZ hown (hw _ (List.mem_of_getElem? (i := 61) rfl)) e0 (Ins.self G_E_b322) (g := (mkF m 8 #[.val (.ref (A 5)), .val (.ref b322), .unset] [(.ref b322)])) rfl rfl (hb hby own_d_jdk_42_method_66_code_8)
  obtain ⟨T364, X364, e364, st364⟩ := castY X363 hx hZ hown (hw _ (List.mem_of_getElem? (i := 61) rfl)) e363 (Ins.self G_E_b322) (g := (mkF m 15 #[.val (.ref (A 5)), .val (.ref b322), .unset] [(.ref b322)])) rfl rfl (hb hby own_d_jdk_42_method_66_code_15)
  obtain ⟨T365, X365, e365, st365⟩ := getS2 X364 hx hZ hown (host := "") (Or.inl (hw _ (List.mem_of_getElem? (i := 14) rfl))) Via.refl e364 (EN.2.2.2.1.2.2.2.1.ext OL0.2) (g := (mkF m 19 #[.val (.ref (A 5)), .val (.ref b322), .val (.ref b322)] [])) rfl (hb hby own_d_jdk_42_method_66_code_19)
  obtain ⟨T366, X366, e366, st366⟩ := getF X365 hx hZ hown (host := "") (Or.inl (hw _ (List.mem_of_getElem? (i := 26) rfl))) Via.refl e365 (EN.2.2.2.1.2.2.2.2.2.2.1.ext OL0.2) (g := (mkF m 26 #[.val (.ref (A 5)), .val (.ref b322), .val (.ref b322)] [(.ref (A 5))])) rfl rfl (hb hby own_d_jdk_42_method_66_code_26)
  obtain ⟨T367, X367, e367, st367⟩ := getF X366 hx hZ hown (host := "") (Or.inl (hw _ (List.mem_of_getElem? (i := 26) rfl))) Via.refl e366 G_F_b322_java_lang_String_coder (g := (mkF m 30 #[.val (.ref (A 5)), .val (.ref b322), .val (.ref b322)] [(.ref b322), (.int (0 : Int32))])) rfl rfl (hb hby own_d_jdk_42_method_66_code_30)
  obtain ⟨T368, X368, e368, st368⟩ := getF X367 hx hZ hown (host := "") (Or.inl (hw _ (List.mem_of_getElem? (i := 28) rfl))) Via.refl e367 (EN.2.2.1.2.2.2.1.ext OL0.2) (g := (mkF m 37 #[.val (.ref (A 5)), .val (.ref b322), .val (.ref b322)] [(.ref (A 5))])) rfl rfl (hb hby own_d_jdk_42_method_66_code_37)
  obtain ⟨T369, X369, e369, st369⟩ := getF X368 hx hZ hown (host := "") (Or.inl (hw _ (List.mem_of_getElem? (i := 28) rfl))) Via.refl e368 G_F_b322_java_lang_String_value (g := (mkF m 41 #[.val (.ref (A 5)), .val (.ref b322), .val (.ref b322)] [(.ref b322), (.ref (A 9))])) rfl rfl (hb hby own_d_jdk_42_method_66_code_41)
  obtain ⟨_, _, ⟨T381, L381, k381, n381⟩, -, X381, ⟨Lc381, hQ381, l381, y381, z381⟩, st381⟩ := Jvm.LawKit.callS X369 hx (y := own_m1) hown (mvT hZ (hw _ (List.mem_of_getElem? (i := 62) rfl))) (mvT hZ (hw _ (List.mem_of_getElem? (i := 63) rfl))) (mvT hZ (hw _ (List.mem_of_getElem? (i := 64) rfl))) (mvT hZ (hw _ (List.mem_of_getElem? (i := 65) rfl))) (by decide) (backOf (W := 0) (rm45 l Z a0 hw [] h0 n0 p1 A K cs b354_b352_b340_b326 k354_k352_k340_k326 EN OL0 G_A_b354_b352_b340_b326) hZ (hw _ (List.mem_of_getElem? (i := 65) rfl)) (hw _ (List.mem_of_getElem? (i := 64) rfl)) (by decide) (by decide)) (g := (mkF m 44 #[.val (.ref (A 5)), .val (.ref b322), .val (.ref b322)] [(.ref b354_b352_b340_b326), (.ref (A 9))])) rfl (by rw [hml]; rfl) (argsL := [(.ref (A 9)), (.ref b354_b352_b340_b326)]) (rest := []) (lenOf own_pd6 rfl) rfl (by show 2 * 0 + _ ≤ _; exact Nat.le_of_eq rfl) (hb hby own_d_jdk_42_method_66_code_44) (fun _ _ => ⟨rfl, e369, (by decide : 0 + 0 ≤ _), (by decide : 0 + 0 ≤ _)⟩)
  dsimp only [Pt.U, Pt.locs, Pt.cells, Pt.slots] at X381 l381 y381 z381 st381 hQ381
  subst l381 y381 z381
  obtain ⟨rfl, N381q, e381⟩ := hQ381
  have N381 := Fr.app N0 N381q
  obtain ⟨fs, hr, hrun, hended, hW, hsame⟩ := X381.leave (v := some (.int (0 : Int32))) (fun h => by rw [Bd.returns] at h; cases h)
  refine ⟨_, _, pre0 _ ?_, hrun, hended, _, _, rfl, ?_, ⟨_, rfl⟩, hW, hsame.mono (by decide) (by decide)⟩
  · show Steps p.tables e below (s₁.setTop (mkF m 0 #[.val (.ref (A 5)), .val (.ref b322), .unset] [])) _
    refine XS.aloadN X0.here hx rfl (hb hby own_d_jdk_42_method_66_code_0) rfl rfl ?_
    show Steps p.tables e below (s₁.setTop (mkF m 1 #[.val (.ref (A 5)), .val (.ref b322), .unset] [(.ref (A 5))])) _
    refine XS.aloadN X0.here hx rfl (hb hby own_d_jdk_42_method_66_code_1) rfl rfl ?_
    show Steps p.tables e below (s₁.setTop (mkF m 2 #[.val (.ref (A 5)), .val (.ref b322), .unset] [(.ref b322), (.ref (A 5))])) _
    refine Jvm.RoadKit.acmp (g := (mkF m 2 #[.val (.ref (A 5)), .val (.ref b322), .unset] [(.ref b322), (.ref (A 5))])) X0 hx rfl rfl rfl (pc0 := 2) (pc' := 7) (same := false) rfl (hb hby own_d_jdk_42_method_66_code_2) rfl (decide_eq_false fun q => (Fld.ne (EN.2.2.1.2.2.2.1.ext OL0.2) G_F_b322_java_lang_String_value (fun h => arv_ne (EN.2.2.1.2.2.2.2.1.ext OL0.2) G_A_b354_b352_b340_b326 (Or.inr ⟨2, by decide, fun h => by injection h with h; exact absurd h (by decide)⟩) (Value.ref.inj h))) (Value.ref.inj q)) (by decide) (by decide) ?_
    show Steps p.tables e below (s₁.setTop (mkF m 7 #[.val (.ref (A 5)), .val (.ref b322), .unset] [])) _
    refine XS.aloadN X0.here hx rfl (hb hby own_d_jdk_42_method_66_code_7) rfl rfl ?_
    show Steps p.tables e below (s₁.setTop (mkF m 8 #[.val (.ref (A 5)), .val (.ref b322), .unset] [(.ref b322)])) _
    refine st363 _ ?_
    show Steps p.tables e below (T363.setTop (mkF m 11 #[.val (.ref (A 5)), .val (.ref b322), .unset] [(.int (1 : Int32))])) _
    refine XS.ifNo X363.here hx rfl (hb hby own_d_jdk_42_method_66_code_11) rfl ((if0 _ _).trans (feq (by decide : ¬ ((1 : Int32) = (0 : Int32)))).1) ?_
    show Steps p.tables e below (T363.setTop (mkF m 14 #[.val (.ref (A 5)), .val (.ref b322), .unset] [])) _
    refine XS.aloadN X363.here hx rfl (hb hby own_d_jdk_42_method_66_code_14) rfl rfl ?_
    show Steps p.tables e below (T363.setTop (mkF m 15 #[.val (.ref (A 5)), .val (.ref b322), .unset] [(.ref b322)])) _
    refine st364 _ ?_
    show Steps p.tables e below (T364.setTop (mkF m 18 #[.val (.ref (A 5)), .val (.ref b322), .unset] [(.ref b322)])) _
    refine XS.astoreN X364.here hx rfl (hb hby own_d_jdk_42_method_66_code_18) rfl rfl (l' := #[.val (.ref (A 5)), .val (.ref b322), .val (.ref b322)]) rfl ?_
    show Steps p.tables e below (T364.setTop (mkF m 19 #[.val (.ref (A 5)), .val (.ref b322), .val (.ref b322)] [])) _
    refine st365 _ ?_
    show Steps p.tables e below (T365.setTop (mkF m 22 #[.val (.ref (A 5)), .val (.ref b322), .val (.ref b322)] [(.int cs)])) _
    refine XS.ifNo X365.here hx rfl (hb hby own_d_jdk_42_method_66_code_22) rfl ((if0 _ _).trans (feq EN.2.2.2.1.2.2.2.2.1).1) ?_
    show Steps p.tables e below (T365.setTop (mkF m 25 #[.val (.ref (A 5)), .val (.ref b322), .val (.ref b322)] [])) _
    refine XS.aloadN X365.here hx rfl (hb hby own_d_jdk_42_method_66_code_25) rfl rfl ?_
    show Steps p.tables e below (T365.setTop (mkF m 26 #[.val (.ref (A 5)), .val (.ref b322), .val (.ref b322)] [(.ref (A 5))])) _
    refine st366 _ ?_
    show Steps p.tables e below (T366.setTop (mkF m 29 #[.val (.ref (A 5)), .val (.ref b322), .val (.ref b322)] [(.int (0 : Int32))])) _
    refine XS.aloadN X366.here hx rfl (hb hby own_d_jdk_42_method_66_code_29) rfl rfl ?_
    show Steps p.tables e below (T366.setTop (mkF m 30 #[.val (.ref (A 5)), .val (.ref b322), .val (.ref b322)] [(.ref b322), (.int (0 : Int32))])) _
    refine st367 _ ?_
    show Steps p.tables e below (T367.setTop (mkF m 33 #[.val (.ref (A 5)), .val (.ref b322), .val (.ref b322)] [(.int (0 : Int32)), (.int (0 : Int32))])) _
    refine XS.icmpNo X367.here hx rfl (hb hby own_d_jdk_42_method_66_code_33) rfl (teq (by decide : (0 : Int32) = (0 : Int32))).2 ?_
    show Steps p.tables e below (T367.setTop (mkF m 36 #[.val (.ref (A 5)), .val (.ref b322), .val (.ref b322)] [])) _
    refine XS.aloadN X367.here hx rfl (hb hby own_d_jdk_42_method_66_code_36) rfl rfl ?_
    show Steps p.tables e below (T367.setTop (mkF m 37 #[.val (.ref (A 5)), .val (.ref b322), .val (.ref b322)] [(.ref (A 5))])) _
    refine st368 _ ?_
    show Steps p.tables e below (T368.setTop (mkF m 40 #[.val (.ref (A 5)), .val (.ref b322), .val (.ref b322)] [(.ref (A 9))])) _
    refine XS.aloadN X368.here hx rfl (hb hby own_d_jdk_42_method_66_code_40) rfl rfl ?_
    show Steps p.tables e below (T368.setTop (mkF m 41 #[.val (.ref (A 5)), .val (.ref b322), .val (.ref b322)] [(.ref b322), (.ref (A 9))])) _
    refine st369 _ ?_
    show Steps p.tables e below (T369.setTop (mkF m 44 #[.val (.ref (A 5)), .val (.ref b322), .val (.ref b322)] [(.ref b354_b352_b340_b326), (.ref (A 9))])) _
    refine st381 _ ?_
    show Steps p.tables e below (T381.setTop (mkF m 47 #[.val (.ref (A 5)), .val (.ref b322), .val (.ref b322)] [(.int (0 : Int32))])) _
    refine XS.ifYes X381.here hx rfl (pc0 := 47) (pc' := 54) rfl (hb hby own_d_jdk_42_method_66_code_47) rfl ((if0 _ _).trans (teq (by decide : (0 : Int32) = (0 : Int32))).1) (by decide) (by decide) ?_
    show Steps p.tables e below (T381.setTop (mkF m 54 #[.val (.ref (A 5)), .val (.ref b322), .val (.ref b322)] [])) _
    refine XS.iconst X381.here hx rfl (hb hby own_d_jdk_42_method_66_code_54) ?_
    show Steps p.tables e below (T381.setTop (mkF m 55 #[.val (.ref (A 5)), .val (.ref b322), .val (.ref b322)] [(.int (0 : Int32))])) _
    exact retN X381 hx (t := .boolean) Bd.returns (by simp) (hb hby own_d_jdk_42_method_66_code_55) hr
  · show PQ (some (.int (0 : Int32))) h0 n0 _ T381.heap _
    rw [e381]
    exact ⟨rfl, N381, rfl⟩
theorem own_ef_rm47 (m : MethodId) (p1 : Int32) (A : Nat → Addr) (K : Nat → ClassId) (cs : Int32)  (b354_b352_b340_b326 : Addr) (k354_k352_k340_k326 : ClassId) : entryFrame m #[(.ref (A 10)), (.ref b354_b352_b340_b326)] 3 = mkF m 0 #[.val (.ref (A 10)), .val (.ref b354_b352_b340_b326), .unset] [] := by first | (simp [entryFrame, mkF, argsToLocals, Value.category, maxLocals]; done) | rfl
set_option maxRecDepth 65536 in
set_option maxHeartbeats 40000000 in
theorem rm47 (l : Launch) (Z : State) (a0 : Array Value) (hw : ∀ d ∈ tables_1, d.before a0 Z = true) (ws : List Jvm.Cond) (h0 : Heap) (n0 : Nat) (p1 : Int32) (A : Nat → Addr) (K : Nat → ClassId) (cs : Int32)  (b354_b352_b340_b326 : Addr) (k354_k352_k340_k326 : ClassId) (EN : own_St Z A K cs) (OL0 : Old Z n0 h0) (G_A_b354_b352_b340_b326 : Arv Z h0 b354_b352_b340_b326 k354_k352_k340_k326 .byte (3 : Int32) [(.int (51 : Int32)), (.int (46 : Int32)), (.int (51 : Int32))] (.int (0 : Int32))) :
    MetFree l own_m1 (head1 (Jvm.Cond.code own_m1 jdk_43_method_13_code 3 (some .boolean) :: ws) ({ frames := 0, cells := 0, slots := 0, locals := 0 } : Room)) (fun a U => a = #[(.ref (A 10)), (.ref b354_b352_b340_b326)] ∧ Z.Warmed39 U.vm ∧ U.heap = h0) (fun _ _ _ _ _ => True) (fun _ U o U' => ∃ v L, o = .returned v ∧ (PQ (some (.int (0 : Int32))) h0 n0) v U'.heap L ∧ FrameEnd U o U' L ({ frames := 0, cells := 0, slots := 0, locals := 0 } : Room).cells ({ frames := 0, cells := 0, slots := 0, locals := 0 } : Room).slots) := by
  refine MetFree.of_bodySF (plainFor_of_name own_pn3) hisR ?_
  intro p e s m args below meth c s₁ Bd hml0 hP hK
  obtain ⟨rfl, hZ, hh⟩ := hP
  have hx := Bd.exec
  have hby := Bd.bytes
  have hml : c.maxLocals = 3 := hml0
  have hown : s.vm.findClass "java/lang/StringLatin1" = some m.cls := findClass_of_methodNamed Bd.named
  have hnm := (name_of_methodNamed Bd.named Bd.method).1
  have X0 : Stand p l e ({ frames := 0, cells := 0, slots := 0, locals := 0 } : Room) s m #[(.ref (A 10)), (.ref b354_b352_b340_b326)] below meth c s₁ [] 0 0 := Stand.of_body Bd
  have e0 : s₁.heap = h0 := by rw [← hh, Bd.state]; rfl
  have N0 := Fr.nil n0
  have pre0 : ∀ t, Steps p.tables e below (s₁.setTop (mkF m 0 #[.val (.ref (A 10)), .val (.ref b354_b352_b340_b326), .unset] [])) t → Steps p.tables e below (s₁.setTop (entryFrame m #[(.ref (A 10)), (.ref b354_b352_b340_b326)] 3)) t := fun t k => castTop (own_ef_rm47 m p1 A K cs b354_b352_b340_b326 k354_k352_k340_k326) k
  have KK0 : Keep h0 h0 [] := Keep.refl _ _
  obtain ⟨cl396, Ar396, -, Sz396, Nn396, -, -⟩ := (id (EN.2.2.1.2.2.2.2.2.2.1.ext OL0.2))
  obtain ⟨cl397, Ar397, -, Sz397, Nn397, -, -⟩ := (id G_A_b354_b352_b340_b326)
  obtain ⟨cl398, Ar398, -, Sz398, Nn398, -, -⟩ := (id (EN.2.2.1.2.2.2.2.2.2.1.ext OL0.2))
  obtain ⟨cl399, Ar399, q399, Sz399, Nn399, Hh399, Gg399⟩ := (id (EN.2.2.1.2.2.2.2.2.2.1.ext OL0.2))
  have hin399 : ¬ ((0 : Int32) < 0 ∨ cl399.slots.size ≤ ((0 : Int32)).toNatClampNeg) := inb_of Sz399 ⟨by decide, by decide⟩
  have hat399 : cl399.slots[((0 : Int32)).toNatClampNeg]? = some (.int (51 : Int32)) := Has.at Hh399 hin399 rfl
  obtain ⟨cl400, Ar400, q400, Sz400, Nn400, Hh400, Gg400⟩ := (id G_A_b354_b352_b340_b326)
  have hin400 : ¬ ((0 : Int32) < 0 ∨ cl400.slots.size ≤ ((0 : Int32)).toNatClampNeg) := inb_of Sz400 ⟨by decide, by decide⟩
  have hat400 : cl400.slots[((0 : Int32)).toNatClampNeg]? = some (.int (51 : Int32)) := Has.at Hh400 hin400 rfl
  obtain ⟨cl401, Ar401, -, Sz401, Nn401, -, -⟩ := (id (EN.2.2.1.2.2.2.2.2.2.1.ext OL0.2))
  obtain ⟨cl402, Ar402, q402, Sz402, Nn402, Hh402, Gg402⟩ := (id (EN.2.2.1.2.2.2.2.2.2.1.ext OL0.2))
  have hin402 : ¬ ((1 : Int32) < 0 ∨ cl402.slots.size ≤ ((1 : Int32)).toNatClampNeg) := inb_of Sz402 ⟨by decide, by decide⟩
  have hat402 : cl402.slots[((1 : Int32)).toNatClampNeg]? = some (.int (46 : Int32)) := Has.at Hh402 hin402 rfl
  obtain ⟨cl403, Ar403, q403, Sz403, Nn403, Hh403, Gg403⟩ := (id G_A_b354_b352_b340_b326)
  have hin403 : ¬ ((1 : Int32) < 0 ∨ cl403.slots.size ≤ ((1 : Int32)).toNatClampNeg) := inb_of Sz403 ⟨by decide, by decide⟩
  have hat403 : cl403.slots[((1 : Int32)).toNatClampNeg]? = some (.int (46 : Int32)) := Has.at Hh403 hin403 rfl
  obtain ⟨cl404, Ar404, -, Sz404, Nn404, -, -⟩ := (id (EN.2.2.1.2.2.2.2.2.2.1.ext OL0.2))
  obtain ⟨cl405, Ar405, q405, Sz405, Nn405, Hh405, Gg405⟩ := (id (EN.2.2.1.2.2.2.2.2.2.1.ext OL0.2))
  have hin405 : ¬ ((2 : Int32) < 0 ∨ cl405.slots.size ≤ ((2 : Int32)).toNatClampNeg) := inb_of Sz405 ⟨by decide, by decide⟩
  have hat405 : cl405.slots[((2 : Int32)).toNatClampNeg]? = some (.int (49 : Int32)) := Has.at Hh405 hin405 rfl
  obtain ⟨cl406, Ar406, q406, Sz406, Nn406, Hh406, Gg406⟩ := (id G_A_b354_b352_b340_b326)
  have hin406 : ¬ ((2 : Int32) < 0 ∨ cl406.slots.size ≤ ((2 : Int32)).toNatClampNeg) := inb_of Sz406 ⟨by decide, by decide⟩
  have hat406 : cl406.slots[((2 : Int32)).toNatClampNeg]? = some (.int (51 : Int32)) := Has.at Hh406 hin406 rfl
  obtain ⟨fs, hr, hrun, hended, hW, hsame⟩ := X0.leave (v := some (.int (0 : Int32))) (fun h => by rw [Bd.returns] at h; cases h)
  refine ⟨_, _, pre0 _ ?_, hrun, hended, _, _, rfl, ?_, ⟨_, rfl⟩, hW, hsame.mono (by decide) (by decide)⟩
  · show Steps p.tables e below (s₁.setTop (mkF m 0 #[.val (.ref (A 10)), .val (.ref b354_b352_b340_b326), .unset] [])) _
    refine XS.aloadN X0.here hx rfl (hb hby own_d_jdk_43_method_13_code_0) rfl rfl ?_
    show Steps p.tables e below (s₁.setTop (mkF m 1 #[.val (.ref (A 10)), .val (.ref b354_b352_b340_b326), .unset] [(.ref (A 10))])) _
    refine X0.arraylength hx (by rw [e0]; exact Ar396.1) (State.isArrayOf_alike hZ.alike Ar396.2.1) (g := (mkF m 1 #[.val (.ref (A 10)), .val (.ref b354_b352_b340_b326), .unset] [(.ref (A 10))])) rfl rfl (hb hby own_d_jdk_43_method_13_code_1) _ ?_
    rw [len_of Sz396 Nn396]
    show Steps p.tables e below (s₁.setTop (mkF m 2 #[.val (.ref (A 10)), .val (.ref b354_b352_b340_b326), .unset] [(.int (3 : Int32))])) _
    refine XS.aloadN X0.here hx rfl (hb hby own_d_jdk_43_method_13_code_2) rfl rfl ?_
    show Steps p.tables e below (s₁.setTop (mkF m 3 #[.val (.ref (A 10)), .val (.ref b354_b352_b340_b326), .unset] [(.ref b354_b352_b340_b326), (.int (3 : Int32))])) _
    refine X0.arraylength hx (by rw [e0]; exact Ar397.1) (State.isArrayOf_alike hZ.alike Ar397.2.1) (g := (mkF m 3 #[.val (.ref (A 10)), .val (.ref b354_b352_b340_b326), .unset] [(.ref b354_b352_b340_b326), (.int (3 : Int32))])) rfl rfl (hb hby own_d_jdk_43_method_13_code_3) _ ?_
    rw [len_of Sz397 Nn397]
    show Steps p.tables e below (s₁.setTop (mkF m 4 #[.val (.ref (A 10)), .val (.ref b354_b352_b340_b326), .unset] [(.int (3 : Int32)), (.int (3 : Int32))])) _
    refine XS.icmpNo X0.here hx rfl (hb hby own_d_jdk_43_method_13_code_4) rfl (teq (by decide : (3 : Int32) = (3 : Int32))).2 ?_
    show Steps p.tables e below (s₁.setTop (mkF m 7 #[.val (.ref (A 10)), .val (.ref b354_b352_b340_b326), .unset] [])) _
    refine XS.iconst X0.here hx rfl (hb hby own_d_jdk_43_method_13_code_7) ?_
    show Steps p.tables e below (s₁.setTop (mkF m 8 #[.val (.ref (A 10)), .val (.ref b354_b352_b340_b326), .unset] [(.int (0 : Int32))])) _
    refine XS.istoreN X0.here hx rfl (hb hby own_d_jdk_43_method_13_code_8) rfl (l' := #[.val (.ref (A 10)), .val (.ref b354_b352_b340_b326), .val (.int (0 : Int32))]) rfl ?_
    show Steps p.tables e below (s₁.setTop (mkF m 9 #[.val (.ref (A 10)), .val (.ref b354_b352_b340_b326), .val (.int (0 : Int32))] [])) _
    refine XS.iloadN X0.here hx rfl (hb hby own_d_jdk_43_method_13_code_9) rfl ?_
    show Steps p.tables e below (s₁.setTop (mkF m 10 #[.val (.ref (A 10)), .val (.ref b354_b352_b340_b326), .val (.int (0 : Int32))] [(.int (0 : Int32))])) _
    refine XS.aloadN X0.here hx rfl (hb hby own_d_jdk_43_method_13_code_10) rfl rfl ?_
    show Steps p.tables e below (s₁.setTop (mkF m 11 #[.val (.ref (A 10)), .val (.ref b354_b352_b340_b326), .val (.int (0 : Int32))] [(.ref (A 10)), (.int (0 : Int32))])) _
    refine X0.arraylength hx (by rw [e0]; exact Ar398.1) (State.isArrayOf_alike hZ.alike Ar398.2.1) (g := (mkF m 11 #[.val (.ref (A 10)), .val (.ref b354_b352_b340_b326), .val (.int (0 : Int32))] [(.ref (A 10)), (.int (0 : Int32))])) rfl rfl (hb hby own_d_jdk_43_method_13_code_11) _ ?_
    rw [len_of Sz398 Nn398]
    show Steps p.tables e below (s₁.setTop (mkF m 12 #[.val (.ref (A 10)), .val (.ref b354_b352_b340_b326), .val (.int (0 : Int32))] [(.int (3 : Int32)), (.int (0 : Int32))])) _
    refine XS.icmpNo X0.here hx rfl (hb hby own_d_jdk_43_method_13_code_12) rfl (tlt (by decide : (0 : Int32) < (3 : Int32))).2.1 ?_
    show Steps p.tables e below (s₁.setTop (mkF m 15 #[.val (.ref (A 10)), .val (.ref b354_b352_b340_b326), .val (.int (0 : Int32))] [])) _
    refine XS.aloadN X0.here hx rfl (hb hby own_d_jdk_43_method_13_code_15) rfl rfl ?_
    show Steps p.tables e below (s₁.setTop (mkF m 16 #[.val (.ref (A 10)), .val (.ref b354_b352_b340_b326), .val (.int (0 : Int32))] [(.ref (A 10))])) _
    refine XS.iloadN X0.here hx rfl (hb hby own_d_jdk_43_method_13_code_16) rfl ?_
    show Steps p.tables e below (s₁.setTop (mkF m 17 #[.val (.ref (A 10)), .val (.ref b354_b352_b340_b326), .val (.int (0 : Int32))] [(.int (0 : Int32)), (.ref (A 10))])) _
    refine X0.baloadBytes hx (j := (0 : Int32)) (v := (.int (51 : Int32))) (by rw [e0]; exact Ar399.1) (State.isArrayOf_alike hZ.alike Ar399.2.1) Ar399.2.2 hin399 hat399 (g := (mkF m 17 #[.val (.ref (A 10)), .val (.ref b354_b352_b340_b326), .val (.int (0 : Int32))] [(.int (0 : Int32)), (.ref (A 10))])) rfl rfl (hb hby own_d_jdk_43_method_13_code_17) _ ?_
    show Steps p.tables e below (s₁.setTop (mkF m 18 #[.val (.ref (A 10)), .val (.ref b354_b352_b340_b326), .val (.int (0 : Int32))] [(.int (51 : Int32))])) _
    refine XS.aloadN X0.here hx rfl (hb hby own_d_jdk_43_method_13_code_18) rfl rfl ?_
    show Steps p.tables e below (s₁.setTop (mkF m 19 #[.val (.ref (A 10)), .val (.ref b354_b352_b340_b326), .val (.int (0 : Int32))] [(.ref b354_b352_b340_b326), (.int (51 : Int32))])) _
    refine XS.iloadN X0.here hx rfl (hb hby own_d_jdk_43_method_13_code_19) rfl ?_
    show Steps p.tables e below (s₁.setTop (mkF m 20 #[.val (.ref (A 10)), .val (.ref b354_b352_b340_b326), .val (.int (0 : Int32))] [(.int (0 : Int32)), (.ref b354_b352_b340_b326), (.int (51 : Int32))])) _
    refine X0.baloadBytes hx (j := (0 : Int32)) (v := (.int (51 : Int32))) (by rw [e0]; exact Ar400.1) (State.isArrayOf_alike hZ.alike Ar400.2.1) Ar400.2.2 hin400 hat400 (g := (mkF m 20 #[.val (.ref (A 10)), .val (.ref b354_b352_b340_b326), .val (.int (0 : Int32))] [(.int (0 : Int32)), (.ref b354_b352_b340_b326), (.int (51 : Int32))])) rfl rfl (hb hby own_d_jdk_43_method_13_code_20) _ ?_
    show Steps p.tables e below (s₁.setTop (mkF m 21 #[.val (.ref (A 10)), .val (.ref b354_b352_b340_b326), .val (.int (0 : Int32))] [(.int (51 : Int32)), (.int (51 : Int32))])) _
    refine XS.icmpYes X0.here hx rfl (pc0 := 21) (pc' := 26) rfl (hb hby own_d_jdk_43_method_13_code_21) rfl (teq (by decide : (51 : Int32) = (51 : Int32))).1 (by decide) (by decide) ?_
    show Steps p.tables e below (s₁.setTop (mkF m 26 #[.val (.ref (A 10)), .val (.ref b354_b352_b340_b326), .val (.int (0 : Int32))] [])) _
    refine XS.iinc X0.here hx rfl (hb hby own_d_jdk_43_method_13_code_26) rfl (l' := #[.val (.ref (A 10)), .val (.ref b354_b352_b340_b326), .val (.int (1 : Int32))]) rfl ?_
    show Steps p.tables e below (s₁.setTop (mkF m 29 #[.val (.ref (A 10)), .val (.ref b354_b352_b340_b326), .val (.int (1 : Int32))] [])) _
    refine XS.goto X0.here hx rfl (pc0 := 29) (pc' := 9) rfl (hb hby own_d_jdk_43_method_13_code_29) (by decide) (by decide) ?_
    show Steps p.tables e below (s₁.setTop (mkF m 9 #[.val (.ref (A 10)), .val (.ref b354_b352_b340_b326), .val (.int (1 : Int32))] [])) _
    refine XS.iloadN X0.here hx rfl (hb hby own_d_jdk_43_method_13_code_9) rfl ?_
    show Steps p.tables e below (s₁.setTop (mkF m 10 #[.val (.ref (A 10)), .val (.ref b354_b352_b340_b326), .val (.int (1 : Int32))] [(.int (1 : Int32))])) _
    refine XS.aloadN X0.here hx rfl (hb hby own_d_jdk_43_method_13_code_10) rfl rfl ?_
    show Steps p.tables e below (s₁.setTop (mkF m 11 #[.val (.ref (A 10)), .val (.ref b354_b352_b340_b326), .val (.int (1 : Int32))] [(.ref (A 10)), (.int (1 : Int32))])) _
    refine X0.arraylength hx (by rw [e0]; exact Ar401.1) (State.isArrayOf_alike hZ.alike Ar401.2.1) (g := (mkF m 11 #[.val (.ref (A 10)), .val (.ref b354_b352_b340_b326), .val (.int (1 : Int32))] [(.ref (A 10)), (.int (1 : Int32))])) rfl rfl (hb hby own_d_jdk_43_method_13_code_11) _ ?_
    rw [len_of Sz401 Nn401]
    show Steps p.tables e below (s₁.setTop (mkF m 12 #[.val (.ref (A 10)), .val (.ref b354_b352_b340_b326), .val (.int (1 : Int32))] [(.int (3 : Int32)), (.int (1 : Int32))])) _
    refine XS.icmpNo X0.here hx rfl (hb hby own_d_jdk_43_method_13_code_12) rfl (tlt (by decide : (1 : Int32) < (3 : Int32))).2.1 ?_
    show Steps p.tables e below (s₁.setTop (mkF m 15 #[.val (.ref (A 10)), .val (.ref b354_b352_b340_b326), .val (.int (1 : Int32))] [])) _
    refine XS.aloadN X0.here hx rfl (hb hby own_d_jdk_43_method_13_code_15) rfl rfl ?_
    show Steps p.tables e below (s₁.setTop (mkF m 16 #[.val (.ref (A 10)), .val (.ref b354_b352_b340_b326), .val (.int (1 : Int32))] [(.ref (A 10))])) _
    refine XS.iloadN X0.here hx rfl (hb hby own_d_jdk_43_method_13_code_16) rfl ?_
    show Steps p.tables e below (s₁.setTop (mkF m 17 #[.val (.ref (A 10)), .val (.ref b354_b352_b340_b326), .val (.int (1 : Int32))] [(.int (1 : Int32)), (.ref (A 10))])) _
    refine X0.baloadBytes hx (j := (1 : Int32)) (v := (.int (46 : Int32))) (by rw [e0]; exact Ar402.1) (State.isArrayOf_alike hZ.alike Ar402.2.1) Ar402.2.2 hin402 hat402 (g := (mkF m 17 #[.val (.ref (A 10)), .val (.ref b354_b352_b340_b326), .val (.int (1 : Int32))] [(.int (1 : Int32)), (.ref (A 10))])) rfl rfl (hb hby own_d_jdk_43_method_13_code_17) _ ?_
    show Steps p.tables e below (s₁.setTop (mkF m 18 #[.val (.ref (A 10)), .val (.ref b354_b352_b340_b326), .val (.int (1 : Int32))] [(.int (46 : Int32))])) _
    refine XS.aloadN X0.here hx rfl (hb hby own_d_jdk_43_method_13_code_18) rfl rfl ?_
    show Steps p.tables e below (s₁.setTop (mkF m 19 #[.val (.ref (A 10)), .val (.ref b354_b352_b340_b326), .val (.int (1 : Int32))] [(.ref b354_b352_b340_b326), (.int (46 : Int32))])) _
    refine XS.iloadN X0.here hx rfl (hb hby own_d_jdk_43_method_13_code_19) rfl ?_
    show Steps p.tables e below (s₁.setTop (mkF m 20 #[.val (.ref (A 10)), .val (.ref b354_b352_b340_b326), .val (.int (1 : Int32))] [(.int (1 : Int32)), (.ref b354_b352_b340_b326), (.int (46 : Int32))])) _
    refine X0.baloadBytes hx (j := (1 : Int32)) (v := (.int (46 : Int32))) (by rw [e0]; exact Ar403.1) (State.isArrayOf_alike hZ.alike Ar403.2.1) Ar403.2.2 hin403 hat403 (g := (mkF m 20 #[.val (.ref (A 10)), .val (.ref b354_b352_b340_b326), .val (.int (1 : Int32))] [(.int (1 : Int32)), (.ref b354_b352_b340_b326), (.int (46 : Int32))])) rfl rfl (hb hby own_d_jdk_43_method_13_code_20) _ ?_
    show Steps p.tables e below (s₁.setTop (mkF m 21 #[.val (.ref (A 10)), .val (.ref b354_b352_b340_b326), .val (.int (1 : Int32))] [(.int (46 : Int32)), (.int (46 : Int32))])) _
    refine XS.icmpYes X0.here hx rfl (pc0 := 21) (pc' := 26) rfl (hb hby own_d_jdk_43_method_13_code_21) rfl (teq (by decide : (46 : Int32) = (46 : Int32))).1 (by decide) (by decide) ?_
    show Steps p.tables e below (s₁.setTop (mkF m 26 #[.val (.ref (A 10)), .val (.ref b354_b352_b340_b326), .val (.int (1 : Int32))] [])) _
    refine XS.iinc X0.here hx rfl (hb hby own_d_jdk_43_method_13_code_26) rfl (l' := #[.val (.ref (A 10)), .val (.ref b354_b352_b340_b326), .val (.int (2 : Int32))]) rfl ?_
    show Steps p.tables e below (s₁.setTop (mkF m 29 #[.val (.ref (A 10)), .val (.ref b354_b352_b340_b326), .val (.int (2 : Int32))] [])) _
    refine XS.goto X0.here hx rfl (pc0 := 29) (pc' := 9) rfl (hb hby own_d_jdk_43_method_13_code_29) (by decide) (by decide) ?_
    show Steps p.tables e below (s₁.setTop (mkF m 9 #[.val (.ref (A 10)), .val (.ref b354_b352_b340_b326), .val (.int (2 : Int32))] [])) _
    refine XS.iloadN X0.here hx rfl (hb hby own_d_jdk_43_method_13_code_9) rfl ?_
    show Steps p.tables e below (s₁.setTop (mkF m 10 #[.val (.ref (A 10)), .val (.ref b354_b352_b340_b326), .val (.int (2 : Int32))] [(.int (2 : Int32))])) _
    refine XS.aloadN X0.here hx rfl (hb hby own_d_jdk_43_method_13_code_10) rfl rfl ?_
    show Steps p.tables e below (s₁.setTop (mkF m 11 #[.val (.ref (A 10)), .val (.ref b354_b352_b340_b326), .val (.int (2 : Int32))] [(.ref (A 10)), (.int (2 : Int32))])) _
    refine X0.arraylength hx (by rw [e0]; exact Ar404.1) (State.isArrayOf_alike hZ.alike Ar404.2.1) (g := (mkF m 11 #[.val (.ref (A 10)), .val (.ref b354_b352_b340_b326), .val (.int (2 : Int32))] [(.ref (A 10)), (.int (2 : Int32))])) rfl rfl (hb hby own_d_jdk_43_method_13_code_11) _ ?_
    rw [len_of Sz404 Nn404]
    show Steps p.tables e below (s₁.setTop (mkF m 12 #[.val (.ref (A 10)), .val (.ref b354_b352_b340_b326), .val (.int (2 : Int32))] [(.int (3 : Int32)), (.int (2 : Int32))])) _
    refine XS.icmpNo X0.here hx rfl (hb hby own_d_jdk_43_method_13_code_12) rfl (tlt (by decide : (2 : Int32) < (3 : Int32))).2.1 ?_
    show Steps p.tables e below (s₁.setTop (mkF m 15 #[.val (.ref (A 10)), .val (.ref b354_b352_b340_b326), .val (.int (2 : Int32))] [])) _
    refine XS.aloadN X0.here hx rfl (hb hby own_d_jdk_43_method_13_code_15) rfl rfl ?_
    show Steps p.tables e below (s₁.setTop (mkF m 16 #[.val (.ref (A 10)), .val (.ref b354_b352_b340_b326), .val (.int (2 : Int32))] [(.ref (A 10))])) _
    refine XS.iloadN X0.here hx rfl (hb hby own_d_jdk_43_method_13_code_16) rfl ?_
    show Steps p.tables e below (s₁.setTop (mkF m 17 #[.val (.ref (A 10)), .val (.ref b354_b352_b340_b326), .val (.int (2 : Int32))] [(.int (2 : Int32)), (.ref (A 10))])) _
    refine X0.baloadBytes hx (j := (2 : Int32)) (v := (.int (49 : Int32))) (by rw [e0]; exact Ar405.1) (State.isArrayOf_alike hZ.alike Ar405.2.1) Ar405.2.2 hin405 hat405 (g := (mkF m 17 #[.val (.ref (A 10)), .val (.ref b354_b352_b340_b326), .val (.int (2 : Int32))] [(.int (2 : Int32)), (.ref (A 10))])) rfl rfl (hb hby own_d_jdk_43_method_13_code_17) _ ?_
    show Steps p.tables e below (s₁.setTop (mkF m 18 #[.val (.ref (A 10)), .val (.ref b354_b352_b340_b326), .val (.int (2 : Int32))] [(.int (49 : Int32))])) _
    refine XS.aloadN X0.here hx rfl (hb hby own_d_jdk_43_method_13_code_18) rfl rfl ?_
    show Steps p.tables e below (s₁.setTop (mkF m 19 #[.val (.ref (A 10)), .val (.ref b354_b352_b340_b326), .val (.int (2 : Int32))] [(.ref b354_b352_b340_b326), (.int (49 : Int32))])) _
    refine XS.iloadN X0.here hx rfl (hb hby own_d_jdk_43_method_13_code_19) rfl ?_
    show Steps p.tables e below (s₁.setTop (mkF m 20 #[.val (.ref (A 10)), .val (.ref b354_b352_b340_b326), .val (.int (2 : Int32))] [(.int (2 : Int32)), (.ref b354_b352_b340_b326), (.int (49 : Int32))])) _
    refine X0.baloadBytes hx (j := (2 : Int32)) (v := (.int (51 : Int32))) (by rw [e0]; exact Ar406.1) (State.isArrayOf_alike hZ.alike Ar406.2.1) Ar406.2.2 hin406 hat406 (g := (mkF m 20 #[.val (.ref (A 10)), .val (.ref b354_b352_b340_b326), .val (.int (2 : Int32))] [(.int (2 : Int32)), (.ref b354_b352_b340_b326), (.int (49 : Int32))])) rfl rfl (hb hby own_d_jdk_43_method_13_code_20) _ ?_
    show Steps p.tables e below (s₁.setTop (mkF m 21 #[.val (.ref (A 10)), .val (.ref b354_b352_b340_b326), .val (.int (2 : Int32))] [(.int (51 : Int32)), (.int (49 : Int32))])) _
    refine XS.icmpNo X0.here hx rfl (hb hby own_d_jdk_43_method_13_code_21) rfl (feq (by decide : ¬ ((49 : Int32) = (51 : Int32)))).1 ?_
    show Steps p.tables e below (s₁.setTop (mkF m 24 #[.val (.ref (A 10)), .val (.ref b354_b352_b340_b326), .val (.int (2 : Int32))] [])) _
    refine XS.iconst X0.here hx rfl (hb hby own_d_jdk_43_method_13_code_24) ?_
    show Steps p.tables e below (s₁.setTop (mkF m 25 #[.val (.ref (A 10)), .val (.ref b354_b352_b340_b326), .val (.int (2 : Int32))] [(.int (0 : Int32))])) _
    exact retN X0 hx (t := .boolean) Bd.returns (by simp) (hb hby own_d_jdk_43_method_13_code_25) hr
  · show PQ (some (.int (0 : Int32))) h0 n0 _ s₁.heap _
    rw [e0]
    exact ⟨rfl, N0, rfl⟩
theorem own_ef_rm46 (m : MethodId) (p1 : Int32) (A : Nat → Addr) (K : Nat → ClassId) (cs : Int32)  (b322 : Addr) (b354_b352_b340_b326 : Addr) (k354_k352_k340_k326 : ClassId) : entryFrame m #[(.ref (A 6)), (.ref b322)] 3 = mkF m 0 #[.val (.ref (A 6)), .val (.ref b322), .unset] [] := by first | (simp [entryFrame, mkF, argsToLocals, Value.category, maxLocals]; done) | rfl
set_option maxRecDepth 65536 in
set_option maxHeartbeats 40000000 in
theorem rm46 (l : Launch) (Z : State) (a0 : Array Value) (hw : ∀ d ∈ tables_1, d.before a0 Z = true) (ws : List Jvm.Cond) (h0 : Heap) (n0 : Nat) (p1 : Int32) (A : Nat → Addr) (K : Nat → ClassId) (cs : Int32)  (b322 : Addr) (b354_b352_b340_b326 : Addr) (k354_k352_k340_k326 : ClassId) (EN : own_St Z A K cs) (OL0 : Old Z n0 h0) (G_F_b322_java_lang_String_value : Fld Z h0 b322 "java/lang/String" "value" "[B" (.ref b354_b352_b340_b326)) (G_A_b354_b352_b340_b326 : Arv Z h0 b354_b352_b340_b326 k354_k352_k340_k326 .byte (3 : Int32) [(.int (51 : Int32)), (.int (46 : Int32)), (.int (51 : Int32))] (.int (0 : Int32))) (G_E_b322 : Exa Z h0 b322 "java/lang/String") (G_F_b322_java_lang_String_coder : Fld Z h0 b322 "java/lang/String" "coder" "B" (.int (0 : Int32))) :
    MetFree l own_m0 (head1 (Jvm.Cond.code own_m0 jdk_42_method_66_code 3 (some .boolean) :: ws) ({ frames := 1, cells := 0, slots := 0, locals := 14 } : Room)) (fun a U => a = #[(.ref (A 6)), (.ref b322)] ∧ Z.Warmed39 U.vm ∧ U.heap = h0) (fun _ _ _ _ _ => True) (fun _ U o U' => ∃ v L, o = .returned v ∧ (PQ (some (.int (0 : Int32))) h0 n0) v U'.heap L ∧ FrameEnd U o U' L ({ frames := 1, cells := 0, slots := 0, locals := 14 } : Room).cells ({ frames := 1, cells := 0, slots := 0, locals := 14 } : Room).slots) := by
  refine MetFree.of_bodySF (plainFor_of_name own_pn1) hisR ?_
  intro p e s m args below meth c s₁ Bd hml0 hP hK
  obtain ⟨rfl, hZ, hh⟩ := hP
  have hx := Bd.exec
  have hby := Bd.bytes
  have hml : c.maxLocals = 3 := hml0
  have hown : s.vm.findClass "java/lang/String" = some m.cls := findClass_of_methodNamed Bd.named
  have hnm := (name_of_methodNamed Bd.named Bd.method).1
  have X0 : Stand p l e ({ frames := 1, cells := 0, slots := 0, locals := 14 } : Room) s m #[(.ref (A 6)), (.ref b322)] below meth c s₁ [] 0 0 := Stand.of_body Bd
  have e0 : s₁.heap = h0 := by rw [← hh, Bd.state]; rfl
  have N0 := Fr.nil n0
  have pre0 : ∀ t, Steps p.tables e below (s₁.setTop (mkF m 0 #[.val (.ref (A 6)), .val (.ref b322), .unset] [])) t → Steps p.tables e below (s₁.setTop (entryFrame m #[(.ref (A 6)), (.ref b322)] 3)) t := fun t k => castTop (own_ef_rm46 m p1 A K cs b322 b354_b352_b340_b326 k354_k352_k340_k326) k
  have KK0 : Keep h0 h0 [] := Keep.refl _ _
  obtain ⟨T389, X389, e389, st389⟩ := instY X0 hx hZ hown (hw _ (List.mem_of_getElem? (i := 61) rfl)) e0 (Ins.self G_E_b322) (g := (mkF m 8 #[.val (.ref (A 6)), .val (.ref b322), .unset] [(.ref b322)])) rfl rfl (hb hby own_d_jdk_42_method_66_code_8)
  obtain ⟨T390, X390, e390, st390⟩ := castY X389 hx hZ hown (hw _ (List.mem_of_getElem? (i := 61) rfl)) e389 (Ins.self G_E_b322) (g := (mkF m 15 #[.val (.ref (A 6)), .val (.ref b322), .unset] [(.ref b322)])) rfl rfl (hb hby own_d_jdk_42_method_66_code_15)
  obtain ⟨T391, X391, e391, st391⟩ := getS2 X390 hx hZ hown (host := "") (Or.inl (hw _ (List.mem_of_getElem? (i := 14) rfl))) Via.refl e390 (EN.2.2.2.1.2.2.2.1.ext OL0.2) (g := (mkF m 19 #[.val (.ref (A 6)), .val (.ref b322), .val (.ref b322)] [])) rfl (hb hby own_d_jdk_42_method_66_code_19)
  obtain ⟨T392, X392, e392, st392⟩ := getF X391 hx hZ hown (host := "") (Or.inl (hw _ (List.mem_of_getElem? (i := 26) rfl))) Via.refl e391 (EN.2.2.2.1.2.2.2.2.2.2.2.1.ext OL0.2) (g := (mkF m 26 #[.val (.ref (A 6)), .val (.ref b322), .val (.ref b322)] [(.ref (A 6))])) rfl rfl (hb hby own_d_jdk_42_method_66_code_26)
  obtain ⟨T393, X393, e393, st393⟩ := getF X392 hx hZ hown (host := "") (Or.inl (hw _ (List.mem_of_getElem? (i := 26) rfl))) Via.refl e392 G_F_b322_java_lang_String_coder (g := (mkF m 30 #[.val (.ref (A 6)), .val (.ref b322), .val (.ref b322)] [(.ref b322), (.int (0 : Int32))])) rfl rfl (hb hby own_d_jdk_42_method_66_code_30)
  obtain ⟨T394, X394, e394, st394⟩ := getF X393 hx hZ hown (host := "") (Or.inl (hw _ (List.mem_of_getElem? (i := 28) rfl))) Via.refl e393 (EN.2.2.1.2.2.2.2.2.1.ext OL0.2) (g := (mkF m 37 #[.val (.ref (A 6)), .val (.ref b322), .val (.ref b322)] [(.ref (A 6))])) rfl rfl (hb hby own_d_jdk_42_method_66_code_37)
  obtain ⟨T395, X395, e395, st395⟩ := getF X394 hx hZ hown (host := "") (Or.inl (hw _ (List.mem_of_getElem? (i := 28) rfl))) Via.refl e394 G_F_b322_java_lang_String_value (g := (mkF m 41 #[.val (.ref (A 6)), .val (.ref b322), .val (.ref b322)] [(.ref b322), (.ref (A 10))])) rfl rfl (hb hby own_d_jdk_42_method_66_code_41)
  obtain ⟨_, _, ⟨T407, L407, k407, n407⟩, -, X407, ⟨Lc407, hQ407, l407, y407, z407⟩, st407⟩ := Jvm.LawKit.callS X395 hx (y := own_m1) hown (mvT hZ (hw _ (List.mem_of_getElem? (i := 62) rfl))) (mvT hZ (hw _ (List.mem_of_getElem? (i := 63) rfl))) (mvT hZ (hw _ (List.mem_of_getElem? (i := 64) rfl))) (mvT hZ (hw _ (List.mem_of_getElem? (i := 65) rfl))) (by decide) (backOf (W := 0) (rm47 l Z a0 hw [] h0 n0 p1 A K cs b354_b352_b340_b326 k354_k352_k340_k326 EN OL0 G_A_b354_b352_b340_b326) hZ (hw _ (List.mem_of_getElem? (i := 65) rfl)) (hw _ (List.mem_of_getElem? (i := 64) rfl)) (by decide) (by decide)) (g := (mkF m 44 #[.val (.ref (A 6)), .val (.ref b322), .val (.ref b322)] [(.ref b354_b352_b340_b326), (.ref (A 10))])) rfl (by rw [hml]; rfl) (argsL := [(.ref (A 10)), (.ref b354_b352_b340_b326)]) (rest := []) (lenOf own_pd6 rfl) rfl (by show 2 * 0 + _ ≤ _; exact Nat.le_of_eq rfl) (hb hby own_d_jdk_42_method_66_code_44) (fun _ _ => ⟨rfl, e395, (by decide : 0 + 0 ≤ _), (by decide : 0 + 0 ≤ _)⟩)
  dsimp only [Pt.U, Pt.locs, Pt.cells, Pt.slots] at X407 l407 y407 z407 st407 hQ407
  subst l407 y407 z407
  obtain ⟨rfl, N407q, e407⟩ := hQ407
  have N407 := Fr.app N0 N407q
  obtain ⟨fs, hr, hrun, hended, hW, hsame⟩ := X407.leave (v := some (.int (0 : Int32))) (fun h => by rw [Bd.returns] at h; cases h)
  refine ⟨_, _, pre0 _ ?_, hrun, hended, _, _, rfl, ?_, ⟨_, rfl⟩, hW, hsame.mono (by decide) (by decide)⟩
  · show Steps p.tables e below (s₁.setTop (mkF m 0 #[.val (.ref (A 6)), .val (.ref b322), .unset] [])) _
    refine XS.aloadN X0.here hx rfl (hb hby own_d_jdk_42_method_66_code_0) rfl rfl ?_
    show Steps p.tables e below (s₁.setTop (mkF m 1 #[.val (.ref (A 6)), .val (.ref b322), .unset] [(.ref (A 6))])) _
    refine XS.aloadN X0.here hx rfl (hb hby own_d_jdk_42_method_66_code_1) rfl rfl ?_
    show Steps p.tables e below (s₁.setTop (mkF m 2 #[.val (.ref (A 6)), .val (.ref b322), .unset] [(.ref b322), (.ref (A 6))])) _
    refine Jvm.RoadKit.acmp (g := (mkF m 2 #[.val (.ref (A 6)), .val (.ref b322), .unset] [(.ref b322), (.ref (A 6))])) X0 hx rfl rfl rfl (pc0 := 2) (pc' := 7) (same := false) rfl (hb hby own_d_jdk_42_method_66_code_2) rfl (decide_eq_false fun q => (Fld.ne (EN.2.2.1.2.2.2.2.2.1.ext OL0.2) G_F_b322_java_lang_String_value (fun h => arv_ne (EN.2.2.1.2.2.2.2.2.2.1.ext OL0.2) G_A_b354_b352_b340_b326 (Or.inr ⟨2, by decide, fun h => by injection h with h; exact absurd h (by decide)⟩) (Value.ref.inj h))) (Value.ref.inj q)) (by decide) (by decide) ?_
    show Steps p.tables e below (s₁.setTop (mkF m 7 #[.val (.ref (A 6)), .val (.ref b322), .unset] [])) _
    refine XS.aloadN X0.here hx rfl (hb hby own_d_jdk_42_method_66_code_7) rfl rfl ?_
    show Steps p.tables e below (s₁.setTop (mkF m 8 #[.val (.ref (A 6)), .val (.ref b322), .unset] [(.ref b322)])) _
    refine st389 _ ?_
    show Steps p.tables e below (T389.setTop (mkF m 11 #[.val (.ref (A 6)), .val (.ref b322), .unset] [(.int (1 : Int32))])) _
    refine XS.ifNo X389.here hx rfl (hb hby own_d_jdk_42_method_66_code_11) rfl ((if0 _ _).trans (feq (by decide : ¬ ((1 : Int32) = (0 : Int32)))).1) ?_
    show Steps p.tables e below (T389.setTop (mkF m 14 #[.val (.ref (A 6)), .val (.ref b322), .unset] [])) _
    refine XS.aloadN X389.here hx rfl (hb hby own_d_jdk_42_method_66_code_14) rfl rfl ?_
    show Steps p.tables e below (T389.setTop (mkF m 15 #[.val (.ref (A 6)), .val (.ref b322), .unset] [(.ref b322)])) _
    refine st390 _ ?_
    show Steps p.tables e below (T390.setTop (mkF m 18 #[.val (.ref (A 6)), .val (.ref b322), .unset] [(.ref b322)])) _
    refine XS.astoreN X390.here hx rfl (hb hby own_d_jdk_42_method_66_code_18) rfl rfl (l' := #[.val (.ref (A 6)), .val (.ref b322), .val (.ref b322)]) rfl ?_
    show Steps p.tables e below (T390.setTop (mkF m 19 #[.val (.ref (A 6)), .val (.ref b322), .val (.ref b322)] [])) _
    refine st391 _ ?_
    show Steps p.tables e below (T391.setTop (mkF m 22 #[.val (.ref (A 6)), .val (.ref b322), .val (.ref b322)] [(.int cs)])) _
    refine XS.ifNo X391.here hx rfl (hb hby own_d_jdk_42_method_66_code_22) rfl ((if0 _ _).trans (feq EN.2.2.2.1.2.2.2.2.1).1) ?_
    show Steps p.tables e below (T391.setTop (mkF m 25 #[.val (.ref (A 6)), .val (.ref b322), .val (.ref b322)] [])) _
    refine XS.aloadN X391.here hx rfl (hb hby own_d_jdk_42_method_66_code_25) rfl rfl ?_
    show Steps p.tables e below (T391.setTop (mkF m 26 #[.val (.ref (A 6)), .val (.ref b322), .val (.ref b322)] [(.ref (A 6))])) _
    refine st392 _ ?_
    show Steps p.tables e below (T392.setTop (mkF m 29 #[.val (.ref (A 6)), .val (.ref b322), .val (.ref b322)] [(.int (0 : Int32))])) _
    refine XS.aloadN X392.here hx rfl (hb hby own_d_jdk_42_method_66_code_29) rfl rfl ?_
    show Steps p.tables e below (T392.setTop (mkF m 30 #[.val (.ref (A 6)), .val (.ref b322), .val (.ref b322)] [(.ref b322), (.int (0 : Int32))])) _
    refine st393 _ ?_
    show Steps p.tables e below (T393.setTop (mkF m 33 #[.val (.ref (A 6)), .val (.ref b322), .val (.ref b322)] [(.int (0 : Int32)), (.int (0 : Int32))])) _
    refine XS.icmpNo X393.here hx rfl (hb hby own_d_jdk_42_method_66_code_33) rfl (teq (by decide : (0 : Int32) = (0 : Int32))).2 ?_
    show Steps p.tables e below (T393.setTop (mkF m 36 #[.val (.ref (A 6)), .val (.ref b322), .val (.ref b322)] [])) _
    refine XS.aloadN X393.here hx rfl (hb hby own_d_jdk_42_method_66_code_36) rfl rfl ?_
    show Steps p.tables e below (T393.setTop (mkF m 37 #[.val (.ref (A 6)), .val (.ref b322), .val (.ref b322)] [(.ref (A 6))])) _
    refine st394 _ ?_
    show Steps p.tables e below (T394.setTop (mkF m 40 #[.val (.ref (A 6)), .val (.ref b322), .val (.ref b322)] [(.ref (A 10))])) _
    refine XS.aloadN X394.here hx rfl (hb hby own_d_jdk_42_method_66_code_40) rfl rfl ?_
    show Steps p.tables e below (T394.setTop (mkF m 41 #[.val (.ref (A 6)), .val (.ref b322), .val (.ref b322)] [(.ref b322), (.ref (A 10))])) _
    refine st395 _ ?_
    show Steps p.tables e below (T395.setTop (mkF m 44 #[.val (.ref (A 6)), .val (.ref b322), .val (.ref b322)] [(.ref b354_b352_b340_b326), (.ref (A 10))])) _
    refine st407 _ ?_
    show Steps p.tables e below (T407.setTop (mkF m 47 #[.val (.ref (A 6)), .val (.ref b322), .val (.ref b322)] [(.int (0 : Int32))])) _
    refine XS.ifYes X407.here hx rfl (pc0 := 47) (pc' := 54) rfl (hb hby own_d_jdk_42_method_66_code_47) rfl ((if0 _ _).trans (teq (by decide : (0 : Int32) = (0 : Int32))).1) (by decide) (by decide) ?_
    show Steps p.tables e below (T407.setTop (mkF m 54 #[.val (.ref (A 6)), .val (.ref b322), .val (.ref b322)] [])) _
    refine XS.iconst X407.here hx rfl (hb hby own_d_jdk_42_method_66_code_54) ?_
    show Steps p.tables e below (T407.setTop (mkF m 55 #[.val (.ref (A 6)), .val (.ref b322), .val (.ref b322)] [(.int (0 : Int32))])) _
    exact retN X407 hx (t := .boolean) Bd.returns (by simp) (hb hby own_d_jdk_42_method_66_code_55) hr
  · show PQ (some (.int (0 : Int32))) h0 n0 _ T407.heap _
    rw [e407]
    exact ⟨rfl, N407, rfl⟩
theorem own_ef_rm49 (m : MethodId) (p1 : Int32) (A : Nat → Addr) (K : Nat → ClassId) (cs : Int32)  (b354_b352_b340_b326 : Addr) (k354_k352_k340_k326 : ClassId) : entryFrame m #[(.ref (A 11)), (.ref b354_b352_b340_b326)] 3 = mkF m 0 #[.val (.ref (A 11)), .val (.ref b354_b352_b340_b326), .unset] [] := by first | (simp [entryFrame, mkF, argsToLocals, Value.category, maxLocals]; done) | rfl
set_option maxRecDepth 65536 in
set_option maxHeartbeats 40000000 in
theorem rm49 (l : Launch) (Z : State) (a0 : Array Value) (hw : ∀ d ∈ tables_1, d.before a0 Z = true) (ws : List Jvm.Cond) (h0 : Heap) (n0 : Nat) (p1 : Int32) (A : Nat → Addr) (K : Nat → ClassId) (cs : Int32)  (b354_b352_b340_b326 : Addr) (k354_k352_k340_k326 : ClassId) (EN : own_St Z A K cs) (OL0 : Old Z n0 h0) (G_A_b354_b352_b340_b326 : Arv Z h0 b354_b352_b340_b326 k354_k352_k340_k326 .byte (3 : Int32) [(.int (51 : Int32)), (.int (46 : Int32)), (.int (51 : Int32))] (.int (0 : Int32))) :
    MetFree l own_m1 (head1 (Jvm.Cond.code own_m1 jdk_43_method_13_code 3 (some .boolean) :: ws) ({ frames := 0, cells := 0, slots := 0, locals := 0 } : Room)) (fun a U => a = #[(.ref (A 11)), (.ref b354_b352_b340_b326)] ∧ Z.Warmed39 U.vm ∧ U.heap = h0) (fun _ _ _ _ _ => True) (fun _ U o U' => ∃ v L, o = .returned v ∧ (PQ (some (.int (0 : Int32))) h0 n0) v U'.heap L ∧ FrameEnd U o U' L ({ frames := 0, cells := 0, slots := 0, locals := 0 } : Room).cells ({ frames := 0, cells := 0, slots := 0, locals := 0 } : Room).slots) := by
  refine MetFree.of_bodySF (plainFor_of_name own_pn3) hisR ?_
  intro p e s m args below meth c s₁ Bd hml0 hP hK
  obtain ⟨rfl, hZ, hh⟩ := hP
  have hx := Bd.exec
  have hby := Bd.bytes
  have hml : c.maxLocals = 3 := hml0
  have hown : s.vm.findClass "java/lang/StringLatin1" = some m.cls := findClass_of_methodNamed Bd.named
  have hnm := (name_of_methodNamed Bd.named Bd.method).1
  have X0 : Stand p l e ({ frames := 0, cells := 0, slots := 0, locals := 0 } : Room) s m #[(.ref (A 11)), (.ref b354_b352_b340_b326)] below meth c s₁ [] 0 0 := Stand.of_body Bd
  have e0 : s₁.heap = h0 := by rw [← hh, Bd.state]; rfl
  have N0 := Fr.nil n0
  have pre0 : ∀ t, Steps p.tables e below (s₁.setTop (mkF m 0 #[.val (.ref (A 11)), .val (.ref b354_b352_b340_b326), .unset] [])) t → Steps p.tables e below (s₁.setTop (entryFrame m #[(.ref (A 11)), (.ref b354_b352_b340_b326)] 3)) t := fun t k => castTop (own_ef_rm49 m p1 A K cs b354_b352_b340_b326 k354_k352_k340_k326) k
  have KK0 : Keep h0 h0 [] := Keep.refl _ _
  obtain ⟨cl418, Ar418, -, Sz418, Nn418, -, -⟩ := (id (EN.2.2.2.1.1.ext OL0.2))
  obtain ⟨cl419, Ar419, -, Sz419, Nn419, -, -⟩ := (id G_A_b354_b352_b340_b326)
  obtain ⟨cl420, Ar420, -, Sz420, Nn420, -, -⟩ := (id (EN.2.2.2.1.1.ext OL0.2))
  obtain ⟨cl421, Ar421, q421, Sz421, Nn421, Hh421, Gg421⟩ := (id (EN.2.2.2.1.1.ext OL0.2))
  have hin421 : ¬ ((0 : Int32) < 0 ∨ cl421.slots.size ≤ ((0 : Int32)).toNatClampNeg) := inb_of Sz421 ⟨by decide, by decide⟩
  have hat421 : cl421.slots[((0 : Int32)).toNatClampNeg]? = some (.int (51 : Int32)) := Has.at Hh421 hin421 rfl
  obtain ⟨cl422, Ar422, q422, Sz422, Nn422, Hh422, Gg422⟩ := (id G_A_b354_b352_b340_b326)
  have hin422 : ¬ ((0 : Int32) < 0 ∨ cl422.slots.size ≤ ((0 : Int32)).toNatClampNeg) := inb_of Sz422 ⟨by decide, by decide⟩
  have hat422 : cl422.slots[((0 : Int32)).toNatClampNeg]? = some (.int (51 : Int32)) := Has.at Hh422 hin422 rfl
  obtain ⟨cl423, Ar423, -, Sz423, Nn423, -, -⟩ := (id (EN.2.2.2.1.1.ext OL0.2))
  obtain ⟨cl424, Ar424, q424, Sz424, Nn424, Hh424, Gg424⟩ := (id (EN.2.2.2.1.1.ext OL0.2))
  have hin424 : ¬ ((1 : Int32) < 0 ∨ cl424.slots.size ≤ ((1 : Int32)).toNatClampNeg) := inb_of Sz424 ⟨by decide, by decide⟩
  have hat424 : cl424.slots[((1 : Int32)).toNatClampNeg]? = some (.int (46 : Int32)) := Has.at Hh424 hin424 rfl
  obtain ⟨cl425, Ar425, q425, Sz425, Nn425, Hh425, Gg425⟩ := (id G_A_b354_b352_b340_b326)
  have hin425 : ¬ ((1 : Int32) < 0 ∨ cl425.slots.size ≤ ((1 : Int32)).toNatClampNeg) := inb_of Sz425 ⟨by decide, by decide⟩
  have hat425 : cl425.slots[((1 : Int32)).toNatClampNeg]? = some (.int (46 : Int32)) := Has.at Hh425 hin425 rfl
  obtain ⟨cl426, Ar426, -, Sz426, Nn426, -, -⟩ := (id (EN.2.2.2.1.1.ext OL0.2))
  obtain ⟨cl427, Ar427, q427, Sz427, Nn427, Hh427, Gg427⟩ := (id (EN.2.2.2.1.1.ext OL0.2))
  have hin427 : ¬ ((2 : Int32) < 0 ∨ cl427.slots.size ≤ ((2 : Int32)).toNatClampNeg) := inb_of Sz427 ⟨by decide, by decide⟩
  have hat427 : cl427.slots[((2 : Int32)).toNatClampNeg]? = some (.int (50 : Int32)) := Has.at Hh427 hin427 rfl
  obtain ⟨cl428, Ar428, q428, Sz428, Nn428, Hh428, Gg428⟩ := (id G_A_b354_b352_b340_b326)
  have hin428 : ¬ ((2 : Int32) < 0 ∨ cl428.slots.size ≤ ((2 : Int32)).toNatClampNeg) := inb_of Sz428 ⟨by decide, by decide⟩
  have hat428 : cl428.slots[((2 : Int32)).toNatClampNeg]? = some (.int (51 : Int32)) := Has.at Hh428 hin428 rfl
  obtain ⟨fs, hr, hrun, hended, hW, hsame⟩ := X0.leave (v := some (.int (0 : Int32))) (fun h => by rw [Bd.returns] at h; cases h)
  refine ⟨_, _, pre0 _ ?_, hrun, hended, _, _, rfl, ?_, ⟨_, rfl⟩, hW, hsame.mono (by decide) (by decide)⟩
  · show Steps p.tables e below (s₁.setTop (mkF m 0 #[.val (.ref (A 11)), .val (.ref b354_b352_b340_b326), .unset] [])) _
    refine XS.aloadN X0.here hx rfl (hb hby own_d_jdk_43_method_13_code_0) rfl rfl ?_
    show Steps p.tables e below (s₁.setTop (mkF m 1 #[.val (.ref (A 11)), .val (.ref b354_b352_b340_b326), .unset] [(.ref (A 11))])) _
    refine X0.arraylength hx (by rw [e0]; exact Ar418.1) (State.isArrayOf_alike hZ.alike Ar418.2.1) (g := (mkF m 1 #[.val (.ref (A 11)), .val (.ref b354_b352_b340_b326), .unset] [(.ref (A 11))])) rfl rfl (hb hby own_d_jdk_43_method_13_code_1) _ ?_
    rw [len_of Sz418 Nn418]
    show Steps p.tables e below (s₁.setTop (mkF m 2 #[.val (.ref (A 11)), .val (.ref b354_b352_b340_b326), .unset] [(.int (3 : Int32))])) _
    refine XS.aloadN X0.here hx rfl (hb hby own_d_jdk_43_method_13_code_2) rfl rfl ?_
    show Steps p.tables e below (s₁.setTop (mkF m 3 #[.val (.ref (A 11)), .val (.ref b354_b352_b340_b326), .unset] [(.ref b354_b352_b340_b326), (.int (3 : Int32))])) _
    refine X0.arraylength hx (by rw [e0]; exact Ar419.1) (State.isArrayOf_alike hZ.alike Ar419.2.1) (g := (mkF m 3 #[.val (.ref (A 11)), .val (.ref b354_b352_b340_b326), .unset] [(.ref b354_b352_b340_b326), (.int (3 : Int32))])) rfl rfl (hb hby own_d_jdk_43_method_13_code_3) _ ?_
    rw [len_of Sz419 Nn419]
    show Steps p.tables e below (s₁.setTop (mkF m 4 #[.val (.ref (A 11)), .val (.ref b354_b352_b340_b326), .unset] [(.int (3 : Int32)), (.int (3 : Int32))])) _
    refine XS.icmpNo X0.here hx rfl (hb hby own_d_jdk_43_method_13_code_4) rfl (teq (by decide : (3 : Int32) = (3 : Int32))).2 ?_
    show Steps p.tables e below (s₁.setTop (mkF m 7 #[.val (.ref (A 11)), .val (.ref b354_b352_b340_b326), .unset] [])) _
    refine XS.iconst X0.here hx rfl (hb hby own_d_jdk_43_method_13_code_7) ?_
    show Steps p.tables e below (s₁.setTop (mkF m 8 #[.val (.ref (A 11)), .val (.ref b354_b352_b340_b326), .unset] [(.int (0 : Int32))])) _
    refine XS.istoreN X0.here hx rfl (hb hby own_d_jdk_43_method_13_code_8) rfl (l' := #[.val (.ref (A 11)), .val (.ref b354_b352_b340_b326), .val (.int (0 : Int32))]) rfl ?_
    show Steps p.tables e below (s₁.setTop (mkF m 9 #[.val (.ref (A 11)), .val (.ref b354_b352_b340_b326), .val (.int (0 : Int32))] [])) _
    refine XS.iloadN X0.here hx rfl (hb hby own_d_jdk_43_method_13_code_9) rfl ?_
    show Steps p.tables e below (s₁.setTop (mkF m 10 #[.val (.ref (A 11)), .val (.ref b354_b352_b340_b326), .val (.int (0 : Int32))] [(.int (0 : Int32))])) _
    refine XS.aloadN X0.here hx rfl (hb hby own_d_jdk_43_method_13_code_10) rfl rfl ?_
    show Steps p.tables e below (s₁.setTop (mkF m 11 #[.val (.ref (A 11)), .val (.ref b354_b352_b340_b326), .val (.int (0 : Int32))] [(.ref (A 11)), (.int (0 : Int32))])) _
    refine X0.arraylength hx (by rw [e0]; exact Ar420.1) (State.isArrayOf_alike hZ.alike Ar420.2.1) (g := (mkF m 11 #[.val (.ref (A 11)), .val (.ref b354_b352_b340_b326), .val (.int (0 : Int32))] [(.ref (A 11)), (.int (0 : Int32))])) rfl rfl (hb hby own_d_jdk_43_method_13_code_11) _ ?_
    rw [len_of Sz420 Nn420]
    show Steps p.tables e below (s₁.setTop (mkF m 12 #[.val (.ref (A 11)), .val (.ref b354_b352_b340_b326), .val (.int (0 : Int32))] [(.int (3 : Int32)), (.int (0 : Int32))])) _
    refine XS.icmpNo X0.here hx rfl (hb hby own_d_jdk_43_method_13_code_12) rfl (tlt (by decide : (0 : Int32) < (3 : Int32))).2.1 ?_
    show Steps p.tables e below (s₁.setTop (mkF m 15 #[.val (.ref (A 11)), .val (.ref b354_b352_b340_b326), .val (.int (0 : Int32))] [])) _
    refine XS.aloadN X0.here hx rfl (hb hby own_d_jdk_43_method_13_code_15) rfl rfl ?_
    show Steps p.tables e below (s₁.setTop (mkF m 16 #[.val (.ref (A 11)), .val (.ref b354_b352_b340_b326), .val (.int (0 : Int32))] [(.ref (A 11))])) _
    refine XS.iloadN X0.here hx rfl (hb hby own_d_jdk_43_method_13_code_16) rfl ?_
    show Steps p.tables e below (s₁.setTop (mkF m 17 #[.val (.ref (A 11)), .val (.ref b354_b352_b340_b326), .val (.int (0 : Int32))] [(.int (0 : Int32)), (.ref (A 11))])) _
    refine X0.baloadBytes hx (j := (0 : Int32)) (v := (.int (51 : Int32))) (by rw [e0]; exact Ar421.1) (State.isArrayOf_alike hZ.alike Ar421.2.1) Ar421.2.2 hin421 hat421 (g := (mkF m 17 #[.val (.ref (A 11)), .val (.ref b354_b352_b340_b326), .val (.int (0 : Int32))] [(.int (0 : Int32)), (.ref (A 11))])) rfl rfl (hb hby own_d_jdk_43_method_13_code_17) _ ?_
    show Steps p.tables e below (s₁.setTop (mkF m 18 #[.val (.ref (A 11)), .val (.ref b354_b352_b340_b326), .val (.int (0 : Int32))] [(.int (51 : Int32))])) _
    refine XS.aloadN X0.here hx rfl (hb hby own_d_jdk_43_method_13_code_18) rfl rfl ?_
    show Steps p.tables e below (s₁.setTop (mkF m 19 #[.val (.ref (A 11)), .val (.ref b354_b352_b340_b326), .val (.int (0 : Int32))] [(.ref b354_b352_b340_b326), (.int (51 : Int32))])) _
    refine XS.iloadN X0.here hx rfl (hb hby own_d_jdk_43_method_13_code_19) rfl ?_
    show Steps p.tables e below (s₁.setTop (mkF m 20 #[.val (.ref (A 11)), .val (.ref b354_b352_b340_b326), .val (.int (0 : Int32))] [(.int (0 : Int32)), (.ref b354_b352_b340_b326), (.int (51 : Int32))])) _
    refine X0.baloadBytes hx (j := (0 : Int32)) (v := (.int (51 : Int32))) (by rw [e0]; exact Ar422.1) (State.isArrayOf_alike hZ.alike Ar422.2.1) Ar422.2.2 hin422 hat422 (g := (mkF m 20 #[.val (.ref (A 11)), .val (.ref b354_b352_b340_b326), .val (.int (0 : Int32))] [(.int (0 : Int32)), (.ref b354_b352_b340_b326), (.int (51 : Int32))])) rfl rfl (hb hby own_d_jdk_43_method_13_code_20) _ ?_
    show Steps p.tables e below (s₁.setTop (mkF m 21 #[.val (.ref (A 11)), .val (.ref b354_b352_b340_b326), .val (.int (0 : Int32))] [(.int (51 : Int32)), (.int (51 : Int32))])) _
    refine XS.icmpYes X0.here hx rfl (pc0 := 21) (pc' := 26) rfl (hb hby own_d_jdk_43_method_13_code_21) rfl (teq (by decide : (51 : Int32) = (51 : Int32))).1 (by decide) (by decide) ?_
    show Steps p.tables e below (s₁.setTop (mkF m 26 #[.val (.ref (A 11)), .val (.ref b354_b352_b340_b326), .val (.int (0 : Int32))] [])) _
    refine XS.iinc X0.here hx rfl (hb hby own_d_jdk_43_method_13_code_26) rfl (l' := #[.val (.ref (A 11)), .val (.ref b354_b352_b340_b326), .val (.int (1 : Int32))]) rfl ?_
    show Steps p.tables e below (s₁.setTop (mkF m 29 #[.val (.ref (A 11)), .val (.ref b354_b352_b340_b326), .val (.int (1 : Int32))] [])) _
    refine XS.goto X0.here hx rfl (pc0 := 29) (pc' := 9) rfl (hb hby own_d_jdk_43_method_13_code_29) (by decide) (by decide) ?_
    show Steps p.tables e below (s₁.setTop (mkF m 9 #[.val (.ref (A 11)), .val (.ref b354_b352_b340_b326), .val (.int (1 : Int32))] [])) _
    refine XS.iloadN X0.here hx rfl (hb hby own_d_jdk_43_method_13_code_9) rfl ?_
    show Steps p.tables e below (s₁.setTop (mkF m 10 #[.val (.ref (A 11)), .val (.ref b354_b352_b340_b326), .val (.int (1 : Int32))] [(.int (1 : Int32))])) _
    refine XS.aloadN X0.here hx rfl (hb hby own_d_jdk_43_method_13_code_10) rfl rfl ?_
    show Steps p.tables e below (s₁.setTop (mkF m 11 #[.val (.ref (A 11)), .val (.ref b354_b352_b340_b326), .val (.int (1 : Int32))] [(.ref (A 11)), (.int (1 : Int32))])) _
    refine X0.arraylength hx (by rw [e0]; exact Ar423.1) (State.isArrayOf_alike hZ.alike Ar423.2.1) (g := (mkF m 11 #[.val (.ref (A 11)), .val (.ref b354_b352_b340_b326), .val (.int (1 : Int32))] [(.ref (A 11)), (.int (1 : Int32))])) rfl rfl (hb hby own_d_jdk_43_method_13_code_11) _ ?_
    rw [len_of Sz423 Nn423]
    show Steps p.tables e below (s₁.setTop (mkF m 12 #[.val (.ref (A 11)), .val (.ref b354_b352_b340_b326), .val (.int (1 : Int32))] [(.int (3 : Int32)), (.int (1 : Int32))])) _
    refine XS.icmpNo X0.here hx rfl (hb hby own_d_jdk_43_method_13_code_12) rfl (tlt (by decide : (1 : Int32) < (3 : Int32))).2.1 ?_
    show Steps p.tables e below (s₁.setTop (mkF m 15 #[.val (.ref (A 11)), .val (.ref b354_b352_b340_b326), .val (.int (1 : Int32))] [])) _
    refine XS.aloadN X0.here hx rfl (hb hby own_d_jdk_43_method_13_code_15) rfl rfl ?_
    show Steps p.tables e below (s₁.setTop (mkF m 16 #[.val (.ref (A 11)), .val (.ref b354_b352_b340_b326), .val (.int (1 : Int32))] [(.ref (A 11))])) _
    refine XS.iloadN X0.here hx rfl (hb hby own_d_jdk_43_method_13_code_16) rfl ?_
    show Steps p.tables e below (s₁.setTop (mkF m 17 #[.val (.ref (A 11)), .val (.ref b354_b352_b340_b326), .val (.int (1 : Int32))] [(.int (1 : Int32)), (.ref (A 11))])) _
    refine X0.baloadBytes hx (j := (1 : Int32)) (v := (.int (46 : Int32))) (by rw [e0]; exact Ar424.1) (State.isArrayOf_alike hZ.alike Ar424.2.1) Ar424.2.2 hin424 hat424 (g := (mkF m 17 #[.val (.ref (A 11)), .val (.ref b354_b352_b340_b326), .val (.int (1 : Int32))] [(.int (1 : Int32)), (.ref (A 11))])) rfl rfl (hb hby own_d_jdk_43_method_13_code_17) _ ?_
    show Steps p.tables e below (s₁.setTop (mkF m 18 #[.val (.ref (A 11)), .val (.ref b354_b352_b340_b326), .val (.int (1 : Int32))] [(.int (46 : Int32))])) _
    refine XS.aloadN X0.here hx rfl (hb hby own_d_jdk_43_method_13_code_18) rfl rfl ?_
    show Steps p.tables e below (s₁.setTop (mkF m 19 #[.val (.ref (A 11)), .val (.ref b354_b352_b340_b326), .val (.int (1 : Int32))] [(.ref b354_b352_b340_b326), (.int (46 : Int32))])) _
    refine XS.iloadN X0.here hx rfl (hb hby own_d_jdk_43_method_13_code_19) rfl ?_
    show Steps p.tables e below (s₁.setTop (mkF m 20 #[.val (.ref (A 11)), .val (.ref b354_b352_b340_b326), .val (.int (1 : Int32))] [(.int (1 : Int32)), (.ref b354_b352_b340_b326), (.int (46 : Int32))])) _
    refine X0.baloadBytes hx (j := (1 : Int32)) (v := (.int (46 : Int32))) (by rw [e0]; exact Ar425.1) (State.isArrayOf_alike hZ.alike Ar425.2.1) Ar425.2.2 hin425 hat425 (g := (mkF m 20 #[.val (.ref (A 11)), .val (.ref b354_b352_b340_b326), .val (.int (1 : Int32))] [(.int (1 : Int32)), (.ref b354_b352_b340_b326), (.int (46 : Int32))])) rfl rfl (hb hby own_d_jdk_43_method_13_code_20) _ ?_
    show Steps p.tables e below (s₁.setTop (mkF m 21 #[.val (.ref (A 11)), .val (.ref b354_b352_b340_b326), .val (.int (1 : Int32))] [(.int (46 : Int32)), (.int (46 : Int32))])) _
    refine XS.icmpYes X0.here hx rfl (pc0 := 21) (pc' := 26) rfl (hb hby own_d_jdk_43_method_13_code_21) rfl (teq (by decide : (46 : Int32) = (46 : Int32))).1 (by decide) (by decide) ?_
    show Steps p.tables e below (s₁.setTop (mkF m 26 #[.val (.ref (A 11)), .val (.ref b354_b352_b340_b326), .val (.int (1 : Int32))] [])) _
    refine XS.iinc X0.here hx rfl (hb hby own_d_jdk_43_method_13_code_26) rfl (l' := #[.val (.ref (A 11)), .val (.ref b354_b352_b340_b326), .val (.int (2 : Int32))]) rfl ?_
    show Steps p.tables e below (s₁.setTop (mkF m 29 #[.val (.ref (A 11)), .val (.ref b354_b352_b340_b326), .val (.int (2 : Int32))] [])) _
    refine XS.goto X0.here hx rfl (pc0 := 29) (pc' := 9) rfl (hb hby own_d_jdk_43_method_13_code_29) (by decide) (by decide) ?_
    show Steps p.tables e below (s₁.setTop (mkF m 9 #[.val (.ref (A 11)), .val (.ref b354_b352_b340_b326), .val (.int (2 : Int32))] [])) _
    refine XS.iloadN X0.here hx rfl (hb hby own_d_jdk_43_method_13_code_9) rfl ?_
    show Steps p.tables e below (s₁.setTop (mkF m 10 #[.val (.ref (A 11)), .val (.ref b354_b352_b340_b326), .val (.int (2 : Int32))] [(.int (2 : Int32))])) _
    refine XS.aloadN X0.here hx rfl (hb hby own_d_jdk_43_method_13_code_10) rfl rfl ?_
    show Steps p.tables e below (s₁.setTop (mkF m 11 #[.val (.ref (A 11)), .val (.ref b354_b352_b340_b326), .val (.int (2 : Int32))] [(.ref (A 11)), (.int (2 : Int32))])) _
    refine X0.arraylength hx (by rw [e0]; exact Ar426.1) (State.isArrayOf_alike hZ.alike Ar426.2.1) (g := (mkF m 11 #[.val (.ref (A 11)), .val (.ref b354_b352_b340_b326), .val (.int (2 : Int32))] [(.ref (A 11)), (.int (2 : Int32))])) rfl rfl (hb hby own_d_jdk_43_method_13_code_11) _ ?_
    rw [len_of Sz426 Nn426]
    show Steps p.tables e below (s₁.setTop (mkF m 12 #[.val (.ref (A 11)), .val (.ref b354_b352_b340_b326), .val (.int (2 : Int32))] [(.int (3 : Int32)), (.int (2 : Int32))])) _
    refine XS.icmpNo X0.here hx rfl (hb hby own_d_jdk_43_method_13_code_12) rfl (tlt (by decide : (2 : Int32) < (3 : Int32))).2.1 ?_
    show Steps p.tables e below (s₁.setTop (mkF m 15 #[.val (.ref (A 11)), .val (.ref b354_b352_b340_b326), .val (.int (2 : Int32))] [])) _
    refine XS.aloadN X0.here hx rfl (hb hby own_d_jdk_43_method_13_code_15) rfl rfl ?_
    show Steps p.tables e below (s₁.setTop (mkF m 16 #[.val (.ref (A 11)), .val (.ref b354_b352_b340_b326), .val (.int (2 : Int32))] [(.ref (A 11))])) _
    refine XS.iloadN X0.here hx rfl (hb hby own_d_jdk_43_method_13_code_16) rfl ?_
    show Steps p.tables e below (s₁.setTop (mkF m 17 #[.val (.ref (A 11)), .val (.ref b354_b352_b340_b326), .val (.int (2 : Int32))] [(.int (2 : Int32)), (.ref (A 11))])) _
    refine X0.baloadBytes hx (j := (2 : Int32)) (v := (.int (50 : Int32))) (by rw [e0]; exact Ar427.1) (State.isArrayOf_alike hZ.alike Ar427.2.1) Ar427.2.2 hin427 hat427 (g := (mkF m 17 #[.val (.ref (A 11)), .val (.ref b354_b352_b340_b326), .val (.int (2 : Int32))] [(.int (2 : Int32)), (.ref (A 11))])) rfl rfl (hb hby own_d_jdk_43_method_13_code_17) _ ?_
    show Steps p.tables e below (s₁.setTop (mkF m 18 #[.val (.ref (A 11)), .val (.ref b354_b352_b340_b326), .val (.int (2 : Int32))] [(.int (50 : Int32))])) _
    refine XS.aloadN X0.here hx rfl (hb hby own_d_jdk_43_method_13_code_18) rfl rfl ?_
    show Steps p.tables e below (s₁.setTop (mkF m 19 #[.val (.ref (A 11)), .val (.ref b354_b352_b340_b326), .val (.int (2 : Int32))] [(.ref b354_b352_b340_b326), (.int (50 : Int32))])) _
    refine XS.iloadN X0.here hx rfl (hb hby own_d_jdk_43_method_13_code_19) rfl ?_
    show Steps p.tables e below (s₁.setTop (mkF m 20 #[.val (.ref (A 11)), .val (.ref b354_b352_b340_b326), .val (.int (2 : Int32))] [(.int (2 : Int32)), (.ref b354_b352_b340_b326), (.int (50 : Int32))])) _
    refine X0.baloadBytes hx (j := (2 : Int32)) (v := (.int (51 : Int32))) (by rw [e0]; exact Ar428.1) (State.isArrayOf_alike hZ.alike Ar428.2.1) Ar428.2.2 hin428 hat428 (g := (mkF m 20 #[.val (.ref (A 11)), .val (.ref b354_b352_b340_b326), .val (.int (2 : Int32))] [(.int (2 : Int32)), (.ref b354_b352_b340_b326), (.int (50 : Int32))])) rfl rfl (hb hby own_d_jdk_43_method_13_code_20) _ ?_
    show Steps p.tables e below (s₁.setTop (mkF m 21 #[.val (.ref (A 11)), .val (.ref b354_b352_b340_b326), .val (.int (2 : Int32))] [(.int (51 : Int32)), (.int (50 : Int32))])) _
    refine XS.icmpNo X0.here hx rfl (hb hby own_d_jdk_43_method_13_code_21) rfl (feq (by decide : ¬ ((50 : Int32) = (51 : Int32)))).1 ?_
    show Steps p.tables e below (s₁.setTop (mkF m 24 #[.val (.ref (A 11)), .val (.ref b354_b352_b340_b326), .val (.int (2 : Int32))] [])) _
    refine XS.iconst X0.here hx rfl (hb hby own_d_jdk_43_method_13_code_24) ?_
    show Steps p.tables e below (s₁.setTop (mkF m 25 #[.val (.ref (A 11)), .val (.ref b354_b352_b340_b326), .val (.int (2 : Int32))] [(.int (0 : Int32))])) _
    exact retN X0 hx (t := .boolean) Bd.returns (by simp) (hb hby own_d_jdk_43_method_13_code_25) hr
  · show PQ (some (.int (0 : Int32))) h0 n0 _ s₁.heap _
    rw [e0]
    exact ⟨rfl, N0, rfl⟩
theorem own_ef_rm48 (m : MethodId) (p1 : Int32) (A : Nat → Addr) (K : Nat → ClassId) (cs : Int32)  (b322 : Addr) (b354_b352_b340_b326 : Addr) (k354_k352_k340_k326 : ClassId) : entryFrame m #[(.ref (A 7)), (.ref b322)] 3 = mkF m 0 #[.val (.ref (A 7)), .val (.ref b322), .unset] [] := by first | (simp [entryFrame, mkF, argsToLocals, Value.category, maxLocals]; done) | rfl
set_option maxRecDepth 65536 in
set_option maxHeartbeats 40000000 in
theorem rm48 (l : Launch) (Z : State) (a0 : Array Value) (hw : ∀ d ∈ tables_1, d.before a0 Z = true) (ws : List Jvm.Cond) (h0 : Heap) (n0 : Nat) (p1 : Int32) (A : Nat → Addr) (K : Nat → ClassId) (cs : Int32)  (b322 : Addr) (b354_b352_b340_b326 : Addr) (k354_k352_k340_k326 : ClassId) (EN : own_St Z A K cs) (OL0 : Old Z n0 h0) (G_F_b322_java_lang_String_value : Fld Z h0 b322 "java/lang/String" "value" "[B" (.ref b354_b352_b340_b326)) (G_A_b354_b352_b340_b326 : Arv Z h0 b354_b352_b340_b326 k354_k352_k340_k326 .byte (3 : Int32) [(.int (51 : Int32)), (.int (46 : Int32)), (.int (51 : Int32))] (.int (0 : Int32))) (G_E_b322 : Exa Z h0 b322 "java/lang/String") (G_F_b322_java_lang_String_coder : Fld Z h0 b322 "java/lang/String" "coder" "B" (.int (0 : Int32))) :
    MetFree l own_m0 (head1 (Jvm.Cond.code own_m0 jdk_42_method_66_code 3 (some .boolean) :: ws) ({ frames := 1, cells := 0, slots := 0, locals := 14 } : Room)) (fun a U => a = #[(.ref (A 7)), (.ref b322)] ∧ Z.Warmed39 U.vm ∧ U.heap = h0) (fun _ _ _ _ _ => True) (fun _ U o U' => ∃ v L, o = .returned v ∧ (PQ (some (.int (0 : Int32))) h0 n0) v U'.heap L ∧ FrameEnd U o U' L ({ frames := 1, cells := 0, slots := 0, locals := 14 } : Room).cells ({ frames := 1, cells := 0, slots := 0, locals := 14 } : Room).slots) := by
  refine MetFree.of_bodySF (plainFor_of_name own_pn1) hisR ?_
  intro p e s m args below meth c s₁ Bd hml0 hP hK
  obtain ⟨rfl, hZ, hh⟩ := hP
  have hx := Bd.exec
  have hby := Bd.bytes
  have hml : c.maxLocals = 3 := hml0
  have hown : s.vm.findClass "java/lang/String" = some m.cls := findClass_of_methodNamed Bd.named
  have hnm := (name_of_methodNamed Bd.named Bd.method).1
  have X0 : Stand p l e ({ frames := 1, cells := 0, slots := 0, locals := 14 } : Room) s m #[(.ref (A 7)), (.ref b322)] below meth c s₁ [] 0 0 := Stand.of_body Bd
  have e0 : s₁.heap = h0 := by rw [← hh, Bd.state]; rfl
  have N0 := Fr.nil n0
  have pre0 : ∀ t, Steps p.tables e below (s₁.setTop (mkF m 0 #[.val (.ref (A 7)), .val (.ref b322), .unset] [])) t → Steps p.tables e below (s₁.setTop (entryFrame m #[(.ref (A 7)), (.ref b322)] 3)) t := fun t k => castTop (own_ef_rm48 m p1 A K cs b322 b354_b352_b340_b326 k354_k352_k340_k326) k
  have KK0 : Keep h0 h0 [] := Keep.refl _ _
  obtain ⟨T411, X411, e411, st411⟩ := instY X0 hx hZ hown (hw _ (List.mem_of_getElem? (i := 61) rfl)) e0 (Ins.self G_E_b322) (g := (mkF m 8 #[.val (.ref (A 7)), .val (.ref b322), .unset] [(.ref b322)])) rfl rfl (hb hby own_d_jdk_42_method_66_code_8)
  obtain ⟨T412, X412, e412, st412⟩ := castY X411 hx hZ hown (hw _ (List.mem_of_getElem? (i := 61) rfl)) e411 (Ins.self G_E_b322) (g := (mkF m 15 #[.val (.ref (A 7)), .val (.ref b322), .unset] [(.ref b322)])) rfl rfl (hb hby own_d_jdk_42_method_66_code_15)
  obtain ⟨T413, X413, e413, st413⟩ := getS2 X412 hx hZ hown (host := "") (Or.inl (hw _ (List.mem_of_getElem? (i := 14) rfl))) Via.refl e412 (EN.2.2.2.1.2.2.2.1.ext OL0.2) (g := (mkF m 19 #[.val (.ref (A 7)), .val (.ref b322), .val (.ref b322)] [])) rfl (hb hby own_d_jdk_42_method_66_code_19)
  obtain ⟨T414, X414, e414, st414⟩ := getF X413 hx hZ hown (host := "") (Or.inl (hw _ (List.mem_of_getElem? (i := 26) rfl))) Via.refl e413 (EN.2.2.2.2.1.1.ext OL0.2) (g := (mkF m 26 #[.val (.ref (A 7)), .val (.ref b322), .val (.ref b322)] [(.ref (A 7))])) rfl rfl (hb hby own_d_jdk_42_method_66_code_26)
  obtain ⟨T415, X415, e415, st415⟩ := getF X414 hx hZ hown (host := "") (Or.inl (hw _ (List.mem_of_getElem? (i := 26) rfl))) Via.refl e414 G_F_b322_java_lang_String_coder (g := (mkF m 30 #[.val (.ref (A 7)), .val (.ref b322), .val (.ref b322)] [(.ref b322), (.int (0 : Int32))])) rfl rfl (hb hby own_d_jdk_42_method_66_code_30)
  obtain ⟨T416, X416, e416, st416⟩ := getF X415 hx hZ hown (host := "") (Or.inl (hw _ (List.mem_of_getElem? (i := 28) rfl))) Via.refl e415 (EN.2.2.1.2.2.2.2.2.2.2.1.ext OL0.2) (g := (mkF m 37 #[.val (.ref (A 7)), .val (.ref b322), .val (.ref b322)] [(.ref (A 7))])) rfl rfl (hb hby own_d_jdk_42_method_66_code_37)
  obtain ⟨T417, X417, e417, st417⟩ := getF X416 hx hZ hown (host := "") (Or.inl (hw _ (List.mem_of_getElem? (i := 28) rfl))) Via.refl e416 G_F_b322_java_lang_String_value (g := (mkF m 41 #[.val (.ref (A 7)), .val (.ref b322), .val (.ref b322)] [(.ref b322), (.ref (A 11))])) rfl rfl (hb hby own_d_jdk_42_method_66_code_41)
  obtain ⟨_, _, ⟨T429, L429, k429, n429⟩, -, X429, ⟨Lc429, hQ429, l429, y429, z429⟩, st429⟩ := Jvm.LawKit.callS X417 hx (y := own_m1) hown (mvT hZ (hw _ (List.mem_of_getElem? (i := 62) rfl))) (mvT hZ (hw _ (List.mem_of_getElem? (i := 63) rfl))) (mvT hZ (hw _ (List.mem_of_getElem? (i := 64) rfl))) (mvT hZ (hw _ (List.mem_of_getElem? (i := 65) rfl))) (by decide) (backOf (W := 0) (rm49 l Z a0 hw [] h0 n0 p1 A K cs b354_b352_b340_b326 k354_k352_k340_k326 EN OL0 G_A_b354_b352_b340_b326) hZ (hw _ (List.mem_of_getElem? (i := 65) rfl)) (hw _ (List.mem_of_getElem? (i := 64) rfl)) (by decide) (by decide)) (g := (mkF m 44 #[.val (.ref (A 7)), .val (.ref b322), .val (.ref b322)] [(.ref b354_b352_b340_b326), (.ref (A 11))])) rfl (by rw [hml]; rfl) (argsL := [(.ref (A 11)), (.ref b354_b352_b340_b326)]) (rest := []) (lenOf own_pd6 rfl) rfl (by show 2 * 0 + _ ≤ _; exact Nat.le_of_eq rfl) (hb hby own_d_jdk_42_method_66_code_44) (fun _ _ => ⟨rfl, e417, (by decide : 0 + 0 ≤ _), (by decide : 0 + 0 ≤ _)⟩)
  dsimp only [Pt.U, Pt.locs, Pt.cells, Pt.slots] at X429 l429 y429 z429 st429 hQ429
  subst l429 y429 z429
  obtain ⟨rfl, N429q, e429⟩ := hQ429
  have N429 := Fr.app N0 N429q
  obtain ⟨fs, hr, hrun, hended, hW, hsame⟩ := X429.leave (v := some (.int (0 : Int32))) (fun h => by rw [Bd.returns] at h; cases h)
  refine ⟨_, _, pre0 _ ?_, hrun, hended, _, _, rfl, ?_, ⟨_, rfl⟩, hW, hsame.mono (by decide) (by decide)⟩
  · show Steps p.tables e below (s₁.setTop (mkF m 0 #[.val (.ref (A 7)), .val (.ref b322), .unset] [])) _
    refine XS.aloadN X0.here hx rfl (hb hby own_d_jdk_42_method_66_code_0) rfl rfl ?_
    show Steps p.tables e below (s₁.setTop (mkF m 1 #[.val (.ref (A 7)), .val (.ref b322), .unset] [(.ref (A 7))])) _
    refine XS.aloadN X0.here hx rfl (hb hby own_d_jdk_42_method_66_code_1) rfl rfl ?_
    show Steps p.tables e below (s₁.setTop (mkF m 2 #[.val (.ref (A 7)), .val (.ref b322), .unset] [(.ref b322), (.ref (A 7))])) _
    refine Jvm.RoadKit.acmp (g := (mkF m 2 #[.val (.ref (A 7)), .val (.ref b322), .unset] [(.ref b322), (.ref (A 7))])) X0 hx rfl rfl rfl (pc0 := 2) (pc' := 7) (same := false) rfl (hb hby own_d_jdk_42_method_66_code_2) rfl (decide_eq_false fun q => (Fld.ne (EN.2.2.1.2.2.2.2.2.2.2.1.ext OL0.2) G_F_b322_java_lang_String_value (fun h => arv_ne (EN.2.2.2.1.1.ext OL0.2) G_A_b354_b352_b340_b326 (Or.inr ⟨2, by decide, fun h => by injection h with h; exact absurd h (by decide)⟩) (Value.ref.inj h))) (Value.ref.inj q)) (by decide) (by decide) ?_
    show Steps p.tables e below (s₁.setTop (mkF m 7 #[.val (.ref (A 7)), .val (.ref b322), .unset] [])) _
    refine XS.aloadN X0.here hx rfl (hb hby own_d_jdk_42_method_66_code_7) rfl rfl ?_
    show Steps p.tables e below (s₁.setTop (mkF m 8 #[.val (.ref (A 7)), .val (.ref b322), .unset] [(.ref b322)])) _
    refine st411 _ ?_
    show Steps p.tables e below (T411.setTop (mkF m 11 #[.val (.ref (A 7)), .val (.ref b322), .unset] [(.int (1 : Int32))])) _
    refine XS.ifNo X411.here hx rfl (hb hby own_d_jdk_42_method_66_code_11) rfl ((if0 _ _).trans (feq (by decide : ¬ ((1 : Int32) = (0 : Int32)))).1) ?_
    show Steps p.tables e below (T411.setTop (mkF m 14 #[.val (.ref (A 7)), .val (.ref b322), .unset] [])) _
    refine XS.aloadN X411.here hx rfl (hb hby own_d_jdk_42_method_66_code_14) rfl rfl ?_
    show Steps p.tables e below (T411.setTop (mkF m 15 #[.val (.ref (A 7)), .val (.ref b322), .unset] [(.ref b322)])) _
    refine st412 _ ?_
    show Steps p.tables e below (T412.setTop (mkF m 18 #[.val (.ref (A 7)), .val (.ref b322), .unset] [(.ref b322)])) _
    refine XS.astoreN X412.here hx rfl (hb hby own_d_jdk_42_method_66_code_18) rfl rfl (l' := #[.val (.ref (A 7)), .val (.ref b322), .val (.ref b322)]) rfl ?_
    show Steps p.tables e below (T412.setTop (mkF m 19 #[.val (.ref (A 7)), .val (.ref b322), .val (.ref b322)] [])) _
    refine st413 _ ?_
    show Steps p.tables e below (T413.setTop (mkF m 22 #[.val (.ref (A 7)), .val (.ref b322), .val (.ref b322)] [(.int cs)])) _
    refine XS.ifNo X413.here hx rfl (hb hby own_d_jdk_42_method_66_code_22) rfl ((if0 _ _).trans (feq EN.2.2.2.1.2.2.2.2.1).1) ?_
    show Steps p.tables e below (T413.setTop (mkF m 25 #[.val (.ref (A 7)), .val (.ref b322), .val (.ref b322)] [])) _
    refine XS.aloadN X413.here hx rfl (hb hby own_d_jdk_42_method_66_code_25) rfl rfl ?_
    show Steps p.tables e below (T413.setTop (mkF m 26 #[.val (.ref (A 7)), .val (.ref b322), .val (.ref b322)] [(.ref (A 7))])) _
    refine st414 _ ?_
    show Steps p.tables e below (T414.setTop (mkF m 29 #[.val (.ref (A 7)), .val (.ref b322), .val (.ref b322)] [(.int (0 : Int32))])) _
    refine XS.aloadN X414.here hx rfl (hb hby own_d_jdk_42_method_66_code_29) rfl rfl ?_
    show Steps p.tables e below (T414.setTop (mkF m 30 #[.val (.ref (A 7)), .val (.ref b322), .val (.ref b322)] [(.ref b322), (.int (0 : Int32))])) _
    refine st415 _ ?_
    show Steps p.tables e below (T415.setTop (mkF m 33 #[.val (.ref (A 7)), .val (.ref b322), .val (.ref b322)] [(.int (0 : Int32)), (.int (0 : Int32))])) _
    refine XS.icmpNo X415.here hx rfl (hb hby own_d_jdk_42_method_66_code_33) rfl (teq (by decide : (0 : Int32) = (0 : Int32))).2 ?_
    show Steps p.tables e below (T415.setTop (mkF m 36 #[.val (.ref (A 7)), .val (.ref b322), .val (.ref b322)] [])) _
    refine XS.aloadN X415.here hx rfl (hb hby own_d_jdk_42_method_66_code_36) rfl rfl ?_
    show Steps p.tables e below (T415.setTop (mkF m 37 #[.val (.ref (A 7)), .val (.ref b322), .val (.ref b322)] [(.ref (A 7))])) _
    refine st416 _ ?_
    show Steps p.tables e below (T416.setTop (mkF m 40 #[.val (.ref (A 7)), .val (.ref b322), .val (.ref b322)] [(.ref (A 11))])) _
    refine XS.aloadN X416.here hx rfl (hb hby own_d_jdk_42_method_66_code_40) rfl rfl ?_
    show Steps p.tables e below (T416.setTop (mkF m 41 #[.val (.ref (A 7)), .val (.ref b322), .val (.ref b322)] [(.ref b322), (.ref (A 11))])) _
    refine st417 _ ?_
    show Steps p.tables e below (T417.setTop (mkF m 44 #[.val (.ref (A 7)), .val (.ref b322), .val (.ref b322)] [(.ref b354_b352_b340_b326), (.ref (A 11))])) _
    refine st429 _ ?_
    show Steps p.tables e below (T429.setTop (mkF m 47 #[.val (.ref (A 7)), .val (.ref b322), .val (.ref b322)] [(.int (0 : Int32))])) _
    refine XS.ifYes X429.here hx rfl (pc0 := 47) (pc' := 54) rfl (hb hby own_d_jdk_42_method_66_code_47) rfl ((if0 _ _).trans (teq (by decide : (0 : Int32) = (0 : Int32))).1) (by decide) (by decide) ?_
    show Steps p.tables e below (T429.setTop (mkF m 54 #[.val (.ref (A 7)), .val (.ref b322), .val (.ref b322)] [])) _
    refine XS.iconst X429.here hx rfl (hb hby own_d_jdk_42_method_66_code_54) ?_
    show Steps p.tables e below (T429.setTop (mkF m 55 #[.val (.ref (A 7)), .val (.ref b322), .val (.ref b322)] [(.int (0 : Int32))])) _
    exact retN X429 hx (t := .boolean) Bd.returns (by simp) (hb hby own_d_jdk_42_method_66_code_55) hr
  · show PQ (some (.int (0 : Int32))) h0 n0 _ T429.heap _
    rw [e429]
    exact ⟨rfl, N429, rfl⟩
theorem own_ef_rm51 (m : MethodId) (p1 : Int32) (A : Nat → Addr) (K : Nat → ClassId) (cs : Int32)  (b354_b352_b340_b326 : Addr) (k354_k352_k340_k326 : ClassId) : entryFrame m #[(.ref (A 12)), (.ref b354_b352_b340_b326)] 3 = mkF m 0 #[.val (.ref (A 12)), .val (.ref b354_b352_b340_b326), .unset] [] := by first | (simp [entryFrame, mkF, argsToLocals, Value.category, maxLocals]; done) | rfl
set_option maxRecDepth 65536 in
set_option maxHeartbeats 40000000 in
theorem rm51 (l : Launch) (Z : State) (a0 : Array Value) (hw : ∀ d ∈ tables_1, d.before a0 Z = true) (ws : List Jvm.Cond) (h0 : Heap) (n0 : Nat) (p1 : Int32) (A : Nat → Addr) (K : Nat → ClassId) (cs : Int32)  (b354_b352_b340_b326 : Addr) (k354_k352_k340_k326 : ClassId) (EN : own_St Z A K cs) (OL0 : Old Z n0 h0) (G_A_b354_b352_b340_b326 : Arv Z h0 b354_b352_b340_b326 k354_k352_k340_k326 .byte (3 : Int32) [(.int (51 : Int32)), (.int (46 : Int32)), (.int (51 : Int32))] (.int (0 : Int32))) :
    MetFree l own_m1 (head1 (Jvm.Cond.code own_m1 jdk_43_method_13_code 3 (some .boolean) :: ws) ({ frames := 0, cells := 0, slots := 0, locals := 0 } : Room)) (fun a U => a = #[(.ref (A 12)), (.ref b354_b352_b340_b326)] ∧ Z.Warmed39 U.vm ∧ U.heap = h0) (fun _ _ _ _ _ => True) (fun _ U o U' => ∃ v L, o = .returned v ∧ (PQ (some (.int (1 : Int32))) h0 n0) v U'.heap L ∧ FrameEnd U o U' L ({ frames := 0, cells := 0, slots := 0, locals := 0 } : Room).cells ({ frames := 0, cells := 0, slots := 0, locals := 0 } : Room).slots) := by
  refine MetFree.of_bodySF (plainFor_of_name own_pn3) hisR ?_
  intro p e s m args below meth c s₁ Bd hml0 hP hK
  obtain ⟨rfl, hZ, hh⟩ := hP
  have hx := Bd.exec
  have hby := Bd.bytes
  have hml : c.maxLocals = 3 := hml0
  have hown : s.vm.findClass "java/lang/StringLatin1" = some m.cls := findClass_of_methodNamed Bd.named
  have hnm := (name_of_methodNamed Bd.named Bd.method).1
  have X0 : Stand p l e ({ frames := 0, cells := 0, slots := 0, locals := 0 } : Room) s m #[(.ref (A 12)), (.ref b354_b352_b340_b326)] below meth c s₁ [] 0 0 := Stand.of_body Bd
  have e0 : s₁.heap = h0 := by rw [← hh, Bd.state]; rfl
  have N0 := Fr.nil n0
  have pre0 : ∀ t, Steps p.tables e below (s₁.setTop (mkF m 0 #[.val (.ref (A 12)), .val (.ref b354_b352_b340_b326), .unset] [])) t → Steps p.tables e below (s₁.setTop (entryFrame m #[(.ref (A 12)), (.ref b354_b352_b340_b326)] 3)) t := fun t k => castTop (own_ef_rm51 m p1 A K cs b354_b352_b340_b326 k354_k352_k340_k326) k
  have KK0 : Keep h0 h0 [] := Keep.refl _ _
  obtain ⟨cl440, Ar440, -, Sz440, Nn440, -, -⟩ := (id (EN.2.2.2.1.2.2.1.ext OL0.2))
  obtain ⟨cl441, Ar441, -, Sz441, Nn441, -, -⟩ := (id G_A_b354_b352_b340_b326)
  obtain ⟨cl442, Ar442, -, Sz442, Nn442, -, -⟩ := (id (EN.2.2.2.1.2.2.1.ext OL0.2))
  obtain ⟨cl443, Ar443, q443, Sz443, Nn443, Hh443, Gg443⟩ := (id (EN.2.2.2.1.2.2.1.ext OL0.2))
  have hin443 : ¬ ((0 : Int32) < 0 ∨ cl443.slots.size ≤ ((0 : Int32)).toNatClampNeg) := inb_of Sz443 ⟨by decide, by decide⟩
  have hat443 : cl443.slots[((0 : Int32)).toNatClampNeg]? = some (.int (51 : Int32)) := Has.at Hh443 hin443 rfl
  obtain ⟨cl444, Ar444, q444, Sz444, Nn444, Hh444, Gg444⟩ := (id G_A_b354_b352_b340_b326)
  have hin444 : ¬ ((0 : Int32) < 0 ∨ cl444.slots.size ≤ ((0 : Int32)).toNatClampNeg) := inb_of Sz444 ⟨by decide, by decide⟩
  have hat444 : cl444.slots[((0 : Int32)).toNatClampNeg]? = some (.int (51 : Int32)) := Has.at Hh444 hin444 rfl
  obtain ⟨cl445, Ar445, -, Sz445, Nn445, -, -⟩ := (id (EN.2.2.2.1.2.2.1.ext OL0.2))
  obtain ⟨cl446, Ar446, q446, Sz446, Nn446, Hh446, Gg446⟩ := (id (EN.2.2.2.1.2.2.1.ext OL0.2))
  have hin446 : ¬ ((1 : Int32) < 0 ∨ cl446.slots.size ≤ ((1 : Int32)).toNatClampNeg) := inb_of Sz446 ⟨by decide, by decide⟩
  have hat446 : cl446.slots[((1 : Int32)).toNatClampNeg]? = some (.int (46 : Int32)) := Has.at Hh446 hin446 rfl
  obtain ⟨cl447, Ar447, q447, Sz447, Nn447, Hh447, Gg447⟩ := (id G_A_b354_b352_b340_b326)
  have hin447 : ¬ ((1 : Int32) < 0 ∨ cl447.slots.size ≤ ((1 : Int32)).toNatClampNeg) := inb_of Sz447 ⟨by decide, by decide⟩
  have hat447 : cl447.slots[((1 : Int32)).toNatClampNeg]? = some (.int (46 : Int32)) := Has.at Hh447 hin447 rfl
  obtain ⟨cl448, Ar448, -, Sz448, Nn448, -, -⟩ := (id (EN.2.2.2.1.2.2.1.ext OL0.2))
  obtain ⟨cl449, Ar449, q449, Sz449, Nn449, Hh449, Gg449⟩ := (id (EN.2.2.2.1.2.2.1.ext OL0.2))
  have hin449 : ¬ ((2 : Int32) < 0 ∨ cl449.slots.size ≤ ((2 : Int32)).toNatClampNeg) := inb_of Sz449 ⟨by decide, by decide⟩
  have hat449 : cl449.slots[((2 : Int32)).toNatClampNeg]? = some (.int (51 : Int32)) := Has.at Hh449 hin449 rfl
  obtain ⟨cl450, Ar450, q450, Sz450, Nn450, Hh450, Gg450⟩ := (id G_A_b354_b352_b340_b326)
  have hin450 : ¬ ((2 : Int32) < 0 ∨ cl450.slots.size ≤ ((2 : Int32)).toNatClampNeg) := inb_of Sz450 ⟨by decide, by decide⟩
  have hat450 : cl450.slots[((2 : Int32)).toNatClampNeg]? = some (.int (51 : Int32)) := Has.at Hh450 hin450 rfl
  obtain ⟨cl451, Ar451, -, Sz451, Nn451, -, -⟩ := (id (EN.2.2.2.1.2.2.1.ext OL0.2))
  obtain ⟨fs, hr, hrun, hended, hW, hsame⟩ := X0.leave (v := some (.int (1 : Int32))) (fun h => by rw [Bd.returns] at h; cases h)
  refine ⟨_, _, pre0 _ ?_, hrun, hended, _, _, rfl, ?_, ⟨_, rfl⟩, hW, hsame.mono (by decide) (by decide)⟩
  · show Steps p.tables e below (s₁.setTop (mkF m 0 #[.val (.ref (A 12)), .val (.ref b354_b352_b340_b326), .unset] [])) _
    refine XS.aloadN X0.here hx rfl (hb hby own_d_jdk_43_method_13_code_0) rfl rfl ?_
    show Steps p.tables e below (s₁.setTop (mkF m 1 #[.val (.ref (A 12)), .val (.ref b354_b352_b340_b326), .unset] [(.ref (A 12))])) _
    refine X0.arraylength hx (by rw [e0]; exact Ar440.1) (State.isArrayOf_alike hZ.alike Ar440.2.1) (g := (mkF m 1 #[.val (.ref (A 12)), .val (.ref b354_b352_b340_b326), .unset] [(.ref (A 12))])) rfl rfl (hb hby own_d_jdk_43_method_13_code_1) _ ?_
    rw [len_of Sz440 Nn440]
    show Steps p.tables e below (s₁.setTop (mkF m 2 #[.val (.ref (A 12)), .val (.ref b354_b352_b340_b326), .unset] [(.int (3 : Int32))])) _
    refine XS.aloadN X0.here hx rfl (hb hby own_d_jdk_43_method_13_code_2) rfl rfl ?_
    show Steps p.tables e below (s₁.setTop (mkF m 3 #[.val (.ref (A 12)), .val (.ref b354_b352_b340_b326), .unset] [(.ref b354_b352_b340_b326), (.int (3 : Int32))])) _
    refine X0.arraylength hx (by rw [e0]; exact Ar441.1) (State.isArrayOf_alike hZ.alike Ar441.2.1) (g := (mkF m 3 #[.val (.ref (A 12)), .val (.ref b354_b352_b340_b326), .unset] [(.ref b354_b352_b340_b326), (.int (3 : Int32))])) rfl rfl (hb hby own_d_jdk_43_method_13_code_3) _ ?_
    rw [len_of Sz441 Nn441]
    show Steps p.tables e below (s₁.setTop (mkF m 4 #[.val (.ref (A 12)), .val (.ref b354_b352_b340_b326), .unset] [(.int (3 : Int32)), (.int (3 : Int32))])) _
    refine XS.icmpNo X0.here hx rfl (hb hby own_d_jdk_43_method_13_code_4) rfl (teq (by decide : (3 : Int32) = (3 : Int32))).2 ?_
    show Steps p.tables e below (s₁.setTop (mkF m 7 #[.val (.ref (A 12)), .val (.ref b354_b352_b340_b326), .unset] [])) _
    refine XS.iconst X0.here hx rfl (hb hby own_d_jdk_43_method_13_code_7) ?_
    show Steps p.tables e below (s₁.setTop (mkF m 8 #[.val (.ref (A 12)), .val (.ref b354_b352_b340_b326), .unset] [(.int (0 : Int32))])) _
    refine XS.istoreN X0.here hx rfl (hb hby own_d_jdk_43_method_13_code_8) rfl (l' := #[.val (.ref (A 12)), .val (.ref b354_b352_b340_b326), .val (.int (0 : Int32))]) rfl ?_
    show Steps p.tables e below (s₁.setTop (mkF m 9 #[.val (.ref (A 12)), .val (.ref b354_b352_b340_b326), .val (.int (0 : Int32))] [])) _
    refine XS.iloadN X0.here hx rfl (hb hby own_d_jdk_43_method_13_code_9) rfl ?_
    show Steps p.tables e below (s₁.setTop (mkF m 10 #[.val (.ref (A 12)), .val (.ref b354_b352_b340_b326), .val (.int (0 : Int32))] [(.int (0 : Int32))])) _
    refine XS.aloadN X0.here hx rfl (hb hby own_d_jdk_43_method_13_code_10) rfl rfl ?_
    show Steps p.tables e below (s₁.setTop (mkF m 11 #[.val (.ref (A 12)), .val (.ref b354_b352_b340_b326), .val (.int (0 : Int32))] [(.ref (A 12)), (.int (0 : Int32))])) _
    refine X0.arraylength hx (by rw [e0]; exact Ar442.1) (State.isArrayOf_alike hZ.alike Ar442.2.1) (g := (mkF m 11 #[.val (.ref (A 12)), .val (.ref b354_b352_b340_b326), .val (.int (0 : Int32))] [(.ref (A 12)), (.int (0 : Int32))])) rfl rfl (hb hby own_d_jdk_43_method_13_code_11) _ ?_
    rw [len_of Sz442 Nn442]
    show Steps p.tables e below (s₁.setTop (mkF m 12 #[.val (.ref (A 12)), .val (.ref b354_b352_b340_b326), .val (.int (0 : Int32))] [(.int (3 : Int32)), (.int (0 : Int32))])) _
    refine XS.icmpNo X0.here hx rfl (hb hby own_d_jdk_43_method_13_code_12) rfl (tlt (by decide : (0 : Int32) < (3 : Int32))).2.1 ?_
    show Steps p.tables e below (s₁.setTop (mkF m 15 #[.val (.ref (A 12)), .val (.ref b354_b352_b340_b326), .val (.int (0 : Int32))] [])) _
    refine XS.aloadN X0.here hx rfl (hb hby own_d_jdk_43_method_13_code_15) rfl rfl ?_
    show Steps p.tables e below (s₁.setTop (mkF m 16 #[.val (.ref (A 12)), .val (.ref b354_b352_b340_b326), .val (.int (0 : Int32))] [(.ref (A 12))])) _
    refine XS.iloadN X0.here hx rfl (hb hby own_d_jdk_43_method_13_code_16) rfl ?_
    show Steps p.tables e below (s₁.setTop (mkF m 17 #[.val (.ref (A 12)), .val (.ref b354_b352_b340_b326), .val (.int (0 : Int32))] [(.int (0 : Int32)), (.ref (A 12))])) _
    refine X0.baloadBytes hx (j := (0 : Int32)) (v := (.int (51 : Int32))) (by rw [e0]; exact Ar443.1) (State.isArrayOf_alike hZ.alike Ar443.2.1) Ar443.2.2 hin443 hat443 (g := (mkF m 17 #[.val (.ref (A 12)), .val (.ref b354_b352_b340_b326), .val (.int (0 : Int32))] [(.int (0 : Int32)), (.ref (A 12))])) rfl rfl (hb hby own_d_jdk_43_method_13_code_17) _ ?_
    show Steps p.tables e below (s₁.setTop (mkF m 18 #[.val (.ref (A 12)), .val (.ref b354_b352_b340_b326), .val (.int (0 : Int32))] [(.int (51 : Int32))])) _
    refine XS.aloadN X0.here hx rfl (hb hby own_d_jdk_43_method_13_code_18) rfl rfl ?_
    show Steps p.tables e below (s₁.setTop (mkF m 19 #[.val (.ref (A 12)), .val (.ref b354_b352_b340_b326), .val (.int (0 : Int32))] [(.ref b354_b352_b340_b326), (.int (51 : Int32))])) _
    refine XS.iloadN X0.here hx rfl (hb hby own_d_jdk_43_method_13_code_19) rfl ?_
    show Steps p.tables e below (s₁.setTop (mkF m 20 #[.val (.ref (A 12)), .val (.ref b354_b352_b340_b326), .val (.int (0 : Int32))] [(.int (0 : Int32)), (.ref b354_b352_b340_b326), (.int (51 : Int32))])) _
    refine X0.baloadBytes hx (j := (0 : Int32)) (v := (.int (51 : Int32))) (by rw [e0]; exact Ar444.1) (State.isArrayOf_alike hZ.alike Ar444.2.1) Ar444.2.2 hin444 hat444 (g := (mkF m 20 #[.val (.ref (A 12)), .val (.ref b354_b352_b340_b326), .val (.int (0 : Int32))] [(.int (0 : Int32)), (.ref b354_b352_b340_b326), (.int (51 : Int32))])) rfl rfl (hb hby own_d_jdk_43_method_13_code_20) _ ?_
    show Steps p.tables e below (s₁.setTop (mkF m 21 #[.val (.ref (A 12)), .val (.ref b354_b352_b340_b326), .val (.int (0 : Int32))] [(.int (51 : Int32)), (.int (51 : Int32))])) _
    refine XS.icmpYes X0.here hx rfl (pc0 := 21) (pc' := 26) rfl (hb hby own_d_jdk_43_method_13_code_21) rfl (teq (by decide : (51 : Int32) = (51 : Int32))).1 (by decide) (by decide) ?_
    show Steps p.tables e below (s₁.setTop (mkF m 26 #[.val (.ref (A 12)), .val (.ref b354_b352_b340_b326), .val (.int (0 : Int32))] [])) _
    refine XS.iinc X0.here hx rfl (hb hby own_d_jdk_43_method_13_code_26) rfl (l' := #[.val (.ref (A 12)), .val (.ref b354_b352_b340_b326), .val (.int (1 : Int32))]) rfl ?_
    show Steps p.tables e below (s₁.setTop (mkF m 29 #[.val (.ref (A 12)), .val (.ref b354_b352_b340_b326), .val (.int (1 : Int32))] [])) _
    refine XS.goto X0.here hx rfl (pc0 := 29) (pc' := 9) rfl (hb hby own_d_jdk_43_method_13_code_29) (by decide) (by decide) ?_
    show Steps p.tables e below (s₁.setTop (mkF m 9 #[.val (.ref (A 12)), .val (.ref b354_b352_b340_b326), .val (.int (1 : Int32))] [])) _
    refine XS.iloadN X0.here hx rfl (hb hby own_d_jdk_43_method_13_code_9) rfl ?_
    show Steps p.tables e below (s₁.setTop (mkF m 10 #[.val (.ref (A 12)), .val (.ref b354_b352_b340_b326), .val (.int (1 : Int32))] [(.int (1 : Int32))])) _
    refine XS.aloadN X0.here hx rfl (hb hby own_d_jdk_43_method_13_code_10) rfl rfl ?_
    show Steps p.tables e below (s₁.setTop (mkF m 11 #[.val (.ref (A 12)), .val (.ref b354_b352_b340_b326), .val (.int (1 : Int32))] [(.ref (A 12)), (.int (1 : Int32))])) _
    refine X0.arraylength hx (by rw [e0]; exact Ar445.1) (State.isArrayOf_alike hZ.alike Ar445.2.1) (g := (mkF m 11 #[.val (.ref (A 12)), .val (.ref b354_b352_b340_b326), .val (.int (1 : Int32))] [(.ref (A 12)), (.int (1 : Int32))])) rfl rfl (hb hby own_d_jdk_43_method_13_code_11) _ ?_
    rw [len_of Sz445 Nn445]
    show Steps p.tables e below (s₁.setTop (mkF m 12 #[.val (.ref (A 12)), .val (.ref b354_b352_b340_b326), .val (.int (1 : Int32))] [(.int (3 : Int32)), (.int (1 : Int32))])) _
    refine XS.icmpNo X0.here hx rfl (hb hby own_d_jdk_43_method_13_code_12) rfl (tlt (by decide : (1 : Int32) < (3 : Int32))).2.1 ?_
    show Steps p.tables e below (s₁.setTop (mkF m 15 #[.val (.ref (A 12)), .val (.ref b354_b352_b340_b326), .val (.int (1 : Int32))] [])) _
    refine XS.aloadN X0.here hx rfl (hb hby own_d_jdk_43_method_13_code_15) rfl rfl ?_
    show Steps p.tables e below (s₁.setTop (mkF m 16 #[.val (.ref (A 12)), .val (.ref b354_b352_b340_b326), .val (.int (1 : Int32))] [(.ref (A 12))])) _
    refine XS.iloadN X0.here hx rfl (hb hby own_d_jdk_43_method_13_code_16) rfl ?_
    show Steps p.tables e below (s₁.setTop (mkF m 17 #[.val (.ref (A 12)), .val (.ref b354_b352_b340_b326), .val (.int (1 : Int32))] [(.int (1 : Int32)), (.ref (A 12))])) _
    refine X0.baloadBytes hx (j := (1 : Int32)) (v := (.int (46 : Int32))) (by rw [e0]; exact Ar446.1) (State.isArrayOf_alike hZ.alike Ar446.2.1) Ar446.2.2 hin446 hat446 (g := (mkF m 17 #[.val (.ref (A 12)), .val (.ref b354_b352_b340_b326), .val (.int (1 : Int32))] [(.int (1 : Int32)), (.ref (A 12))])) rfl rfl (hb hby own_d_jdk_43_method_13_code_17) _ ?_
    show Steps p.tables e below (s₁.setTop (mkF m 18 #[.val (.ref (A 12)), .val (.ref b354_b352_b340_b326), .val (.int (1 : Int32))] [(.int (46 : Int32))])) _
    refine XS.aloadN X0.here hx rfl (hb hby own_d_jdk_43_method_13_code_18) rfl rfl ?_
    show Steps p.tables e below (s₁.setTop (mkF m 19 #[.val (.ref (A 12)), .val (.ref b354_b352_b340_b326), .val (.int (1 : Int32))] [(.ref b354_b352_b340_b326), (.int (46 : Int32))])) _
    refine XS.iloadN X0.here hx rfl (hb hby own_d_jdk_43_method_13_code_19) rfl ?_
    show Steps p.tables e below (s₁.setTop (mkF m 20 #[.val (.ref (A 12)), .val (.ref b354_b352_b340_b326), .val (.int (1 : Int32))] [(.int (1 : Int32)), (.ref b354_b352_b340_b326), (.int (46 : Int32))])) _
    refine X0.baloadBytes hx (j := (1 : Int32)) (v := (.int (46 : Int32))) (by rw [e0]; exact Ar447.1) (State.isArrayOf_alike hZ.alike Ar447.2.1) Ar447.2.2 hin447 hat447 (g := (mkF m 20 #[.val (.ref (A 12)), .val (.ref b354_b352_b340_b326), .val (.int (1 : Int32))] [(.int (1 : Int32)), (.ref b354_b352_b340_b326), (.int (46 : Int32))])) rfl rfl (hb hby own_d_jdk_43_method_13_code_20) _ ?_
    show Steps p.tables e below (s₁.setTop (mkF m 21 #[.val (.ref (A 12)), .val (.ref b354_b352_b340_b326), .val (.int (1 : Int32))] [(.int (46 : Int32)), (.int (46 : Int32))])) _
    refine XS.icmpYes X0.here hx rfl (pc0 := 21) (pc' := 26) rfl (hb hby own_d_jdk_43_method_13_code_21) rfl (teq (by decide : (46 : Int32) = (46 : Int32))).1 (by decide) (by decide) ?_
    show Steps p.tables e below (s₁.setTop (mkF m 26 #[.val (.ref (A 12)), .val (.ref b354_b352_b340_b326), .val (.int (1 : Int32))] [])) _
    refine XS.iinc X0.here hx rfl (hb hby own_d_jdk_43_method_13_code_26) rfl (l' := #[.val (.ref (A 12)), .val (.ref b354_b352_b340_b326), .val (.int (2 : Int32))]) rfl ?_
    show Steps p.tables e below (s₁.setTop (mkF m 29 #[.val (.ref (A 12)), .val (.ref b354_b352_b340_b326), .val (.int (2 : Int32))] [])) _
    refine XS.goto X0.here hx rfl (pc0 := 29) (pc' := 9) rfl (hb hby own_d_jdk_43_method_13_code_29) (by decide) (by decide) ?_
    show Steps p.tables e below (s₁.setTop (mkF m 9 #[.val (.ref (A 12)), .val (.ref b354_b352_b340_b326), .val (.int (2 : Int32))] [])) _
    refine XS.iloadN X0.here hx rfl (hb hby own_d_jdk_43_method_13_code_9) rfl ?_
    show Steps p.tables e below (s₁.setTop (mkF m 10 #[.val (.ref (A 12)), .val (.ref b354_b352_b340_b326), .val (.int (2 : Int32))] [(.int (2 : Int32))])) _
    refine XS.aloadN X0.here hx rfl (hb hby own_d_jdk_43_method_13_code_10) rfl rfl ?_
    show Steps p.tables e below (s₁.setTop (mkF m 11 #[.val (.ref (A 12)), .val (.ref b354_b352_b340_b326), .val (.int (2 : Int32))] [(.ref (A 12)), (.int (2 : Int32))])) _
    refine X0.arraylength hx (by rw [e0]; exact Ar448.1) (State.isArrayOf_alike hZ.alike Ar448.2.1) (g := (mkF m 11 #[.val (.ref (A 12)), .val (.ref b354_b352_b340_b326), .val (.int (2 : Int32))] [(.ref (A 12)), (.int (2 : Int32))])) rfl rfl (hb hby own_d_jdk_43_method_13_code_11) _ ?_
    rw [len_of Sz448 Nn448]
    show Steps p.tables e below (s₁.setTop (mkF m 12 #[.val (.ref (A 12)), .val (.ref b354_b352_b340_b326), .val (.int (2 : Int32))] [(.int (3 : Int32)), (.int (2 : Int32))])) _
    refine XS.icmpNo X0.here hx rfl (hb hby own_d_jdk_43_method_13_code_12) rfl (tlt (by decide : (2 : Int32) < (3 : Int32))).2.1 ?_
    show Steps p.tables e below (s₁.setTop (mkF m 15 #[.val (.ref (A 12)), .val (.ref b354_b352_b340_b326), .val (.int (2 : Int32))] [])) _
    refine XS.aloadN X0.here hx rfl (hb hby own_d_jdk_43_method_13_code_15) rfl rfl ?_
    show Steps p.tables e below (s₁.setTop (mkF m 16 #[.val (.ref (A 12)), .val (.ref b354_b352_b340_b326), .val (.int (2 : Int32))] [(.ref (A 12))])) _
    refine XS.iloadN X0.here hx rfl (hb hby own_d_jdk_43_method_13_code_16) rfl ?_
    show Steps p.tables e below (s₁.setTop (mkF m 17 #[.val (.ref (A 12)), .val (.ref b354_b352_b340_b326), .val (.int (2 : Int32))] [(.int (2 : Int32)), (.ref (A 12))])) _
    refine X0.baloadBytes hx (j := (2 : Int32)) (v := (.int (51 : Int32))) (by rw [e0]; exact Ar449.1) (State.isArrayOf_alike hZ.alike Ar449.2.1) Ar449.2.2 hin449 hat449 (g := (mkF m 17 #[.val (.ref (A 12)), .val (.ref b354_b352_b340_b326), .val (.int (2 : Int32))] [(.int (2 : Int32)), (.ref (A 12))])) rfl rfl (hb hby own_d_jdk_43_method_13_code_17) _ ?_
    show Steps p.tables e below (s₁.setTop (mkF m 18 #[.val (.ref (A 12)), .val (.ref b354_b352_b340_b326), .val (.int (2 : Int32))] [(.int (51 : Int32))])) _
    refine XS.aloadN X0.here hx rfl (hb hby own_d_jdk_43_method_13_code_18) rfl rfl ?_
    show Steps p.tables e below (s₁.setTop (mkF m 19 #[.val (.ref (A 12)), .val (.ref b354_b352_b340_b326), .val (.int (2 : Int32))] [(.ref b354_b352_b340_b326), (.int (51 : Int32))])) _
    refine XS.iloadN X0.here hx rfl (hb hby own_d_jdk_43_method_13_code_19) rfl ?_
    show Steps p.tables e below (s₁.setTop (mkF m 20 #[.val (.ref (A 12)), .val (.ref b354_b352_b340_b326), .val (.int (2 : Int32))] [(.int (2 : Int32)), (.ref b354_b352_b340_b326), (.int (51 : Int32))])) _
    refine X0.baloadBytes hx (j := (2 : Int32)) (v := (.int (51 : Int32))) (by rw [e0]; exact Ar450.1) (State.isArrayOf_alike hZ.alike Ar450.2.1) Ar450.2.2 hin450 hat450 (g := (mkF m 20 #[.val (.ref (A 12)), .val (.ref b354_b352_b340_b326), .val (.int (2 : Int32))] [(.int (2 : Int32)), (.ref b354_b352_b340_b326), (.int (51 : Int32))])) rfl rfl (hb hby own_d_jdk_43_method_13_code_20) _ ?_
    show Steps p.tables e below (s₁.setTop (mkF m 21 #[.val (.ref (A 12)), .val (.ref b354_b352_b340_b326), .val (.int (2 : Int32))] [(.int (51 : Int32)), (.int (51 : Int32))])) _
    refine XS.icmpYes X0.here hx rfl (pc0 := 21) (pc' := 26) rfl (hb hby own_d_jdk_43_method_13_code_21) rfl (teq (by decide : (51 : Int32) = (51 : Int32))).1 (by decide) (by decide) ?_
    show Steps p.tables e below (s₁.setTop (mkF m 26 #[.val (.ref (A 12)), .val (.ref b354_b352_b340_b326), .val (.int (2 : Int32))] [])) _
    refine XS.iinc X0.here hx rfl (hb hby own_d_jdk_43_method_13_code_26) rfl (l' := #[.val (.ref (A 12)), .val (.ref b354_b352_b340_b326), .val (.int (3 : Int32))]) rfl ?_
    show Steps p.tables e below (s₁.setTop (mkF m 29 #[.val (.ref (A 12)), .val (.ref b354_b352_b340_b326), .val (.int (3 : Int32))] [])) _
    refine XS.goto X0.here hx rfl (pc0 := 29) (pc' := 9) rfl (hb hby own_d_jdk_43_method_13_code_29) (by decide) (by decide) ?_
    show Steps p.tables e below (s₁.setTop (mkF m 9 #[.val (.ref (A 12)), .val (.ref b354_b352_b340_b326), .val (.int (3 : Int32))] [])) _
    refine XS.iloadN X0.here hx rfl (hb hby own_d_jdk_43_method_13_code_9) rfl ?_
    show Steps p.tables e below (s₁.setTop (mkF m 10 #[.val (.ref (A 12)), .val (.ref b354_b352_b340_b326), .val (.int (3 : Int32))] [(.int (3 : Int32))])) _
    refine XS.aloadN X0.here hx rfl (hb hby own_d_jdk_43_method_13_code_10) rfl rfl ?_
    show Steps p.tables e below (s₁.setTop (mkF m 11 #[.val (.ref (A 12)), .val (.ref b354_b352_b340_b326), .val (.int (3 : Int32))] [(.ref (A 12)), (.int (3 : Int32))])) _
    refine X0.arraylength hx (by rw [e0]; exact Ar451.1) (State.isArrayOf_alike hZ.alike Ar451.2.1) (g := (mkF m 11 #[.val (.ref (A 12)), .val (.ref b354_b352_b340_b326), .val (.int (3 : Int32))] [(.ref (A 12)), (.int (3 : Int32))])) rfl rfl (hb hby own_d_jdk_43_method_13_code_11) _ ?_
    rw [len_of Sz451 Nn451]
    show Steps p.tables e below (s₁.setTop (mkF m 12 #[.val (.ref (A 12)), .val (.ref b354_b352_b340_b326), .val (.int (3 : Int32))] [(.int (3 : Int32)), (.int (3 : Int32))])) _
    refine XS.icmpYes X0.here hx rfl (pc0 := 12) (pc' := 32) rfl (hb hby own_d_jdk_43_method_13_code_12) rfl (flt (by decide : ¬ ((3 : Int32) < (3 : Int32)))).2.1 (by decide) (by decide) ?_
    show Steps p.tables e below (s₁.setTop (mkF m 32 #[.val (.ref (A 12)), .val (.ref b354_b352_b340_b326), .val (.int (3 : Int32))] [])) _
    refine XS.iconst X0.here hx rfl (hb hby own_d_jdk_43_method_13_code_32) ?_
    show Steps p.tables e below (s₁.setTop (mkF m 33 #[.val (.ref (A 12)), .val (.ref b354_b352_b340_b326), .val (.int (3 : Int32))] [(.int (1 : Int32))])) _
    exact retN X0 hx (t := .boolean) Bd.returns (by simp) (hb hby own_d_jdk_43_method_13_code_33) hr
  · show PQ (some (.int (1 : Int32))) h0 n0 _ s₁.heap _
    rw [e0]
    exact ⟨rfl, N0, rfl⟩
theorem own_ef_rm50 (m : MethodId) (p1 : Int32) (A : Nat → Addr) (K : Nat → ClassId) (cs : Int32)  (b322 : Addr) (b354_b352_b340_b326 : Addr) (k354_k352_k340_k326 : ClassId) : entryFrame m #[(.ref (A 8)), (.ref b322)] 3 = mkF m 0 #[.val (.ref (A 8)), .val (.ref b322), .unset] [] := by first | (simp [entryFrame, mkF, argsToLocals, Value.category, maxLocals]; done) | rfl
set_option maxRecDepth 65536 in
set_option maxHeartbeats 40000000 in
theorem rm50 (l : Launch) (Z : State) (a0 : Array Value) (hw : ∀ d ∈ tables_1, d.before a0 Z = true) (ws : List Jvm.Cond) (h0 : Heap) (n0 : Nat) (p1 : Int32) (A : Nat → Addr) (K : Nat → ClassId) (cs : Int32)  (b322 : Addr) (b354_b352_b340_b326 : Addr) (k354_k352_k340_k326 : ClassId) (EN : own_St Z A K cs) (OL0 : Old Z n0 h0) (G_F_b322_java_lang_String_value : Fld Z h0 b322 "java/lang/String" "value" "[B" (.ref b354_b352_b340_b326)) (G_A_b354_b352_b340_b326 : Arv Z h0 b354_b352_b340_b326 k354_k352_k340_k326 .byte (3 : Int32) [(.int (51 : Int32)), (.int (46 : Int32)), (.int (51 : Int32))] (.int (0 : Int32))) (G_E_b322 : Exa Z h0 b322 "java/lang/String") (G_F_b322_java_lang_String_coder : Fld Z h0 b322 "java/lang/String" "coder" "B" (.int (0 : Int32))) (gn_b322 : n0 ≤ b322) :
    MetFree l own_m0 (head1 (Jvm.Cond.code own_m0 jdk_42_method_66_code 3 (some .boolean) :: ws) ({ frames := 1, cells := 0, slots := 0, locals := 14 } : Room)) (fun a U => a = #[(.ref (A 8)), (.ref b322)] ∧ Z.Warmed39 U.vm ∧ U.heap = h0) (fun _ _ _ _ _ => True) (fun _ U o U' => ∃ v L, o = .returned v ∧ (PQ (some (.int (1 : Int32))) h0 n0) v U'.heap L ∧ FrameEnd U o U' L ({ frames := 1, cells := 0, slots := 0, locals := 14 } : Room).cells ({ frames := 1, cells := 0, slots := 0, locals := 14 } : Room).slots) := by
  refine MetFree.of_bodySF (plainFor_of_name own_pn1) hisR ?_
  intro p e s m args below meth c s₁ Bd hml0 hP hK
  obtain ⟨rfl, hZ, hh⟩ := hP
  have hx := Bd.exec
  have hby := Bd.bytes
  have hml : c.maxLocals = 3 := hml0
  have hown : s.vm.findClass "java/lang/String" = some m.cls := findClass_of_methodNamed Bd.named
  have hnm := (name_of_methodNamed Bd.named Bd.method).1
  have X0 : Stand p l e ({ frames := 1, cells := 0, slots := 0, locals := 14 } : Room) s m #[(.ref (A 8)), (.ref b322)] below meth c s₁ [] 0 0 := Stand.of_body Bd
  have e0 : s₁.heap = h0 := by rw [← hh, Bd.state]; rfl
  have N0 := Fr.nil n0
  have pre0 : ∀ t, Steps p.tables e below (s₁.setTop (mkF m 0 #[.val (.ref (A 8)), .val (.ref b322), .unset] [])) t → Steps p.tables e below (s₁.setTop (entryFrame m #[(.ref (A 8)), (.ref b322)] 3)) t := fun t k => castTop (own_ef_rm50 m p1 A K cs b322 b354_b352_b340_b326 k354_k352_k340_k326) k
  have KK0 : Keep h0 h0 [] := Keep.refl _ _
  obtain ⟨T433, X433, e433, st433⟩ := instY X0 hx hZ hown (hw _ (List.mem_of_getElem? (i := 61) rfl)) e0 (Ins.self G_E_b322) (g := (mkF m 8 #[.val (.ref (A 8)), .val (.ref b322), .unset] [(.ref b322)])) rfl rfl (hb hby own_d_jdk_42_method_66_code_8)
  obtain ⟨T434, X434, e434, st434⟩ := castY X433 hx hZ hown (hw _ (List.mem_of_getElem? (i := 61) rfl)) e433 (Ins.self G_E_b322) (g := (mkF m 15 #[.val (.ref (A 8)), .val (.ref b322), .unset] [(.ref b322)])) rfl rfl (hb hby own_d_jdk_42_method_66_code_15)
  obtain ⟨T435, X435, e435, st435⟩ := getS2 X434 hx hZ hown (host := "") (Or.inl (hw _ (List.mem_of_getElem? (i := 14) rfl))) Via.refl e434 (EN.2.2.2.1.2.2.2.1.ext OL0.2) (g := (mkF m 19 #[.val (.ref (A 8)), .val (.ref b322), .val (.ref b322)] [])) rfl (hb hby own_d_jdk_42_method_66_code_19)
  obtain ⟨T436, X436, e436, st436⟩ := getF X435 hx hZ hown (host := "") (Or.inl (hw _ (List.mem_of_getElem? (i := 26) rfl))) Via.refl e435 (EN.2.2.2.2.1.2.1.ext OL0.2) (g := (mkF m 26 #[.val (.ref (A 8)), .val (.ref b322), .val (.ref b322)] [(.ref (A 8))])) rfl rfl (hb hby own_d_jdk_42_method_66_code_26)
  obtain ⟨T437, X437, e437, st437⟩ := getF X436 hx hZ hown (host := "") (Or.inl (hw _ (List.mem_of_getElem? (i := 26) rfl))) Via.refl e436 G_F_b322_java_lang_String_coder (g := (mkF m 30 #[.val (.ref (A 8)), .val (.ref b322), .val (.ref b322)] [(.ref b322), (.int (0 : Int32))])) rfl rfl (hb hby own_d_jdk_42_method_66_code_30)
  obtain ⟨T438, X438, e438, st438⟩ := getF X437 hx hZ hown (host := "") (Or.inl (hw _ (List.mem_of_getElem? (i := 28) rfl))) Via.refl e437 (EN.2.2.2.1.2.1.ext OL0.2) (g := (mkF m 37 #[.val (.ref (A 8)), .val (.ref b322), .val (.ref b322)] [(.ref (A 8))])) rfl rfl (hb hby own_d_jdk_42_method_66_code_37)
  obtain ⟨T439, X439, e439, st439⟩ := getF X438 hx hZ hown (host := "") (Or.inl (hw _ (List.mem_of_getElem? (i := 28) rfl))) Via.refl e438 G_F_b322_java_lang_String_value (g := (mkF m 41 #[.val (.ref (A 8)), .val (.ref b322), .val (.ref b322)] [(.ref b322), (.ref (A 12))])) rfl rfl (hb hby own_d_jdk_42_method_66_code_41)
  obtain ⟨_, _, ⟨T452, L452, k452, n452⟩, -, X452, ⟨Lc452, hQ452, l452, y452, z452⟩, st452⟩ := Jvm.LawKit.callS X439 hx (y := own_m1) hown (mvT hZ (hw _ (List.mem_of_getElem? (i := 62) rfl))) (mvT hZ (hw _ (List.mem_of_getElem? (i := 63) rfl))) (mvT hZ (hw _ (List.mem_of_getElem? (i := 64) rfl))) (mvT hZ (hw _ (List.mem_of_getElem? (i := 65) rfl))) (by decide) (backOf (W := 0) (rm51 l Z a0 hw [] h0 n0 p1 A K cs b354_b352_b340_b326 k354_k352_k340_k326 EN OL0 G_A_b354_b352_b340_b326) hZ (hw _ (List.mem_of_getElem? (i := 65) rfl)) (hw _ (List.mem_of_getElem? (i := 64) rfl)) (by decide) (by decide)) (g := (mkF m 44 #[.val (.ref (A 8)), .val (.ref b322), .val (.ref b322)] [(.ref b354_b352_b340_b326), (.ref (A 12))])) rfl (by rw [hml]; rfl) (argsL := [(.ref (A 12)), (.ref b354_b352_b340_b326)]) (rest := []) (lenOf own_pd6 rfl) rfl (by show 2 * 0 + _ ≤ _; exact Nat.le_of_eq rfl) (hb hby own_d_jdk_42_method_66_code_44) (fun _ _ => ⟨rfl, e439, (by decide : 0 + 0 ≤ _), (by decide : 0 + 0 ≤ _)⟩)
  dsimp only [Pt.U, Pt.locs, Pt.cells, Pt.slots] at X452 l452 y452 z452 st452 hQ452
  subst l452 y452 z452
  obtain ⟨rfl, N452q, e452⟩ := hQ452
  have N452 := Fr.app N0 N452q
  obtain ⟨fs, hr, hrun, hended, hW, hsame⟩ := X452.leave (v := some (.int (1 : Int32))) (fun h => by rw [Bd.returns] at h; cases h)
  refine ⟨_, _, pre0 _ ?_, hrun, hended, _, _, rfl, ?_, ⟨_, rfl⟩, hW, hsame.mono (by decide) (by decide)⟩
  · show Steps p.tables e below (s₁.setTop (mkF m 0 #[.val (.ref (A 8)), .val (.ref b322), .unset] [])) _
    refine XS.aloadN X0.here hx rfl (hb hby own_d_jdk_42_method_66_code_0) rfl rfl ?_
    show Steps p.tables e below (s₁.setTop (mkF m 1 #[.val (.ref (A 8)), .val (.ref b322), .unset] [(.ref (A 8))])) _
    refine XS.aloadN X0.here hx rfl (hb hby own_d_jdk_42_method_66_code_1) rfl rfl ?_
    show Steps p.tables e below (s₁.setTop (mkF m 2 #[.val (.ref (A 8)), .val (.ref b322), .unset] [(.ref b322), (.ref (A 8))])) _
    refine Jvm.RoadKit.acmp (g := (mkF m 2 #[.val (.ref (A 8)), .val (.ref b322), .unset] [(.ref b322), (.ref (A 8))])) X0 hx rfl rfl rfl (pc0 := 2) (pc' := 7) (same := false) rfl (hb hby own_d_jdk_42_method_66_code_2) rfl (decide_eq_false fun q => (OL0.ne EN.2.2.1.2.2.1.lt gn_b322) (Value.ref.inj q)) (by decide) (by decide) ?_
    show Steps p.tables e below (s₁.setTop (mkF m 7 #[.val (.ref (A 8)), .val (.ref b322), .unset] [])) _
    refine XS.aloadN X0.here hx rfl (hb hby own_d_jdk_42_method_66_code_7) rfl rfl ?_
    show Steps p.tables e below (s₁.setTop (mkF m 8 #[.val (.ref (A 8)), .val (.ref b322), .unset] [(.ref b322)])) _
    refine st433 _ ?_
    show Steps p.tables e below (T433.setTop (mkF m 11 #[.val (.ref (A 8)), .val (.ref b322), .unset] [(.int (1 : Int32))])) _
    refine XS.ifNo X433.here hx rfl (hb hby own_d_jdk_42_method_66_code_11) rfl ((if0 _ _).trans (feq (by decide : ¬ ((1 : Int32) = (0 : Int32)))).1) ?_
    show Steps p.tables e below (T433.setTop (mkF m 14 #[.val (.ref (A 8)), .val (.ref b322), .unset] [])) _
    refine XS.aloadN X433.here hx rfl (hb hby own_d_jdk_42_method_66_code_14) rfl rfl ?_
    show Steps p.tables e below (T433.setTop (mkF m 15 #[.val (.ref (A 8)), .val (.ref b322), .unset] [(.ref b322)])) _
    refine st434 _ ?_
    show Steps p.tables e below (T434.setTop (mkF m 18 #[.val (.ref (A 8)), .val (.ref b322), .unset] [(.ref b322)])) _
    refine XS.astoreN X434.here hx rfl (hb hby own_d_jdk_42_method_66_code_18) rfl rfl (l' := #[.val (.ref (A 8)), .val (.ref b322), .val (.ref b322)]) rfl ?_
    show Steps p.tables e below (T434.setTop (mkF m 19 #[.val (.ref (A 8)), .val (.ref b322), .val (.ref b322)] [])) _
    refine st435 _ ?_
    show Steps p.tables e below (T435.setTop (mkF m 22 #[.val (.ref (A 8)), .val (.ref b322), .val (.ref b322)] [(.int cs)])) _
    refine XS.ifNo X435.here hx rfl (hb hby own_d_jdk_42_method_66_code_22) rfl ((if0 _ _).trans (feq EN.2.2.2.1.2.2.2.2.1).1) ?_
    show Steps p.tables e below (T435.setTop (mkF m 25 #[.val (.ref (A 8)), .val (.ref b322), .val (.ref b322)] [])) _
    refine XS.aloadN X435.here hx rfl (hb hby own_d_jdk_42_method_66_code_25) rfl rfl ?_
    show Steps p.tables e below (T435.setTop (mkF m 26 #[.val (.ref (A 8)), .val (.ref b322), .val (.ref b322)] [(.ref (A 8))])) _
    refine st436 _ ?_
    show Steps p.tables e below (T436.setTop (mkF m 29 #[.val (.ref (A 8)), .val (.ref b322), .val (.ref b322)] [(.int (0 : Int32))])) _
    refine XS.aloadN X436.here hx rfl (hb hby own_d_jdk_42_method_66_code_29) rfl rfl ?_
    show Steps p.tables e below (T436.setTop (mkF m 30 #[.val (.ref (A 8)), .val (.ref b322), .val (.ref b322)] [(.ref b322), (.int (0 : Int32))])) _
    refine st437 _ ?_
    show Steps p.tables e below (T437.setTop (mkF m 33 #[.val (.ref (A 8)), .val (.ref b322), .val (.ref b322)] [(.int (0 : Int32)), (.int (0 : Int32))])) _
    refine XS.icmpNo X437.here hx rfl (hb hby own_d_jdk_42_method_66_code_33) rfl (teq (by decide : (0 : Int32) = (0 : Int32))).2 ?_
    show Steps p.tables e below (T437.setTop (mkF m 36 #[.val (.ref (A 8)), .val (.ref b322), .val (.ref b322)] [])) _
    refine XS.aloadN X437.here hx rfl (hb hby own_d_jdk_42_method_66_code_36) rfl rfl ?_
    show Steps p.tables e below (T437.setTop (mkF m 37 #[.val (.ref (A 8)), .val (.ref b322), .val (.ref b322)] [(.ref (A 8))])) _
    refine st438 _ ?_
    show Steps p.tables e below (T438.setTop (mkF m 40 #[.val (.ref (A 8)), .val (.ref b322), .val (.ref b322)] [(.ref (A 12))])) _
    refine XS.aloadN X438.here hx rfl (hb hby own_d_jdk_42_method_66_code_40) rfl rfl ?_
    show Steps p.tables e below (T438.setTop (mkF m 41 #[.val (.ref (A 8)), .val (.ref b322), .val (.ref b322)] [(.ref b322), (.ref (A 12))])) _
    refine st439 _ ?_
    show Steps p.tables e below (T439.setTop (mkF m 44 #[.val (.ref (A 8)), .val (.ref b322), .val (.ref b322)] [(.ref b354_b352_b340_b326), (.ref (A 12))])) _
    refine st452 _ ?_
    show Steps p.tables e below (T452.setTop (mkF m 47 #[.val (.ref (A 8)), .val (.ref b322), .val (.ref b322)] [(.int (1 : Int32))])) _
    refine XS.ifNo X452.here hx rfl (hb hby own_d_jdk_42_method_66_code_47) rfl ((if0 _ _).trans (feq (by decide : ¬ ((1 : Int32) = (0 : Int32)))).1) ?_
    show Steps p.tables e below (T452.setTop (mkF m 50 #[.val (.ref (A 8)), .val (.ref b322), .val (.ref b322)] [])) _
    refine XS.iconst X452.here hx rfl (hb hby own_d_jdk_42_method_66_code_50) ?_
    show Steps p.tables e below (T452.setTop (mkF m 51 #[.val (.ref (A 8)), .val (.ref b322), .val (.ref b322)] [(.int (1 : Int32))])) _
    refine XS.goto X452.here hx rfl (pc0 := 51) (pc' := 55) rfl (hb hby own_d_jdk_42_method_66_code_51) (by decide) (by decide) ?_
    show Steps p.tables e below (T452.setTop (mkF m 55 #[.val (.ref (A 8)), .val (.ref b322), .val (.ref b322)] [(.int (1 : Int32))])) _
    exact retN X452 hx (t := .boolean) Bd.returns (by simp) (hb hby own_d_jdk_42_method_66_code_55) hr
  · show PQ (some (.int (1 : Int32))) h0 n0 _ T452.heap _
    rw [e452]
    exact ⟨rfl, N452, rfl⟩
def Q_rm42 (Z : State) (p1 : Int32) (A : Nat → Addr) (K : Nat → ClassId) (cs : Int32) (b315 : Addr) (b322 : Addr) (b354_b352_b340_b326 : Addr) (k315 : ClassId) (k354_k352_k340_k326 : ClassId) (h0 : Heap) (n0 : Nat) (v : Option Value) (h : Heap) (L : List Loc) : Prop := ∃ b359_b357 : Addr, v = (some (.ref (A 3))) ∧ Fr n0 L ∧ Keep h0 h [] ∧ (n0 ≤ b359_b357 ∧ h0.size ≤ b359_b357) ∧ (Arv Z h b359_b357 (K 0) (.object "com/example/dongl/dongl/crypto/ProtocolVersion") (4 : Int32) [(.ref (A 0)), (.ref (A 1)), (.ref (A 2)), (.ref (A 3))] .null) ∧ (Exa Z h b359_b357 "[Lcom/example/dongl/dongl/crypto/ProtocolVersion;")
theorem own_ef_rm42 (m : MethodId) (p1 : Int32) (A : Nat → Addr) (K : Nat → ClassId) (cs : Int32)  (b315 : Addr) (b322 : Addr) (b354_b352_b340_b326 : Addr) (k315 : ClassId) (k354_k352_k340_k326 : ClassId) : entryFrame m #[(.ref b322)] 5 = mkF m 0 #[.val (.ref b322), .unset, .unset, .unset, .unset] [] := by first | (simp [entryFrame, mkF, argsToLocals, Value.category, maxLocals]; done) | rfl
set_option maxRecDepth 65536 in
set_option maxHeartbeats 40000000 in
theorem rm42 (l : Launch) (Z : State) (a0 : Array Value) (hw : ∀ d ∈ tables_1, d.before a0 Z = true) (ws : List Jvm.Cond) (h0 : Heap) (n0 : Nat) (p1 : Int32) (A : Nat → Addr) (K : Nat → ClassId) (cs : Int32)  (b315 : Addr) (b322 : Addr) (b354_b352_b340_b326 : Addr) (k315 : ClassId) (k354_k352_k340_k326 : ClassId) (EN : own_St Z A K cs) (OL0 : Old Z n0 h0) (G_A_b315 : Arv Z h0 b315 k315 .char (3 : Int32) [(.int (51 : Int32)), (.int (46 : Int32)), (.int (51 : Int32))] (.int (0 : Int32))) (G_E_b322 : Exa Z h0 b322 "java/lang/String") (G_A_b354_b352_b340_b326 : Arv Z h0 b354_b352_b340_b326 k354_k352_k340_k326 .byte (3 : Int32) [(.int (51 : Int32)), (.int (46 : Int32)), (.int (51 : Int32))] (.int (0 : Int32))) (G_F_b322_java_lang_String_value : Fld Z h0 b322 "java/lang/String" "value" "[B" (.ref b354_b352_b340_b326)) (G_F_b322_java_lang_String_coder : Fld Z h0 b322 "java/lang/String" "coder" "B" (.int (0 : Int32))) (gn_b322 : n0 ≤ b322) :
    MetFree l own_m9 (head1 (Jvm.Cond.code own_m9 prog_26_method_4_code 5 (some (.object "com/example/dongl/dongl/crypto/ProtocolVersion")) :: ws) ({ frames := 2, cells := 1, slots := 4, locals := 28 } : Room)) (fun a U => a = #[(.ref b322)] ∧ Z.Warmed39 U.vm ∧ U.heap = h0) (fun _ _ _ _ _ => True) (fun _ U o U' => ∃ v L, o = .returned v ∧ Q_rm42 Z p1 A K cs b315 b322 b354_b352_b340_b326 k315 k354_k352_k340_k326 h0 n0 v U'.heap L ∧ FrameEnd U o U' L ({ frames := 2, cells := 1, slots := 4, locals := 28 } : Room).cells ({ frames := 2, cells := 1, slots := 4, locals := 28 } : Room).slots) := by
  refine MetFree.of_bodySF (plainFor_of_name own_pn2) hisR ?_
  intro p e s m args below meth c s₁ Bd hml0 hP hK
  obtain ⟨rfl, hZ, hh⟩ := hP
  have hx := Bd.exec
  have hby := Bd.bytes
  have hml : c.maxLocals = 5 := hml0
  have hown : s.vm.findClass "com/example/dongl/dongl/crypto/ProtocolVersion" = some m.cls := findClass_of_methodNamed Bd.named
  have hnm := (name_of_methodNamed Bd.named Bd.method).1
  have X0 : Stand p l e ({ frames := 2, cells := 1, slots := 4, locals := 28 } : Room) s m #[(.ref b322)] below meth c s₁ [] 0 0 := Stand.of_body Bd
  have e0 : s₁.heap = h0 := by rw [← hh, Bd.state]; rfl
  have N0 := Fr.nil n0
  have pre0 : ∀ t, Steps p.tables e below (s₁.setTop (mkF m 0 #[.val (.ref b322), .unset, .unset, .unset, .unset] [])) t → Steps p.tables e below (s₁.setTop (entryFrame m #[(.ref b322)] 5)) t := fun t k => castTop (own_ef_rm42 m p1 A K cs b315 b322 b354_b352_b340_b326 k315 k354_k352_k340_k326) k
  have KK0 : Keep h0 h0 [] := Keep.refl _ _
  obtain ⟨_, _, ⟨T359, L359, k359, n359⟩, -, X359, ⟨Lc359, hQ359, l359, y359, z359⟩, st359⟩ := Jvm.LawKit.callS X0 hx (y := own_m8) hown (mvT hZ (hw _ (List.mem_of_getElem? (i := 36) rfl))) (mvT hZ (hw _ (List.mem_of_getElem? (i := 37) rfl))) (mvT hZ (hw _ (List.mem_of_getElem? (i := 31) rfl))) (mvT hZ (hw _ (List.mem_of_getElem? (i := 38) rfl))) (by decide) (backOf (W := 0) (rm43 l Z a0 hw [] h0 n0 p1 A K cs b315 b322 b354_b352_b340_b326 k315 k354_k352_k340_k326 EN OL0 G_A_b315 G_E_b322 G_A_b354_b352_b340_b326) hZ (hw _ (List.mem_of_getElem? (i := 38) rfl)) (hw _ (List.mem_of_getElem? (i := 31) rfl)) (by decide) (by decide)) (g := (mkF m 0 #[.val (.ref b322), .unset, .unset, .unset, .unset] [])) rfl (by rw [hml]; rfl) (argsL := []) (rest := []) (lenOf own_pd5 rfl) rfl (by show 2 * 0 + _ ≤ _; exact Nat.le_of_eq rfl) (hb hby own_d_prog_26_method_4_code_0) (fun _ _ => ⟨rfl, e0, (by decide : 0 + 1 ≤ _), (by decide : 0 + 4 ≤ _)⟩)
  dsimp only [Pt.U, Pt.locs, Pt.cells, Pt.slots] at X359 l359 y359 z359 st359 hQ359
  subst l359 y359 z359
  obtain ⟨b359_b357, rfl, N359q, K359c, ⟨gn_b359_b357, szc_b359_b357⟩, f359_0, f359_1⟩ := hQ359
  have N359 := Fr.app N0 N359q
  have lt_b315_b359_b357 : b315 < b359_b357 := Nat.lt_of_lt_of_le G_A_b315.lt szc_b359_b357
  have lt_b322_b359_b357 : b322 < b359_b357 := Nat.lt_of_lt_of_le G_E_b322.lt szc_b359_b357
  have lt_b354_b352_b340_b326_b359_b357 : b354_b352_b340_b326 < b359_b357 := Nat.lt_of_lt_of_le G_A_b354_b352_b340_b326.lt szc_b359_b357
  have sz_b359_b357 : h0.size ≤ b359_b357 := Nat.le_trans KK0.1 szc_b359_b357
  have OL359 : Old Z n0 T359.heap := OL0.keep K359c all0
  have KK359 : Keep h0 T359.heap [] := KK0.trans K359c all0
  obtain ⟨cl360, Ar360, -, Sz360, Nn360, -, -⟩ := (id f359_0)
  obtain ⟨cl361, Ar361, q361, Sz361, Nn361, Hh361, Gg361⟩ := (id f359_0)
  have hin361 : ¬ ((0 : Int32) < 0 ∨ cl361.slots.size ≤ ((0 : Int32)).toNatClampNeg) := inb_of Sz361 ⟨by decide, by decide⟩
  have hat361 : cl361.slots[((0 : Int32)).toNatClampNeg]? = some (.ref (A 0)) := Has.at Hh361 hin361 rfl
  obtain ⟨T362, X362, e362, st362⟩ := getF X359 hx hZ hown (host := "") (Or.inl (hw _ (List.mem_of_getElem? (i := 54) rfl))) Via.refl rfl (EN.2.1.2.2.2.1.ext OL359.2) (g := (mkF m 21 #[.val (.ref b322), .val (.ref b359_b357), .val (.int (4 : Int32)), .val (.int (0 : Int32)), .val (.ref (A 0))] [(.ref (A 0))])) rfl rfl (hb hby own_d_prog_26_method_4_code_21)
  have fx382 : Fld Z T359.heap b322 "java/lang/String" "value" "[B" (.ref b354_b352_b340_b326) := (G_F_b322_java_lang_String_value.keep K359c nin0)
  have fx383 : Arv Z T359.heap b354_b352_b340_b326 k354_k352_k340_k326 .byte (3 : Int32) [(.int (51 : Int32)), (.int (46 : Int32)), (.int (51 : Int32))] (.int (0 : Int32)) := (G_A_b354_b352_b340_b326.keep K359c nin0)
  have fx384 : Exa Z T359.heap b322 "java/lang/String" := (G_E_b322.keep K359c)
  have fx385 : Fld Z T359.heap b322 "java/lang/String" "coder" "B" (.int (0 : Int32)) := (G_F_b322_java_lang_String_coder.keep K359c nin0)
  obtain ⟨cq386, kq386, q386a, q386b, q386c⟩ := isOf hZ e362 (EN.2.1.2.2.2.2.1.ext OL359.2)
  obtain ⟨_, _, ⟨T386, L386, k386, n386⟩, -, X386, ⟨Lc386, hQ386, l386, y386, z386⟩, st386⟩ := X362.virtualBack hx (y := own_m0) (z := own_m0) hown (mvT hZ (hw _ (List.mem_of_getElem? (i := 56) rfl))) (mvT hZ (hw _ (List.mem_of_getElem? (i := 57) rfl))) (notFace_of_selects (args := #[]) (mvT hZ (hw _ (List.mem_of_getElem? (i := 59) rfl)))) (mvT hZ (hw _ (List.mem_of_getElem? (i := 59) rfl))) (mvT hZ (hw _ (List.mem_of_getElem? (i := 58) rfl))) (by decide) (backOf (W := 0) (rm44 l Z a0 hw [] T359.heap n0 p1 A K cs b322 b354_b352_b340_b326 k354_k352_k340_k326 EN OL359 fx382 fx383 fx384 fx385) hZ (hw _ (List.mem_of_getElem? (i := 60) rfl)) (hw _ (List.mem_of_getElem? (i := 3) rfl)) (by decide) (by decide)) q386a q386c (g := (mkF m 25 #[.val (.ref b322), .val (.ref b359_b357), .val (.int (4 : Int32)), .val (.int (0 : Int32)), .val (.ref (A 0))] [(.ref b322), (.ref (A 5))])) rfl (by rw [hml]; rfl) (Steps.refl _) (argsL := [(.ref b322)]) (rest := []) (lenOf own_pd7 rfl) rfl (by show 2 * 0 + _ ≤ _; exact Nat.le_of_eq rfl) (hb hby own_d_prog_26_method_4_code_25) (fun _ _ => ⟨rfl, e362, (by decide : 1 + 0 ≤ _), (by decide : 4 + 0 ≤ _)⟩)
  dsimp only [Pt.U, Pt.locs, Pt.cells, Pt.slots] at X386 l386 y386 z386 st386 hQ386
  subst l386 y386 z386
  obtain ⟨rfl, N386q, e386⟩ := hQ386
  have N386 := Fr.app N359 N386q
  obtain ⟨cl387, Ar387, q387, Sz387, Nn387, Hh387, Gg387⟩ := (id f359_0)
  have hin387 : ¬ ((1 : Int32) < 0 ∨ cl387.slots.size ≤ ((1 : Int32)).toNatClampNeg) := inb_of Sz387 ⟨by decide, by decide⟩
  have hat387 : cl387.slots[((1 : Int32)).toNatClampNeg]? = some (.ref (A 1)) := Has.at Hh387 hin387 rfl
  obtain ⟨T388, X388, e388, st388⟩ := getF X386 hx hZ hown (host := "") (Or.inl (hw _ (List.mem_of_getElem? (i := 54) rfl))) Via.refl e386 (EN.2.1.2.2.2.2.2.1.ext OL359.2) (g := (mkF m 21 #[.val (.ref b322), .val (.ref b359_b357), .val (.int (4 : Int32)), .val (.int (1 : Int32)), .val (.ref (A 1))] [(.ref (A 1))])) rfl rfl (hb hby own_d_prog_26_method_4_code_21)
  obtain ⟨cq408, kq408, q408a, q408b, q408c⟩ := isOf hZ e388 (EN.2.1.2.2.2.2.2.2.1.ext OL359.2)
  obtain ⟨_, _, ⟨T408, L408, k408, n408⟩, -, X408, ⟨Lc408, hQ408, l408, y408, z408⟩, st408⟩ := X388.virtualBack hx (y := own_m0) (z := own_m0) hown (mvT hZ (hw _ (List.mem_of_getElem? (i := 56) rfl))) (mvT hZ (hw _ (List.mem_of_getElem? (i := 57) rfl))) (notFace_of_selects (args := #[]) (mvT hZ (hw _ (List.mem_of_getElem? (i := 59) rfl)))) (mvT hZ (hw _ (List.mem_of_getElem? (i := 59) rfl))) (mvT hZ (hw _ (List.mem_of_getElem? (i := 58) rfl))) (by decide) (backOf (W := 0) (rm46 l Z a0 hw [] T359.heap n0 p1 A K cs b322 b354_b352_b340_b326 k354_k352_k340_k326 EN OL359 fx382 fx383 fx384 fx385) hZ (hw _ (List.mem_of_getElem? (i := 60) rfl)) (hw _ (List.mem_of_getElem? (i := 3) rfl)) (by decide) (by decide)) q408a q408c (g := (mkF m 25 #[.val (.ref b322), .val (.ref b359_b357), .val (.int (4 : Int32)), .val (.int (1 : Int32)), .val (.ref (A 1))] [(.ref b322), (.ref (A 6))])) rfl (by rw [hml]; rfl) (Steps.refl _) (argsL := [(.ref b322)]) (rest := []) (lenOf own_pd7 rfl) rfl (by show 2 * 0 + _ ≤ _; exact Nat.le_of_eq rfl) (hb hby own_d_prog_26_method_4_code_25) (fun _ _ => ⟨rfl, e388, (by decide : 1 + 0 ≤ _), (by decide : 4 + 0 ≤ _)⟩)
  dsimp only [Pt.U, Pt.locs, Pt.cells, Pt.slots] at X408 l408 y408 z408 st408 hQ408
  subst l408 y408 z408
  obtain ⟨rfl, N408q, e408⟩ := hQ408
  have N408 := Fr.app N386 N408q
  obtain ⟨cl409, Ar409, q409, Sz409, Nn409, Hh409, Gg409⟩ := (id f359_0)
  have hin409 : ¬ ((2 : Int32) < 0 ∨ cl409.slots.size ≤ ((2 : Int32)).toNatClampNeg) := inb_of Sz409 ⟨by decide, by decide⟩
  have hat409 : cl409.slots[((2 : Int32)).toNatClampNeg]? = some (.ref (A 2)) := Has.at Hh409 hin409 rfl
  obtain ⟨T410, X410, e410, st410⟩ := getF X408 hx hZ hown (host := "") (Or.inl (hw _ (List.mem_of_getElem? (i := 54) rfl))) Via.refl e408 (EN.2.1.2.2.2.2.2.2.2.1.ext OL359.2) (g := (mkF m 21 #[.val (.ref b322), .val (.ref b359_b357), .val (.int (4 : Int32)), .val (.int (2 : Int32)), .val (.ref (A 2))] [(.ref (A 2))])) rfl rfl (hb hby own_d_prog_26_method_4_code_21)
  obtain ⟨cq430, kq430, q430a, q430b, q430c⟩ := isOf hZ e410 (EN.2.2.1.1.ext OL359.2)
  obtain ⟨_, _, ⟨T430, L430, k430, n430⟩, -, X430, ⟨Lc430, hQ430, l430, y430, z430⟩, st430⟩ := X410.virtualBack hx (y := own_m0) (z := own_m0) hown (mvT hZ (hw _ (List.mem_of_getElem? (i := 56) rfl))) (mvT hZ (hw _ (List.mem_of_getElem? (i := 57) rfl))) (notFace_of_selects (args := #[]) (mvT hZ (hw _ (List.mem_of_getElem? (i := 59) rfl)))) (mvT hZ (hw _ (List.mem_of_getElem? (i := 59) rfl))) (mvT hZ (hw _ (List.mem_of_getElem? (i := 58) rfl))) (by decide) (backOf (W := 0) (rm48 l Z a0 hw [] T359.heap n0 p1 A K cs b322 b354_b352_b340_b326 k354_k352_k340_k326 EN OL359 fx382 fx383 fx384 fx385) hZ (hw _ (List.mem_of_getElem? (i := 60) rfl)) (hw _ (List.mem_of_getElem? (i := 3) rfl)) (by decide) (by decide)) q430a q430c (g := (mkF m 25 #[.val (.ref b322), .val (.ref b359_b357), .val (.int (4 : Int32)), .val (.int (2 : Int32)), .val (.ref (A 2))] [(.ref b322), (.ref (A 7))])) rfl (by rw [hml]; rfl) (Steps.refl _) (argsL := [(.ref b322)]) (rest := []) (lenOf own_pd7 rfl) rfl (by show 2 * 0 + _ ≤ _; exact Nat.le_of_eq rfl) (hb hby own_d_prog_26_method_4_code_25) (fun _ _ => ⟨rfl, e410, (by decide : 1 + 0 ≤ _), (by decide : 4 + 0 ≤ _)⟩)
  dsimp only [Pt.U, Pt.locs, Pt.cells, Pt.slots] at X430 l430 y430 z430 st430 hQ430
  subst l430 y430 z430
  obtain ⟨rfl, N430q, e430⟩ := hQ430
  have N430 := Fr.app N408 N430q
  obtain ⟨cl431, Ar431, q431, Sz431, Nn431, Hh431, Gg431⟩ := (id f359_0)
  have hin431 : ¬ ((3 : Int32) < 0 ∨ cl431.slots.size ≤ ((3 : Int32)).toNatClampNeg) := inb_of Sz431 ⟨by decide, by decide⟩
  have hat431 : cl431.slots[((3 : Int32)).toNatClampNeg]? = some (.ref (A 3)) := Has.at Hh431 hin431 rfl
  obtain ⟨T432, X432, e432, st432⟩ := getF X430 hx hZ hown (host := "") (Or.inl (hw _ (List.mem_of_getElem? (i := 54) rfl))) Via.refl e430 (EN.2.2.1.2.1.ext OL359.2) (g := (mkF m 21 #[.val (.ref b322), .val (.ref b359_b357), .val (.int (4 : Int32)), .val (.int (3 : Int32)), .val (.ref (A 3))] [(.ref (A 3))])) rfl rfl (hb hby own_d_prog_26_method_4_code_21)
  obtain ⟨cq453, kq453, q453a, q453b, q453c⟩ := isOf hZ e432 (EN.2.2.1.2.2.1.ext OL359.2)
  obtain ⟨_, _, ⟨T453, L453, k453, n453⟩, -, X453, ⟨Lc453, hQ453, l453, y453, z453⟩, st453⟩ := X432.virtualBack hx (y := own_m0) (z := own_m0) hown (mvT hZ (hw _ (List.mem_of_getElem? (i := 56) rfl))) (mvT hZ (hw _ (List.mem_of_getElem? (i := 57) rfl))) (notFace_of_selects (args := #[]) (mvT hZ (hw _ (List.mem_of_getElem? (i := 59) rfl)))) (mvT hZ (hw _ (List.mem_of_getElem? (i := 59) rfl))) (mvT hZ (hw _ (List.mem_of_getElem? (i := 58) rfl))) (by decide) (backOf (W := 0) (rm50 l Z a0 hw [] T359.heap n0 p1 A K cs b322 b354_b352_b340_b326 k354_k352_k340_k326 EN OL359 fx382 fx383 fx384 fx385 gn_b322) hZ (hw _ (List.mem_of_getElem? (i := 60) rfl)) (hw _ (List.mem_of_getElem? (i := 3) rfl)) (by decide) (by decide)) q453a q453c (g := (mkF m 25 #[.val (.ref b322), .val (.ref b359_b357), .val (.int (4 : Int32)), .val (.int (3 : Int32)), .val (.ref (A 3))] [(.ref b322), (.ref (A 8))])) rfl (by rw [hml]; rfl) (Steps.refl _) (argsL := [(.ref b322)]) (rest := []) (lenOf own_pd7 rfl) rfl (by show 2 * 0 + _ ≤ _; exact Nat.le_of_eq rfl) (hb hby own_d_prog_26_method_4_code_25) (fun _ _ => ⟨rfl, e432, (by decide : 1 + 0 ≤ _), (by decide : 4 + 0 ≤ _)⟩)
  dsimp only [Pt.U, Pt.locs, Pt.cells, Pt.slots] at X453 l453 y453 z453 st453 hQ453
  subst l453 y453 z453
  obtain ⟨rfl, N453q, e453⟩ := hQ453
  have N453 := Fr.app N430 N453q
  obtain ⟨fs, hr, hrun, hended, hW, hsame⟩ := X453.leave (v := some (.ref (A 3))) (fun h => by rw [Bd.returns] at h; cases h)
  refine ⟨_, _, pre0 _ ?_, hrun, hended, _, _, rfl, ?_, ⟨_, rfl⟩, hW, hsame.mono (by decide) (by decide)⟩
  · show Steps p.tables e below (s₁.setTop (mkF m 0 #[.val (.ref b322), .unset, .unset, .unset, .unset] [])) _
    refine st359 _ ?_
    show Steps p.tables e below (T359.setTop (mkF m 3 #[.val (.ref b322), .unset, .unset, .unset, .unset] [(.ref b359_b357)])) _
    refine XS.astoreN X359.here hx rfl (hb hby own_d_prog_26_method_4_code_3) rfl rfl (l' := #[.val (.ref b322), .val (.ref b359_b357), .unset, .unset, .unset]) rfl ?_
    show Steps p.tables e below (T359.setTop (mkF m 4 #[.val (.ref b322), .val (.ref b359_b357), .unset, .unset, .unset] [])) _
    refine XS.aloadN X359.here hx rfl (hb hby own_d_prog_26_method_4_code_4) rfl rfl ?_
    show Steps p.tables e below (T359.setTop (mkF m 5 #[.val (.ref b322), .val (.ref b359_b357), .unset, .unset, .unset] [(.ref b359_b357)])) _
    refine X359.arraylength hx (by exact Ar360.1) (State.isArrayOf_alike hZ.alike Ar360.2.1) (g := (mkF m 5 #[.val (.ref b322), .val (.ref b359_b357), .unset, .unset, .unset] [(.ref b359_b357)])) rfl rfl (hb hby own_d_prog_26_method_4_code_5) _ ?_
    rw [len_of Sz360 Nn360]
    show Steps p.tables e below (T359.setTop (mkF m 6 #[.val (.ref b322), .val (.ref b359_b357), .unset, .unset, .unset] [(.int (4 : Int32))])) _
    refine XS.istoreN X359.here hx rfl (hb hby own_d_prog_26_method_4_code_6) rfl (l' := #[.val (.ref b322), .val (.ref b359_b357), .val (.int (4 : Int32)), .unset, .unset]) rfl ?_
    show Steps p.tables e below (T359.setTop (mkF m 7 #[.val (.ref b322), .val (.ref b359_b357), .val (.int (4 : Int32)), .unset, .unset] [])) _
    refine XS.iconst X359.here hx rfl (hb hby own_d_prog_26_method_4_code_7) ?_
    show Steps p.tables e below (T359.setTop (mkF m 8 #[.val (.ref b322), .val (.ref b359_b357), .val (.int (4 : Int32)), .unset, .unset] [(.int (0 : Int32))])) _
    refine XS.istoreN X359.here hx rfl (hb hby own_d_prog_26_method_4_code_8) rfl (l' := #[.val (.ref b322), .val (.ref b359_b357), .val (.int (4 : Int32)), .val (.int (0 : Int32)), .unset]) rfl ?_
    show Steps p.tables e below (T359.setTop (mkF m 9 #[.val (.ref b322), .val (.ref b359_b357), .val (.int (4 : Int32)), .val (.int (0 : Int32)), .unset] [])) _
    refine XS.iloadN X359.here hx rfl (hb hby own_d_prog_26_method_4_code_9) rfl ?_
    show Steps p.tables e below (T359.setTop (mkF m 10 #[.val (.ref b322), .val (.ref b359_b357), .val (.int (4 : Int32)), .val (.int (0 : Int32)), .unset] [(.int (0 : Int32))])) _
    refine XS.iloadN X359.here hx rfl (hb hby own_d_prog_26_method_4_code_10) rfl ?_
    show Steps p.tables e below (T359.setTop (mkF m 11 #[.val (.ref b322), .val (.ref b359_b357), .val (.int (4 : Int32)), .val (.int (0 : Int32)), .unset] [(.int (4 : Int32)), (.int (0 : Int32))])) _
    refine XS.icmpNo X359.here hx rfl (hb hby own_d_prog_26_method_4_code_11) rfl (tlt (by decide : (0 : Int32) < (4 : Int32))).2.1 ?_
    show Steps p.tables e below (T359.setTop (mkF m 14 #[.val (.ref b322), .val (.ref b359_b357), .val (.int (4 : Int32)), .val (.int (0 : Int32)), .unset] [])) _
    refine XS.aloadN X359.here hx rfl (hb hby own_d_prog_26_method_4_code_14) rfl rfl ?_
    show Steps p.tables e below (T359.setTop (mkF m 15 #[.val (.ref b322), .val (.ref b359_b357), .val (.int (4 : Int32)), .val (.int (0 : Int32)), .unset] [(.ref b359_b357)])) _
    refine XS.iloadN X359.here hx rfl (hb hby own_d_prog_26_method_4_code_15) rfl ?_
    show Steps p.tables e below (T359.setTop (mkF m 16 #[.val (.ref b322), .val (.ref b359_b357), .val (.int (4 : Int32)), .val (.int (0 : Int32)), .unset] [(.int (0 : Int32)), (.ref b359_b357)])) _
    refine X359.aaload hx (j := (0 : Int32)) (v := (.ref (A 0))) (by exact Ar361.1) (State.isArrayOf_alike hZ.alike Ar361.2.1) rfl Ar361.2.2 hin361 hat361 (g := (mkF m 16 #[.val (.ref b322), .val (.ref b359_b357), .val (.int (4 : Int32)), .val (.int (0 : Int32)), .unset] [(.int (0 : Int32)), (.ref b359_b357)])) rfl rfl (hb hby own_d_prog_26_method_4_code_16) _ ?_
    show Steps p.tables e below (T359.setTop (mkF m 17 #[.val (.ref b322), .val (.ref b359_b357), .val (.int (4 : Int32)), .val (.int (0 : Int32)), .unset] [(.ref (A 0))])) _
    refine XS.astore X359.here hx rfl (hb hby own_d_prog_26_method_4_code_17) rfl rfl (l' := #[.val (.ref b322), .val (.ref b359_b357), .val (.int (4 : Int32)), .val (.int (0 : Int32)), .val (.ref (A 0))]) rfl ?_
    show Steps p.tables e below (T359.setTop (mkF m 19 #[.val (.ref b322), .val (.ref b359_b357), .val (.int (4 : Int32)), .val (.int (0 : Int32)), .val (.ref (A 0))] [])) _
    refine XS.aload X359.here hx rfl (hb hby own_d_prog_26_method_4_code_19) rfl rfl ?_
    show Steps p.tables e below (T359.setTop (mkF m 21 #[.val (.ref b322), .val (.ref b359_b357), .val (.int (4 : Int32)), .val (.int (0 : Int32)), .val (.ref (A 0))] [(.ref (A 0))])) _
    refine st362 _ ?_
    show Steps p.tables e below (T362.setTop (mkF m 24 #[.val (.ref b322), .val (.ref b359_b357), .val (.int (4 : Int32)), .val (.int (0 : Int32)), .val (.ref (A 0))] [(.ref (A 5))])) _
    refine XS.aloadN X362.here hx rfl (hb hby own_d_prog_26_method_4_code_24) rfl rfl ?_
    show Steps p.tables e below (T362.setTop (mkF m 25 #[.val (.ref b322), .val (.ref b359_b357), .val (.int (4 : Int32)), .val (.int (0 : Int32)), .val (.ref (A 0))] [(.ref b322), (.ref (A 5))])) _
    refine st386.trans ?_
    show Steps p.tables e below (T386.setTop (mkF m 28 #[.val (.ref b322), .val (.ref b359_b357), .val (.int (4 : Int32)), .val (.int (0 : Int32)), .val (.ref (A 0))] [(.int (0 : Int32))])) _
    refine XS.ifYes X386.here hx rfl (pc0 := 28) (pc' := 34) rfl (hb hby own_d_prog_26_method_4_code_28) rfl ((if0 _ _).trans (teq (by decide : (0 : Int32) = (0 : Int32))).1) (by decide) (by decide) ?_
    show Steps p.tables e below (T386.setTop (mkF m 34 #[.val (.ref b322), .val (.ref b359_b357), .val (.int (4 : Int32)), .val (.int (0 : Int32)), .val (.ref (A 0))] [])) _
    refine XS.iinc X386.here hx rfl (hb hby own_d_prog_26_method_4_code_34) rfl (l' := #[.val (.ref b322), .val (.ref b359_b357), .val (.int (4 : Int32)), .val (.int (1 : Int32)), .val (.ref (A 0))]) rfl ?_
    show Steps p.tables e below (T386.setTop (mkF m 37 #[.val (.ref b322), .val (.ref b359_b357), .val (.int (4 : Int32)), .val (.int (1 : Int32)), .val (.ref (A 0))] [])) _
    refine XS.goto X386.here hx rfl (pc0 := 37) (pc' := 9) rfl (hb hby own_d_prog_26_method_4_code_37) (by decide) (by decide) ?_
    show Steps p.tables e below (T386.setTop (mkF m 9 #[.val (.ref b322), .val (.ref b359_b357), .val (.int (4 : Int32)), .val (.int (1 : Int32)), .val (.ref (A 0))] [])) _
    refine XS.iloadN X386.here hx rfl (hb hby own_d_prog_26_method_4_code_9) rfl ?_
    show Steps p.tables e below (T386.setTop (mkF m 10 #[.val (.ref b322), .val (.ref b359_b357), .val (.int (4 : Int32)), .val (.int (1 : Int32)), .val (.ref (A 0))] [(.int (1 : Int32))])) _
    refine XS.iloadN X386.here hx rfl (hb hby own_d_prog_26_method_4_code_10) rfl ?_
    show Steps p.tables e below (T386.setTop (mkF m 11 #[.val (.ref b322), .val (.ref b359_b357), .val (.int (4 : Int32)), .val (.int (1 : Int32)), .val (.ref (A 0))] [(.int (4 : Int32)), (.int (1 : Int32))])) _
    refine XS.icmpNo X386.here hx rfl (hb hby own_d_prog_26_method_4_code_11) rfl (tlt (by decide : (1 : Int32) < (4 : Int32))).2.1 ?_
    show Steps p.tables e below (T386.setTop (mkF m 14 #[.val (.ref b322), .val (.ref b359_b357), .val (.int (4 : Int32)), .val (.int (1 : Int32)), .val (.ref (A 0))] [])) _
    refine XS.aloadN X386.here hx rfl (hb hby own_d_prog_26_method_4_code_14) rfl rfl ?_
    show Steps p.tables e below (T386.setTop (mkF m 15 #[.val (.ref b322), .val (.ref b359_b357), .val (.int (4 : Int32)), .val (.int (1 : Int32)), .val (.ref (A 0))] [(.ref b359_b357)])) _
    refine XS.iloadN X386.here hx rfl (hb hby own_d_prog_26_method_4_code_15) rfl ?_
    show Steps p.tables e below (T386.setTop (mkF m 16 #[.val (.ref b322), .val (.ref b359_b357), .val (.int (4 : Int32)), .val (.int (1 : Int32)), .val (.ref (A 0))] [(.int (1 : Int32)), (.ref b359_b357)])) _
    refine X386.aaload hx (j := (1 : Int32)) (v := (.ref (A 1))) (by rw [e386]; exact Ar387.1) (State.isArrayOf_alike hZ.alike Ar387.2.1) rfl Ar387.2.2 hin387 hat387 (g := (mkF m 16 #[.val (.ref b322), .val (.ref b359_b357), .val (.int (4 : Int32)), .val (.int (1 : Int32)), .val (.ref (A 0))] [(.int (1 : Int32)), (.ref b359_b357)])) rfl rfl (hb hby own_d_prog_26_method_4_code_16) _ ?_
    show Steps p.tables e below (T386.setTop (mkF m 17 #[.val (.ref b322), .val (.ref b359_b357), .val (.int (4 : Int32)), .val (.int (1 : Int32)), .val (.ref (A 0))] [(.ref (A 1))])) _
    refine XS.astore X386.here hx rfl (hb hby own_d_prog_26_method_4_code_17) rfl rfl (l' := #[.val (.ref b322), .val (.ref b359_b357), .val (.int (4 : Int32)), .val (.int (1 : Int32)), .val (.ref (A 1))]) rfl ?_
    show Steps p.tables e below (T386.setTop (mkF m 19 #[.val (.ref b322), .val (.ref b359_b357), .val (.int (4 : Int32)), .val (.int (1 : Int32)), .val (.ref (A 1))] [])) _
    refine XS.aload X386.here hx rfl (hb hby own_d_prog_26_method_4_code_19) rfl rfl ?_
    show Steps p.tables e below (T386.setTop (mkF m 21 #[.val (.ref b322), .val (.ref b359_b357), .val (.int (4 : Int32)), .val (.int (1 : Int32)), .val (.ref (A 1))] [(.ref (A 1))])) _
    refine st388 _ ?_
    show Steps p.tables e below (T388.setTop (mkF m 24 #[.val (.ref b322), .val (.ref b359_b357), .val (.int (4 : Int32)), .val (.int (1 : Int32)), .val (.ref (A 1))] [(.ref (A 6))])) _
    refine XS.aloadN X388.here hx rfl (hb hby own_d_prog_26_method_4_code_24) rfl rfl ?_
    show Steps p.tables e below (T388.setTop (mkF m 25 #[.val (.ref b322), .val (.ref b359_b357), .val (.int (4 : Int32)), .val (.int (1 : Int32)), .val (.ref (A 1))] [(.ref b322), (.ref (A 6))])) _
    refine st408.trans ?_
    show Steps p.tables e below (T408.setTop (mkF m 28 #[.val (.ref b322), .val (.ref b359_b357), .val (.int (4 : Int32)), .val (.int (1 : Int32)), .val (.ref (A 1))] [(.int (0 : Int32))])) _
    refine XS.ifYes X408.here hx rfl (pc0 := 28) (pc' := 34) rfl (hb hby own_d_prog_26_method_4_code_28) rfl ((if0 _ _).trans (teq (by decide : (0 : Int32) = (0 : Int32))).1) (by decide) (by decide) ?_
    show Steps p.tables e below (T408.setTop (mkF m 34 #[.val (.ref b322), .val (.ref b359_b357), .val (.int (4 : Int32)), .val (.int (1 : Int32)), .val (.ref (A 1))] [])) _
    refine XS.iinc X408.here hx rfl (hb hby own_d_prog_26_method_4_code_34) rfl (l' := #[.val (.ref b322), .val (.ref b359_b357), .val (.int (4 : Int32)), .val (.int (2 : Int32)), .val (.ref (A 1))]) rfl ?_
    show Steps p.tables e below (T408.setTop (mkF m 37 #[.val (.ref b322), .val (.ref b359_b357), .val (.int (4 : Int32)), .val (.int (2 : Int32)), .val (.ref (A 1))] [])) _
    refine XS.goto X408.here hx rfl (pc0 := 37) (pc' := 9) rfl (hb hby own_d_prog_26_method_4_code_37) (by decide) (by decide) ?_
    show Steps p.tables e below (T408.setTop (mkF m 9 #[.val (.ref b322), .val (.ref b359_b357), .val (.int (4 : Int32)), .val (.int (2 : Int32)), .val (.ref (A 1))] [])) _
    refine XS.iloadN X408.here hx rfl (hb hby own_d_prog_26_method_4_code_9) rfl ?_
    show Steps p.tables e below (T408.setTop (mkF m 10 #[.val (.ref b322), .val (.ref b359_b357), .val (.int (4 : Int32)), .val (.int (2 : Int32)), .val (.ref (A 1))] [(.int (2 : Int32))])) _
    refine XS.iloadN X408.here hx rfl (hb hby own_d_prog_26_method_4_code_10) rfl ?_
    show Steps p.tables e below (T408.setTop (mkF m 11 #[.val (.ref b322), .val (.ref b359_b357), .val (.int (4 : Int32)), .val (.int (2 : Int32)), .val (.ref (A 1))] [(.int (4 : Int32)), (.int (2 : Int32))])) _
    refine XS.icmpNo X408.here hx rfl (hb hby own_d_prog_26_method_4_code_11) rfl (tlt (by decide : (2 : Int32) < (4 : Int32))).2.1 ?_
    show Steps p.tables e below (T408.setTop (mkF m 14 #[.val (.ref b322), .val (.ref b359_b357), .val (.int (4 : Int32)), .val (.int (2 : Int32)), .val (.ref (A 1))] [])) _
    refine XS.aloadN X408.here hx rfl (hb hby own_d_prog_26_method_4_code_14) rfl rfl ?_
    show Steps p.tables e below (T408.setTop (mkF m 15 #[.val (.ref b322), .val (.ref b359_b357), .val (.int (4 : Int32)), .val (.int (2 : Int32)), .val (.ref (A 1))] [(.ref b359_b357)])) _
    refine XS.iloadN X408.here hx rfl (hb hby own_d_prog_26_method_4_code_15) rfl ?_
    show Steps p.tables e below (T408.setTop (mkF m 16 #[.val (.ref b322), .val (.ref b359_b357), .val (.int (4 : Int32)), .val (.int (2 : Int32)), .val (.ref (A 1))] [(.int (2 : Int32)), (.ref b359_b357)])) _
    refine X408.aaload hx (j := (2 : Int32)) (v := (.ref (A 2))) (by rw [e408]; exact Ar409.1) (State.isArrayOf_alike hZ.alike Ar409.2.1) rfl Ar409.2.2 hin409 hat409 (g := (mkF m 16 #[.val (.ref b322), .val (.ref b359_b357), .val (.int (4 : Int32)), .val (.int (2 : Int32)), .val (.ref (A 1))] [(.int (2 : Int32)), (.ref b359_b357)])) rfl rfl (hb hby own_d_prog_26_method_4_code_16) _ ?_
    show Steps p.tables e below (T408.setTop (mkF m 17 #[.val (.ref b322), .val (.ref b359_b357), .val (.int (4 : Int32)), .val (.int (2 : Int32)), .val (.ref (A 1))] [(.ref (A 2))])) _
    refine XS.astore X408.here hx rfl (hb hby own_d_prog_26_method_4_code_17) rfl rfl (l' := #[.val (.ref b322), .val (.ref b359_b357), .val (.int (4 : Int32)), .val (.int (2 : Int32)), .val (.ref (A 2))]) rfl ?_
    show Steps p.tables e below (T408.setTop (mkF m 19 #[.val (.ref b322), .val (.ref b359_b357), .val (.int (4 : Int32)), .val (.int (2 : Int32)), .val (.ref (A 2))] [])) _
    refine XS.aload X408.here hx rfl (hb hby own_d_prog_26_method_4_code_19) rfl rfl ?_
    show Steps p.tables e below (T408.setTop (mkF m 21 #[.val (.ref b322), .val (.ref b359_b357), .val (.int (4 : Int32)), .val (.int (2 : Int32)), .val (.ref (A 2))] [(.ref (A 2))])) _
    refine st410 _ ?_
    show Steps p.tables e below (T410.setTop (mkF m 24 #[.val (.ref b322), .val (.ref b359_b357), .val (.int (4 : Int32)), .val (.int (2 : Int32)), .val (.ref (A 2))] [(.ref (A 7))])) _
    refine XS.aloadN X410.here hx rfl (hb hby own_d_prog_26_method_4_code_24) rfl rfl ?_
    show Steps p.tables e below (T410.setTop (mkF m 25 #[.val (.ref b322), .val (.ref b359_b357), .val (.int (4 : Int32)), .val (.int (2 : Int32)), .val (.ref (A 2))] [(.ref b322), (.ref (A 7))])) _
    refine st430.trans ?_
    show Steps p.tables e below (T430.setTop (mkF m 28 #[.val (.ref b322), .val (.ref b359_b357), .val (.int (4 : Int32)), .val (.int (2 : Int32)), .val (.ref (A 2))] [(.int (0 : Int32))])) _
    refine XS.ifYes X430.here hx rfl (pc0 := 28) (pc' := 34) rfl (hb hby own_d_prog_26_method_4_code_28) rfl ((if0 _ _).trans (teq (by decide : (0 : Int32) = (0 : Int32))).1) (by decide) (by decide) ?_
    show Steps p.tables e below (T430.setTop (mkF m 34 #[.val (.ref b322), .val (.ref b359_b357), .val (.int (4 : Int32)), .val (.int (2 : Int32)), .val (.ref (A 2))] [])) _
    refine XS.iinc X430.here hx rfl (hb hby own_d_prog_26_method_4_code_34) rfl (l' := #[.val (.ref b322), .val (.ref b359_b357), .val (.int (4 : Int32)), .val (.int (3 : Int32)), .val (.ref (A 2))]) rfl ?_
    show Steps p.tables e below (T430.setTop (mkF m 37 #[.val (.ref b322), .val (.ref b359_b357), .val (.int (4 : Int32)), .val (.int (3 : Int32)), .val (.ref (A 2))] [])) _
    refine XS.goto X430.here hx rfl (pc0 := 37) (pc' := 9) rfl (hb hby own_d_prog_26_method_4_code_37) (by decide) (by decide) ?_
    show Steps p.tables e below (T430.setTop (mkF m 9 #[.val (.ref b322), .val (.ref b359_b357), .val (.int (4 : Int32)), .val (.int (3 : Int32)), .val (.ref (A 2))] [])) _
    refine XS.iloadN X430.here hx rfl (hb hby own_d_prog_26_method_4_code_9) rfl ?_
    show Steps p.tables e below (T430.setTop (mkF m 10 #[.val (.ref b322), .val (.ref b359_b357), .val (.int (4 : Int32)), .val (.int (3 : Int32)), .val (.ref (A 2))] [(.int (3 : Int32))])) _
    refine XS.iloadN X430.here hx rfl (hb hby own_d_prog_26_method_4_code_10) rfl ?_
    show Steps p.tables e below (T430.setTop (mkF m 11 #[.val (.ref b322), .val (.ref b359_b357), .val (.int (4 : Int32)), .val (.int (3 : Int32)), .val (.ref (A 2))] [(.int (4 : Int32)), (.int (3 : Int32))])) _
    refine XS.icmpNo X430.here hx rfl (hb hby own_d_prog_26_method_4_code_11) rfl (tlt (by decide : (3 : Int32) < (4 : Int32))).2.1 ?_
    show Steps p.tables e below (T430.setTop (mkF m 14 #[.val (.ref b322), .val (.ref b359_b357), .val (.int (4 : Int32)), .val (.int (3 : Int32)), .val (.ref (A 2))] [])) _
    refine XS.aloadN X430.here hx rfl (hb hby own_d_prog_26_method_4_code_14) rfl rfl ?_
    show Steps p.tables e below (T430.setTop (mkF m 15 #[.val (.ref b322), .val (.ref b359_b357), .val (.int (4 : Int32)), .val (.int (3 : Int32)), .val (.ref (A 2))] [(.ref b359_b357)])) _
    refine XS.iloadN X430.here hx rfl (hb hby own_d_prog_26_method_4_code_15) rfl ?_
    show Steps p.tables e below (T430.setTop (mkF m 16 #[.val (.ref b322), .val (.ref b359_b357), .val (.int (4 : Int32)), .val (.int (3 : Int32)), .val (.ref (A 2))] [(.int (3 : Int32)), (.ref b359_b357)])) _
    refine X430.aaload hx (j := (3 : Int32)) (v := (.ref (A 3))) (by rw [e430]; exact Ar431.1) (State.isArrayOf_alike hZ.alike Ar431.2.1) rfl Ar431.2.2 hin431 hat431 (g := (mkF m 16 #[.val (.ref b322), .val (.ref b359_b357), .val (.int (4 : Int32)), .val (.int (3 : Int32)), .val (.ref (A 2))] [(.int (3 : Int32)), (.ref b359_b357)])) rfl rfl (hb hby own_d_prog_26_method_4_code_16) _ ?_
    show Steps p.tables e below (T430.setTop (mkF m 17 #[.val (.ref b322), .val (.ref b359_b357), .val (.int (4 : Int32)), .val (.int (3 : Int32)), .val (.ref (A 2))] [(.ref (A 3))])) _
    refine XS.astore X430.here hx rfl (hb hby own_d_prog_26_method_4_code_17) rfl rfl (l' := #[.val (.ref b322), .val (.ref b359_b357), .val (.int (4 : Int32)), .val (.int (3 : Int32)), .val (.ref (A 3))]) rfl ?_
    show Steps p.tables e below (T430.setTop (mkF m 19 #[.val (.ref b322), .val (.ref b359_b357), .val (.int (4 : Int32)), .val (.int (3 : Int32)), .val (.ref (A 3))] [])) _
    refine XS.aload X430.here hx rfl (hb hby own_d_prog_26_method_4_code_19) rfl rfl ?_
    show Steps p.tables e below (T430.setTop (mkF m 21 #[.val (.ref b322), .val (.ref b359_b357), .val (.int (4 : Int32)), .val (.int (3 : Int32)), .val (.ref (A 3))] [(.ref (A 3))])) _
    refine st432 _ ?_
    show Steps p.tables e below (T432.setTop (mkF m 24 #[.val (.ref b322), .val (.ref b359_b357), .val (.int (4 : Int32)), .val (.int (3 : Int32)), .val (.ref (A 3))] [(.ref (A 8))])) _
    refine XS.aloadN X432.here hx rfl (hb hby own_d_prog_26_method_4_code_24) rfl rfl ?_
    show Steps p.tables e below (T432.setTop (mkF m 25 #[.val (.ref b322), .val (.ref b359_b357), .val (.int (4 : Int32)), .val (.int (3 : Int32)), .val (.ref (A 3))] [(.ref b322), (.ref (A 8))])) _
    refine st453.trans ?_
    show Steps p.tables e below (T453.setTop (mkF m 28 #[.val (.ref b322), .val (.ref b359_b357), .val (.int (4 : Int32)), .val (.int (3 : Int32)), .val (.ref (A 3))] [(.int (1 : Int32))])) _
    refine XS.ifNo X453.here hx rfl (hb hby own_d_prog_26_method_4_code_28) rfl ((if0 _ _).trans (feq (by decide : ¬ ((1 : Int32) = (0 : Int32)))).1) ?_
    show Steps p.tables e below (T453.setTop (mkF m 31 #[.val (.ref b322), .val (.ref b359_b357), .val (.int (4 : Int32)), .val (.int (3 : Int32)), .val (.ref (A 3))] [])) _
    refine XS.aload X453.here hx rfl (hb hby own_d_prog_26_method_4_code_31) rfl rfl ?_
    show Steps p.tables e below (T453.setTop (mkF m 33 #[.val (.ref b322), .val (.ref b359_b357), .val (.int (4 : Int32)), .val (.int (3 : Int32)), .val (.ref (A 3))] [(.ref (A 3))])) _
    exact retOut X453 hx Bd.returns rfl (Or.inr (Or.inr (Or.inr (Or.inr ⟨rfl, rfl, rfl⟩)))) (hb hby own_d_prog_26_method_4_code_33) hr
  · show Q_rm42 Z p1 A K cs b315 b322 b354_b352_b340_b326 k315 k354_k352_k340_k326 h0 n0 _ T453.heap _
    rw [e453]
    exact ⟨b359_b357, rfl, N453, KK359, ⟨gn_b359_b357, sz_b359_b357⟩, f359_0, f359_1⟩
theorem own_ef_rm52 (m : MethodId) (p1 : Int32) (A : Nat → Addr) (K : Nat → ClassId) (cs : Int32)  : entryFrame m #[(.ref (A 3))] 1 = mkF m 0 #[.val (.ref (A 3))] [] := by first | (simp [entryFrame, mkF, argsToLocals, Value.category, maxLocals]; done) | rfl
set_option maxRecDepth 65536 in
set_option maxHeartbeats 40000000 in
theorem rm52 (l : Launch) (Z : State) (a0 : Array Value) (hw : ∀ d ∈ tables_1, d.before a0 Z = true) (ws : List Jvm.Cond) (h0 : Heap) (n0 : Nat) (p1 : Int32) (A : Nat → Addr) (K : Nat → ClassId) (cs : Int32)  (EN : own_St Z A K cs) (OL0 : Old Z n0 h0) :
    MetFree l own_m2 (head1 (Jvm.Cond.code own_m2 prog_26_method_5_code 1 (some (.object "java/lang/String")) :: ws) ({ frames := 0, cells := 0, slots := 0, locals := 0 } : Room)) (fun a U => a = #[(.ref (A 3))] ∧ Z.Warmed39 U.vm ∧ U.heap = h0) (fun _ _ _ _ _ => True) (fun _ U o U' => ∃ v L, o = .returned v ∧ (PQ (some (.ref (A 8))) h0 n0) v U'.heap L ∧ FrameEnd U o U' L ({ frames := 0, cells := 0, slots := 0, locals := 0 } : Room).cells ({ frames := 0, cells := 0, slots := 0, locals := 0 } : Room).slots) := by
  refine MetFree.of_bodySF (plainFor_of_name own_pn2) hisR ?_
  intro p e s m args below meth c s₁ Bd hml0 hP hK
  obtain ⟨rfl, hZ, hh⟩ := hP
  have hx := Bd.exec
  have hby := Bd.bytes
  have hml : c.maxLocals = 1 := hml0
  have hown : s.vm.findClass "com/example/dongl/dongl/crypto/ProtocolVersion" = some m.cls := findClass_of_methodNamed Bd.named
  have hnm := (name_of_methodNamed Bd.named Bd.method).1
  have X0 : Stand p l e ({ frames := 0, cells := 0, slots := 0, locals := 0 } : Room) s m #[(.ref (A 3))] below meth c s₁ [] 0 0 := Stand.of_body Bd
  have e0 : s₁.heap = h0 := by rw [← hh, Bd.state]; rfl
  have N0 := Fr.nil n0
  have pre0 : ∀ t, Steps p.tables e below (s₁.setTop (mkF m 0 #[.val (.ref (A 3))] [])) t → Steps p.tables e below (s₁.setTop (entryFrame m #[(.ref (A 3))] 1)) t := fun t k => castTop (own_ef_rm52 m p1 A K cs ) k
  have KK0 : Keep h0 h0 [] := Keep.refl _ _
  obtain ⟨T456, X456, e456, st456⟩ := getF X0 hx hZ hown (host := "") (Or.inl (hw _ (List.mem_of_getElem? (i := 54) rfl))) Via.refl e0 (EN.2.2.1.2.1.ext OL0.2) (g := (mkF m 1 #[.val (.ref (A 3))] [(.ref (A 3))])) rfl rfl (hb hby own_d_prog_26_method_5_code_1)
  obtain ⟨fs, hr, hrun, hended, hW, hsame⟩ := X456.leave (v := some (.ref (A 8))) (fun h => by rw [Bd.returns] at h; cases h)
  refine ⟨_, _, pre0 _ ?_, hrun, hended, _, _, rfl, ?_, ⟨_, rfl⟩, hW, hsame.mono (by decide) (by decide)⟩
  · show Steps p.tables e below (s₁.setTop (mkF m 0 #[.val (.ref (A 3))] [])) _
    refine XS.aloadN X0.here hx rfl (hb hby own_d_prog_26_method_5_code_0) rfl rfl ?_
    show Steps p.tables e below (s₁.setTop (mkF m 1 #[.val (.ref (A 3))] [(.ref (A 3))])) _
    refine st456 _ ?_
    show Steps p.tables e below (T456.setTop (mkF m 4 #[.val (.ref (A 3))] [(.ref (A 8))])) _
    exact retOut X456 hx Bd.returns rfl (Or.inr (Or.inr (Or.inr (Or.inr ⟨rfl, rfl, rfl⟩)))) (hb hby own_d_prog_26_method_5_code_4) hr
  · show PQ (some (.ref (A 8))) h0 n0 _ T456.heap _
    rw [e456]
    exact ⟨rfl, N0, rfl⟩
theorem own_pn4 : plainName "com/example/dongl/dongl/crypto/ProtocolVersionOfPinLaw" = true := by first | (simp [plainName, overriddenIn]; done) | decide +kernel
theorem own_ef_rm0 (m : MethodId) (p1 : Int32) (A : Nat → Addr) (K : Nat → ClassId) (cs : Int32) : entryFrame m #[(.int p1)] maxLocals = mkF m 0 #[.val (.int p1), .unset, .unset, .unset, .unset, .unset] [] := by first | (simp [entryFrame, mkF, argsToLocals, Value.category, maxLocals]; done) | rfl
set_option maxRecDepth 65536 in
set_option maxHeartbeats 40000000 in
theorem rm0 (l : Launch) (Z : State) (a0 : Array Value) (hw : ∀ d ∈ tables_1, d.before a0 Z = true) (ws : List Jvm.Cond) (h0 : Heap) (n0 : Nat) (p1 : Int32) (A : Nat → Addr) (K : Nat → ClassId) (cs : Int32) (EN : own_St Z A K cs) (OL0 : Old Z n0 h0) :
    MetFree l x (head1 (Jvm.Cond.code x code maxLocals ret :: ws) room_1) (fun a U => a = #[(.int p1)] ∧ Z.Warmed39 U.vm ∧ U.heap = h0) (fun _ _ _ _ _ => True) (fun _ U o U' => ∃ v L, o = .returned v ∧ (LQ n0) v U'.heap L ∧ FrameEnd U o U' L room_1.cells room_1.slots) := by
  refine MetFree.of_bodySF (plainFor_of_name own_pn4) hisR ?_
  intro p e s m args below meth c s₁ Bd hml0 hP hK
  obtain ⟨rfl, hZ, hh⟩ := hP
  have hx := Bd.exec
  have hby := Bd.bytes
  have hml : c.maxLocals = 6 := hml0
  have hown : s.vm.findClass "com/example/dongl/dongl/crypto/ProtocolVersionOfPinLaw" = some m.cls := findClass_of_methodNamed Bd.named
  have hnm := (name_of_methodNamed Bd.named Bd.method).1
  have X0 : Stand p l e room_1 s m #[(.int p1)] below meth c s₁ [] 0 0 := Stand.of_body Bd
  have e0 : s₁.heap = h0 := by rw [← hh, Bd.state]; rfl
  have N0 := Fr.nil n0
  have pre0 : ∀ t, Steps p.tables e below (s₁.setTop (mkF m 0 #[.val (.int p1), .unset, .unset, .unset, .unset, .unset] [])) t → Steps p.tables e below (s₁.setTop (entryFrame m #[(.int p1)] maxLocals)) t := fun t k => castTop (own_ef_rm0 m p1 A K cs) k
  have KK0 : Keep h0 h0 [] := Keep.refl _ _
  have pre1 : ∀ t, Steps p.tables e below (s₁.setTop (mkF m 3 #[.val (.int p1), .unset, .unset, .unset, .unset, .unset] [(.int (p1 &&& (3 : Int32)))])) t → Steps p.tables e below (s₁.setTop (entryFrame m #[(.int p1)] maxLocals)) t := fun t k => pre0 t (by
    show Steps p.tables e below (s₁.setTop (mkF m 0 #[.val (.int p1), .unset, .unset, .unset, .unset, .unset] [])) _
    refine XS.iloadN X0.here hx rfl (hb hby at_0) rfl ?_
    show Steps p.tables e below (s₁.setTop (mkF m 1 #[.val (.int p1), .unset, .unset, .unset, .unset, .unset] [(.int p1)])) _
    refine XS.iconst X0.here hx rfl (hb hby at_1) ?_
    show Steps p.tables e below (s₁.setTop (mkF m 2 #[.val (.int p1), .unset, .unset, .unset, .unset, .unset] [(.int (3 : Int32)), (.int p1)])) _
    refine XS.iand X0.here hx rfl (hb hby at_2) rfl ?_
    exact k)
  obtain ⟨nn2, hn2, hk2⟩ := own_k p1
  match nn2, hn2, hk2 with
  | 0, _, hk2 =>
    obtain ⟨T3, h3, k3, X3, e3, E3, A3, st3⟩ := newP X0 hx hZ (hw _ (List.mem_of_getElem? (i := 0) rfl)) e0 (g := (mkF m 5 #[.val (.int p1), .val (.int (0 : Int32)), .unset, .unset, .unset, .unset] [(.int (3 : Int32))])) rfl (hb hby at_5) rfl (by decide) (cap := 3) (by decide) (by decide) (by decide) (by decide)
    obtain ⟨b3, g3⟩ : ∃ z, z = h0.size := ⟨_, rfl⟩
    rw [← g3] at A3 st3
    have gn_b3 : n0 ≤ b3 := Nat.le_trans (OL0.1 ▸ OL0.2.1) (Nat.le_of_eq g3.symm)
    have sz_b3 : h0.size ≤ b3 := Nat.le_trans KK0.1 (Nat.le_of_eq g3.symm)
    have OL3 : Old Z n0 h3 := OL0.ext E3
    have KK3 : Keep h0 h3 [] := KK0.ext E3
    have V3 : Arv Z h3 b3 k3 .char (3 : Int32) [] (.int (0 : Int32)) := Arv.new A3 (by decide)
    obtain ⟨cl4, Ar4, q4, Sz4, Nn4, Hh4, Gg4⟩ := (id (Arv.pad V3 (pad_rep [] (.int (0 : Int32)) 1)))
    have hin4 : ¬ ((0 : Int32) < 0 ∨ cl4.slots.size ≤ ((0 : Int32)).toNatClampNeg) := inb_of Sz4 ⟨by decide, by decide⟩
    obtain ⟨T5, h5, X5, e5, W5, st5⟩ := stC X3 hx hZ e3 Ar4 (j := (0 : Int32)) hin4 (g := (mkF m 12 #[.val (.int p1), .val (.int (0 : Int32)), .val (.ref b3), .unset, .unset, .unset] [(.int (51 : Int32)), (.int (0 : Int32)), (.ref b3)])) rfl rfl (hb hby at_12)
    have NF5 := Fr.snoc X5 N0 gn_b3
    have OL5 : Old Z n0 h5 := OL3.wr W5 gn_b3
    have KK5 : Keep h0 h5 [] := KK3.wr W5 (Or.inr sz_b3)
    have V5 : Arv Z h5 b3 k3 .char (3 : Int32) [(.int (51 : Int32))] (.int (0 : Int32)) := Arv.set Ar4 q4 Sz4 Nn4 Hh4 Gg4 (fits_nar_char _) W5 0 (by decide) (by decide)
    obtain ⟨cl6, Ar6, q6, Sz6, Nn6, Hh6, Gg6⟩ := (id (Arv.pad V5 (pad_rep [(.int (51 : Int32))] (.int (0 : Int32)) 1)))
    have hin6 : ¬ ((1 : Int32) < 0 ∨ cl6.slots.size ≤ ((1 : Int32)).toNatClampNeg) := inb_of Sz6 ⟨by decide, by decide⟩
    obtain ⟨T7, h7, X7, e7, W7, st7⟩ := stC X5 hx hZ e5 Ar6 (j := (1 : Int32)) hin6 (g := (mkF m 17 #[.val (.int p1), .val (.int (0 : Int32)), .val (.ref b3), .unset, .unset, .unset] [(.int (46 : Int32)), (.int (1 : Int32)), (.ref b3)])) rfl rfl (hb hby at_17)
    have NF7 := Fr.snoc X7 NF5 gn_b3
    have OL7 : Old Z n0 h7 := OL5.wr W7 gn_b3
    have KK7 : Keep h0 h7 [] := KK5.wr W7 (Or.inr sz_b3)
    have V7 : Arv Z h7 b3 k3 .char (3 : Int32) [(.int (51 : Int32)), (.int (46 : Int32))] (.int (0 : Int32)) := Arv.set Ar6 q6 Sz6 Nn6 Hh6 Gg6 (fits_nar_char _) W7 1 (by decide) (by decide)
    obtain ⟨cl8, Ar8, q8, Sz8, Nn8, Hh8, Gg8⟩ := (id (Arv.pad V7 (pad_rep [(.int (51 : Int32)), (.int (46 : Int32))] (.int (0 : Int32)) 1)))
    have hin8 : ¬ ((2 : Int32) < 0 ∨ cl8.slots.size ≤ ((2 : Int32)).toNatClampNeg) := inb_of Sz8 ⟨by decide, by decide⟩
    obtain ⟨T9, h9, X9, e9, W9, st9⟩ := stC X7 hx hZ e7 Ar8 (j := (2 : Int32)) hin8 (g := (mkF m 25 #[.val (.int p1), .val (.int (0 : Int32)), .val (.ref b3), .unset, .unset, .unset] [(.int (48 : Int32)), (.int (2 : Int32)), (.ref b3)])) rfl rfl (hb hby at_25)
    have NF9 := Fr.snoc X9 NF7 gn_b3
    have OL9 : Old Z n0 h9 := OL7.wr W9 gn_b3
    have KK9 : Keep h0 h9 [] := KK7.wr W9 (Or.inr sz_b3)
    have V9 : Arv Z h9 b3 k3 .char (3 : Int32) [(.int (51 : Int32)), (.int (46 : Int32)), (.int (48 : Int32))] (.int (0 : Int32)) := Arv.set Ar8 q8 Sz8 Nn8 Hh8 Gg8 (fits_nar_char _) W9 2 (by decide) (by decide)
    obtain ⟨T10, h10, X10, e10, E10, A10, D10, -, st10⟩ := newO X9 hx hZ hown (hw _ (List.mem_of_getElem? (i := 1) rfl)) (hw _ (List.mem_of_getElem? (i := 2) rfl)) (hw _ (List.mem_of_getElem? (i := 3) rfl)) e9 (g := (mkF m 26 #[.val (.int p1), .val (.int (0 : Int32)), .val (.ref b3), .unset, .unset, .unset] [])) rfl (hb hby at_26) (by decide) (by decide)
    obtain ⟨b10, g10⟩ : ∃ z, z = h9.size := ⟨_, rfl⟩
    rw [← g10] at A10 D10 st10
    have gn_b10 : n0 ≤ b10 := Nat.le_trans (OL9.1 ▸ OL9.2.1) (Nat.le_of_eq g10.symm)
    have sz_b10 : h0.size ≤ b10 := Nat.le_trans KK9.1 (Nat.le_of_eq g10.symm)
    have lt_b3_b10 : b3 < b10 := Nat.lt_of_lt_of_le V9.lt (Nat.le_of_eq g10.symm)
    have OL10 : Old Z n0 h10 := OL9.ext E10
    have KK10 : Keep h0 h10 [] := KK9.ext E10
    have F10_coder : Fld Z h10 b10 "java/lang/String" "coder" "B" (.int (0 : Int32)) := D10 (Or.inr (hw _ (List.mem_of_getElem? (i := 27) rfl))) (ty := .byte) (by decide)
    have F10_value : Fld Z h10 b10 "java/lang/String" "value" "[B" .null := D10 (Or.inr (hw _ (List.mem_of_getElem? (i := 29) rfl))) (ty := (.array .byte)) (by decide)
    have fx41 : Arv Z h10 b3 k3 .char (3 : Int32) [(.int (51 : Int32)), (.int (46 : Int32)), (.int (48 : Int32))] (.int (0 : Int32)) := (V9.ext E10)
    obtain ⟨_, _, ⟨T42, L42, k42, n42⟩, -, X42, ⟨Lc42, hQ42, l42, y42, z42⟩, st42⟩ := X10.specialBack hx (y := own_m7) rfl hown (mvT hZ (hw _ (List.mem_of_getElem? (i := 4) rfl))) (mvT hZ (hw _ (List.mem_of_getElem? (i := 5) rfl))) (mvT hZ (hw _ (List.mem_of_getElem? (i := 6) rfl))) (by decide) (backOf (W := 1) (rm1 l Z a0 hw [] h10 n0 p1 A K cs b3 b10 k3 EN OL10 fx41 A10 F10_coder F10_value gn_b10) hZ (hw _ (List.mem_of_getElem? (i := 6) rfl)) (hw _ (List.mem_of_getElem? (i := 3) rfl)) (by decide) (by decide)) (g := (mkF m 31 #[.val (.int p1), .val (.int (0 : Int32)), .val (.ref b3), .unset, .unset, .unset] [(.ref b3), (.ref b10), (.ref b10)])) rfl (by rw [hml]; rfl) (Steps.refl _) (a := b10) (argsL := [(.ref b3)]) (rest := [(.ref b10)]) (lenOf own_pd4 rfl) rfl (by show 2 * 0 + _ ≤ _; exact Nat.le_of_eq rfl) (hb hby at_31) (fun _ _ => ⟨rfl, e10, (by decide : 2 + 1 ≤ _), (by decide : 7 + 3 ≤ _)⟩)
    dsimp only [Pt.U, Pt.locs, Pt.cells, Pt.slots] at X42 l42 y42 z42 st42 hQ42
    subst l42 y42 z42
    obtain ⟨b42_b40_b28_b14, k42_k40_k28_k14, rfl, N42q, K42c, ⟨gn_b42_b40_b28_b14, szc_b42_b40_b28_b14⟩, f42_0, f42_1, f42_2, f42_3⟩ := hQ42
    have N42 := Fr.app NF9 N42q
    have lt_b3_b42_b40_b28_b14 : b3 < b42_b40_b28_b14 := Nat.lt_of_lt_of_le fx41.lt szc_b42_b40_b28_b14
    have lt_b10_b42_b40_b28_b14 : b10 < b42_b40_b28_b14 := Nat.lt_of_lt_of_le A10.lt szc_b42_b40_b28_b14
    have sz_b42_b40_b28_b14 : h0.size ≤ b42_b40_b28_b14 := Nat.le_trans KK10.1 szc_b42_b40_b28_b14
    have OL42 : Old Z n0 T42.heap := OL10.keep K42c (allS gn_b10 all0)
    have KK42 : Keep h0 T42.heap [] := KK10.trans K42c (allS (Or.inr sz_b10) all0)
    obtain ⟨T43, X43, e43, st43⟩ := getS2 X42 hx hZ hown (host := "") (Or.inl (hw _ (List.mem_of_getElem? (i := 30) rfl))) Via.refl rfl (EN.1.1.ext OL42.2) (g := (mkF m 39 #[.val (.int p1), .val (.int (0 : Int32)), .val (.ref b3), .val (.ref b10), .unset, .unset] [])) rfl (hb hby at_39)
    have fx76 : Arv Z T42.heap b3 k3 .char (3 : Int32) [(.int (51 : Int32)), (.int (46 : Int32)), (.int (48 : Int32))] (.int (0 : Int32)) := (fx41.keep K42c (ninS (Nat.ne_of_lt lt_b3_b10) nin0))
    obtain ⟨_, _, ⟨T77, L77, k77, n77⟩, -, X77, ⟨Lc77, hQ77, l77, y77, z77⟩, st77⟩ := Jvm.LawKit.callS X43 hx (y := own_m9) hown (mvT hZ (hw _ (List.mem_of_getElem? (i := 33) rfl))) (mvT hZ (hw _ (List.mem_of_getElem? (i := 34) rfl))) (mvT hZ (hw _ (List.mem_of_getElem? (i := 31) rfl))) (mvT hZ (hw _ (List.mem_of_getElem? (i := 35) rfl))) (by decide) (backOf (W := 0) (rm6 l Z a0 hw [] T42.heap n0 p1 A K cs b3 b10 b42_b40_b28_b14 k3 k42_k40_k28_k14 EN OL42 fx76 f42_0 f42_3 f42_2 f42_1 gn_b10) hZ (hw _ (List.mem_of_getElem? (i := 35) rfl)) (hw _ (List.mem_of_getElem? (i := 31) rfl)) (by decide) (by decide)) (g := (mkF m 79 #[.val (.int p1), .val (.int (0 : Int32)), .val (.ref b3), .val (.ref b10), .val (.ref (A 0)), .unset] [(.ref b10)])) rfl (by rw [hml]; rfl) (argsL := [(.ref b10)]) (rest := []) (lenOf own_pd8 rfl) rfl (by show 2 * 0 + _ ≤ _; exact Nat.le_of_eq rfl) (hb hby at_79) (fun _ _ => ⟨rfl, e43, (by decide : 3 + 1 ≤ _), (by decide : 10 + 4 ≤ _)⟩)
    dsimp only [Pt.U, Pt.locs, Pt.cells, Pt.slots] at X77 l77 y77 z77 st77 hQ77
    subst l77 y77 z77
    obtain ⟨b77_b47_b45, rfl, N77q, K77c, ⟨gn_b77_b47_b45, szc_b77_b47_b45⟩, f77_0, f77_1⟩ := hQ77
    have N77 := Fr.app N42 N77q
    have lt_b3_b77_b47_b45 : b3 < b77_b47_b45 := Nat.lt_of_lt_of_le fx76.lt szc_b77_b47_b45
    have lt_b10_b77_b47_b45 : b10 < b77_b47_b45 := Nat.lt_of_lt_of_le f42_0.lt szc_b77_b47_b45
    have lt_b42_b40_b28_b14_b77_b47_b45 : b42_b40_b28_b14 < b77_b47_b45 := Nat.lt_of_lt_of_le f42_3.lt szc_b77_b47_b45
    have sz_b77_b47_b45 : h0.size ≤ b77_b47_b45 := Nat.le_trans KK42.1 szc_b77_b47_b45
    have OL77 : Old Z n0 T77.heap := OL42.keep K77c all0
    have KK77 : Keep h0 T77.heap [] := KK42.trans K77c all0
    obtain ⟨cq79, kq79, q79a, q79b, q79c⟩ := isOf hZ rfl (EN.1.2.1.ext OL77.2)
    obtain ⟨_, _, ⟨T79, L79, k79, n79⟩, -, X79, ⟨Lc79, hQ79, l79, y79, z79⟩, st79⟩ := X77.virtualBack hx (y := own_m2) (z := own_m2) hown (mvT hZ (hw _ (List.mem_of_getElem? (i := 66) rfl))) (mvT hZ (hw _ (List.mem_of_getElem? (i := 67) rfl))) (notFace_of_selects (args := #[]) (mvT hZ (hw _ (List.mem_of_getElem? (i := 69) rfl)))) (mvT hZ (hw _ (List.mem_of_getElem? (i := 69) rfl))) (mvT hZ (hw _ (List.mem_of_getElem? (i := 68) rfl))) (by decide) (backOf (W := 0) (rm10 l Z a0 hw [] T77.heap n0 p1 A K cs EN OL77) hZ (hw _ (List.mem_of_getElem? (i := 70) rfl)) (hw _ (List.mem_of_getElem? (i := 31) rfl)) (by decide) (by decide)) q79a q79c (g := (mkF m 93 #[.val (.int p1), .val (.int (0 : Int32)), .val (.ref b3), .val (.ref b10), .val (.ref (A 0)), .val (.ref (A 0))] [(.ref (A 0))])) rfl (by rw [hml]; rfl) (Steps.refl _) (argsL := []) (rest := []) (lenOf own_pd9 rfl) rfl (by show 2 * 0 + _ ≤ _; exact Nat.le_of_eq rfl) (hb hby at_93) (fun _ _ => ⟨rfl, rfl, (by decide : 4 + 0 ≤ _), (by decide : 14 + 0 ≤ _)⟩)
    dsimp only [Pt.U, Pt.locs, Pt.cells, Pt.slots] at X79 l79 y79 z79 st79 hQ79
    subst l79 y79 z79
    obtain ⟨rfl, N79q, e79⟩ := hQ79
    have N79 := Fr.app N77 N79q
    have fx80 : Fld Z T77.heap b10 "java/lang/String" "value" "[B" (.ref b42_b40_b28_b14) := (f42_2.keep K77c nin0)
    have fx81 : Arv Z T77.heap b42_b40_b28_b14 k42_k40_k28_k14 .byte (3 : Int32) [(.int (51 : Int32)), (.int (46 : Int32)), (.int (48 : Int32))] (.int (0 : Int32)) := (f42_3.keep K77c nin0)
    have fx82 : Exa Z T77.heap b10 "java/lang/String" := (f42_0.keep K77c)
    have fx83 : Fld Z T77.heap b10 "java/lang/String" "coder" "B" (.int (0 : Int32)) := (f42_1.keep K77c nin0)
    obtain ⟨cq84, kq84, q84a, q84b, q84c⟩ := isOf hZ e79 (EN.2.1.2.2.2.2.1.ext OL77.2)
    obtain ⟨_, _, ⟨T84, L84, k84, n84⟩, -, X84, ⟨Lc84, hQ84, l84, y84, z84⟩, st84⟩ := X79.virtualBack hx (y := own_m0) (z := own_m0) hown (mvT hZ (hw _ (List.mem_of_getElem? (i := 71) rfl))) (mvT hZ (hw _ (List.mem_of_getElem? (i := 57) rfl))) (notFace_of_selects (args := #[]) (mvT hZ (hw _ (List.mem_of_getElem? (i := 59) rfl)))) (mvT hZ (hw _ (List.mem_of_getElem? (i := 59) rfl))) (mvT hZ (hw _ (List.mem_of_getElem? (i := 58) rfl))) (by decide) (backOf (W := 0) (rm8 l Z a0 hw [] T77.heap n0 p1 A K cs b10 b42_b40_b28_b14 k42_k40_k28_k14 EN OL77 fx80 fx81 fx82 fx83 gn_b10) hZ (hw _ (List.mem_of_getElem? (i := 60) rfl)) (hw _ (List.mem_of_getElem? (i := 3) rfl)) (by decide) (by decide)) q84a q84c (g := (mkF m 97 #[.val (.int p1), .val (.int (0 : Int32)), .val (.ref b3), .val (.ref b10), .val (.ref (A 0)), .val (.ref (A 0))] [(.ref b10), (.ref (A 5))])) rfl (by rw [hml]; rfl) (Steps.refl _) (argsL := [(.ref b10)]) (rest := []) (lenOf own_pd7 rfl) rfl (by show 2 * 0 + _ ≤ _; exact Nat.le_of_eq rfl) (hb hby at_97) (fun _ _ => ⟨rfl, e79, (by decide : 4 + 0 ≤ _), (by decide : 14 + 0 ≤ _)⟩)
    dsimp only [Pt.U, Pt.locs, Pt.cells, Pt.slots] at X84 l84 y84 z84 st84 hQ84
    subst l84 y84 z84
    obtain ⟨rfl, N84q, e84⟩ := hQ84
    have N84 := Fr.app N79 N84q
    obtain ⟨fs, hr, hrun, hended, hW, hsame⟩ := X84.leave (v := some (.int (1 : Int32))) (fun h => by rw [Bd.returns] at h; cases h)
    refine ⟨_, _, pre1 _ ?_, hrun, hended, _, _, rfl, ?_, ⟨_, rfl⟩, hW, hsame.mono (by decide) (by decide)⟩
    · show Steps p.tables e below (s₁.setTop (mkF m 3 #[.val (.int p1), .unset, .unset, .unset, .unset, .unset] [(.int (p1 &&& (3 : Int32)))])) _
      rw [hk2]
      show Steps p.tables e below (s₁.setTop (mkF m 3 #[.val (.int p1), .unset, .unset, .unset, .unset, .unset] [(.int (0 : Int32))])) _
      refine XS.istoreN X0.here hx rfl (hb hby at_3) rfl (l' := #[.val (.int p1), .val (.int (0 : Int32)), .unset, .unset, .unset, .unset]) rfl ?_
      show Steps p.tables e below (s₁.setTop (mkF m 4 #[.val (.int p1), .val (.int (0 : Int32)), .unset, .unset, .unset, .unset] [])) _
      refine XS.iconst X0.here hx rfl (hb hby at_4) ?_
      show Steps p.tables e below (s₁.setTop (mkF m 5 #[.val (.int p1), .val (.int (0 : Int32)), .unset, .unset, .unset, .unset] [(.int (3 : Int32))])) _
      refine st3 _ ?_
      show Steps p.tables e below (T3.setTop (mkF m 7 #[.val (.int p1), .val (.int (0 : Int32)), .unset, .unset, .unset, .unset] [(.ref b3)])) _
      refine XS.astoreN X3.here hx rfl (hb hby at_7) rfl rfl (l' := #[.val (.int p1), .val (.int (0 : Int32)), .val (.ref b3), .unset, .unset, .unset]) rfl ?_
      show Steps p.tables e below (T3.setTop (mkF m 8 #[.val (.int p1), .val (.int (0 : Int32)), .val (.ref b3), .unset, .unset, .unset] [])) _
      refine XS.aloadN X3.here hx rfl (hb hby at_8) rfl rfl ?_
      show Steps p.tables e below (T3.setTop (mkF m 9 #[.val (.int p1), .val (.int (0 : Int32)), .val (.ref b3), .unset, .unset, .unset] [(.ref b3)])) _
      refine XS.iconst X3.here hx rfl (hb hby at_9) ?_
      show Steps p.tables e below (T3.setTop (mkF m 10 #[.val (.int p1), .val (.int (0 : Int32)), .val (.ref b3), .unset, .unset, .unset] [(.int (0 : Int32)), (.ref b3)])) _
      refine XS.bipush X3.here hx rfl (hb hby at_10) ?_
      show Steps p.tables e below (T3.setTop (mkF m 12 #[.val (.int p1), .val (.int (0 : Int32)), .val (.ref b3), .unset, .unset, .unset] [(.int (51 : Int32)), (.int (0 : Int32)), (.ref b3)])) _
      refine st5 _ ?_
      show Steps p.tables e below (T5.setTop (mkF m 13 #[.val (.int p1), .val (.int (0 : Int32)), .val (.ref b3), .unset, .unset, .unset] [])) _
      refine XS.aloadN X5.here hx rfl (hb hby at_13) rfl rfl ?_
      show Steps p.tables e below (T5.setTop (mkF m 14 #[.val (.int p1), .val (.int (0 : Int32)), .val (.ref b3), .unset, .unset, .unset] [(.ref b3)])) _
      refine XS.iconst X5.here hx rfl (hb hby at_14) ?_
      show Steps p.tables e below (T5.setTop (mkF m 15 #[.val (.int p1), .val (.int (0 : Int32)), .val (.ref b3), .unset, .unset, .unset] [(.int (1 : Int32)), (.ref b3)])) _
      refine XS.bipush X5.here hx rfl (hb hby at_15) ?_
      show Steps p.tables e below (T5.setTop (mkF m 17 #[.val (.int p1), .val (.int (0 : Int32)), .val (.ref b3), .unset, .unset, .unset] [(.int (46 : Int32)), (.int (1 : Int32)), (.ref b3)])) _
      refine st7 _ ?_
      show Steps p.tables e below (T7.setTop (mkF m 18 #[.val (.int p1), .val (.int (0 : Int32)), .val (.ref b3), .unset, .unset, .unset] [])) _
      refine XS.aloadN X7.here hx rfl (hb hby at_18) rfl rfl ?_
      show Steps p.tables e below (T7.setTop (mkF m 19 #[.val (.int p1), .val (.int (0 : Int32)), .val (.ref b3), .unset, .unset, .unset] [(.ref b3)])) _
      refine XS.iconst X7.here hx rfl (hb hby at_19) ?_
      show Steps p.tables e below (T7.setTop (mkF m 20 #[.val (.int p1), .val (.int (0 : Int32)), .val (.ref b3), .unset, .unset, .unset] [(.int (2 : Int32)), (.ref b3)])) _
      refine XS.bipush X7.here hx rfl (hb hby at_20) ?_
      show Steps p.tables e below (T7.setTop (mkF m 22 #[.val (.int p1), .val (.int (0 : Int32)), .val (.ref b3), .unset, .unset, .unset] [(.int (48 : Int32)), (.int (2 : Int32)), (.ref b3)])) _
      refine XS.iloadN X7.here hx rfl (hb hby at_22) rfl ?_
      show Steps p.tables e below (T7.setTop (mkF m 23 #[.val (.int p1), .val (.int (0 : Int32)), .val (.ref b3), .unset, .unset, .unset] [(.int (0 : Int32)), (.int (48 : Int32)), (.int (2 : Int32)), (.ref b3)])) _
      refine XS.iadd X7.here hx rfl (hb hby at_23) rfl ?_
      show Steps p.tables e below (T7.setTop (mkF m 24 #[.val (.int p1), .val (.int (0 : Int32)), .val (.ref b3), .unset, .unset, .unset] [(.int (48 : Int32)), (.int (2 : Int32)), (.ref b3)])) _
      refine XS.i2c X7.here hx rfl (hb hby at_24) rfl ?_
      show Steps p.tables e below (T7.setTop (mkF m 25 #[.val (.int p1), .val (.int (0 : Int32)), .val (.ref b3), .unset, .unset, .unset] [(.int (48 : Int32)), (.int (2 : Int32)), (.ref b3)])) _
      refine st9 _ ?_
      show Steps p.tables e below (T9.setTop (mkF m 26 #[.val (.int p1), .val (.int (0 : Int32)), .val (.ref b3), .unset, .unset, .unset] [])) _
      refine st10 _ ?_
      show Steps p.tables e below (T10.setTop (mkF m 29 #[.val (.int p1), .val (.int (0 : Int32)), .val (.ref b3), .unset, .unset, .unset] [(.ref b10)])) _
      refine XS.dup X10.here hx rfl (hb hby at_29) rfl rfl ?_
      show Steps p.tables e below (T10.setTop (mkF m 30 #[.val (.int p1), .val (.int (0 : Int32)), .val (.ref b3), .unset, .unset, .unset] [(.ref b10), (.ref b10)])) _
      refine XS.aloadN X10.here hx rfl (hb hby at_30) rfl rfl ?_
      show Steps p.tables e below (T10.setTop (mkF m 31 #[.val (.int p1), .val (.int (0 : Int32)), .val (.ref b3), .unset, .unset, .unset] [(.ref b3), (.ref b10), (.ref b10)])) _
      refine st42.trans ?_
      show Steps p.tables e below (T42.setTop (mkF m 34 #[.val (.int p1), .val (.int (0 : Int32)), .val (.ref b3), .unset, .unset, .unset] [(.ref b10)])) _
      refine XS.astoreN X42.here hx rfl (hb hby at_34) rfl rfl (l' := #[.val (.int p1), .val (.int (0 : Int32)), .val (.ref b3), .val (.ref b10), .unset, .unset]) rfl ?_
      show Steps p.tables e below (T42.setTop (mkF m 35 #[.val (.int p1), .val (.int (0 : Int32)), .val (.ref b3), .val (.ref b10), .unset, .unset] [])) _
      refine XS.iloadN X42.here hx rfl (hb hby at_35) rfl ?_
      show Steps p.tables e below (T42.setTop (mkF m 36 #[.val (.int p1), .val (.int (0 : Int32)), .val (.ref b3), .val (.ref b10), .unset, .unset] [(.int (0 : Int32))])) _
      refine XS.ifNo X42.here hx rfl (hb hby at_36) rfl ((if0 _ _).trans (teq (by decide : (0 : Int32) = (0 : Int32))).2) ?_
      show Steps p.tables e below (T42.setTop (mkF m 39 #[.val (.int p1), .val (.int (0 : Int32)), .val (.ref b3), .val (.ref b10), .unset, .unset] [])) _
      refine st43 _ ?_
      show Steps p.tables e below (T43.setTop (mkF m 42 #[.val (.int p1), .val (.int (0 : Int32)), .val (.ref b3), .val (.ref b10), .unset, .unset] [(.ref (A 0))])) _
      refine XS.astore X43.here hx rfl (hb hby at_42) rfl rfl (l' := #[.val (.int p1), .val (.int (0 : Int32)), .val (.ref b3), .val (.ref b10), .val (.ref (A 0)), .unset]) rfl ?_
      show Steps p.tables e below (T43.setTop (mkF m 44 #[.val (.int p1), .val (.int (0 : Int32)), .val (.ref b3), .val (.ref b10), .val (.ref (A 0)), .unset] [])) _
      refine XS.goto X43.here hx rfl (pc0 := 44) (pc' := 78) rfl (hb hby at_44) (by decide) (by decide) ?_
      show Steps p.tables e below (T43.setTop (mkF m 78 #[.val (.int p1), .val (.int (0 : Int32)), .val (.ref b3), .val (.ref b10), .val (.ref (A 0)), .unset] [])) _
      refine XS.aloadN X43.here hx rfl (hb hby at_78) rfl rfl ?_
      show Steps p.tables e below (T43.setTop (mkF m 79 #[.val (.int p1), .val (.int (0 : Int32)), .val (.ref b3), .val (.ref b10), .val (.ref (A 0)), .unset] [(.ref b10)])) _
      refine st77 _ ?_
      show Steps p.tables e below (T77.setTop (mkF m 82 #[.val (.int p1), .val (.int (0 : Int32)), .val (.ref b3), .val (.ref b10), .val (.ref (A 0)), .unset] [(.ref (A 0))])) _
      refine XS.astore X77.here hx rfl (hb hby at_82) rfl rfl (l' := #[.val (.int p1), .val (.int (0 : Int32)), .val (.ref b3), .val (.ref b10), .val (.ref (A 0)), .val (.ref (A 0))]) rfl ?_
      show Steps p.tables e below (T77.setTop (mkF m 84 #[.val (.int p1), .val (.int (0 : Int32)), .val (.ref b3), .val (.ref b10), .val (.ref (A 0)), .val (.ref (A 0))] [])) _
      refine XS.aload X77.here hx rfl (hb hby at_84) rfl rfl ?_
      show Steps p.tables e below (T77.setTop (mkF m 86 #[.val (.int p1), .val (.int (0 : Int32)), .val (.ref b3), .val (.ref b10), .val (.ref (A 0)), .val (.ref (A 0))] [(.ref (A 0))])) _
      refine XS.aload X77.here hx rfl (hb hby at_86) rfl rfl ?_
      show Steps p.tables e below (T77.setTop (mkF m 88 #[.val (.int p1), .val (.int (0 : Int32)), .val (.ref b3), .val (.ref b10), .val (.ref (A 0)), .val (.ref (A 0))] [(.ref (A 0)), (.ref (A 0))])) _
      refine Jvm.RoadKit.acmp (g := (mkF m 88 #[.val (.int p1), .val (.int (0 : Int32)), .val (.ref b3), .val (.ref b10), .val (.ref (A 0)), .val (.ref (A 0))] [(.ref (A 0)), (.ref (A 0))])) X77 hx rfl rfl rfl (pc0 := 88) (pc' := 91) (same := true) rfl (hb hby at_88) rfl (decide_eq_true rfl) (by decide) (by decide) ?_
      show Steps p.tables e below (T77.setTop (mkF m 91 #[.val (.int p1), .val (.int (0 : Int32)), .val (.ref b3), .val (.ref b10), .val (.ref (A 0)), .val (.ref (A 0))] [])) _
      refine XS.aload X77.here hx rfl (hb hby at_91) rfl rfl ?_
      show Steps p.tables e below (T77.setTop (mkF m 93 #[.val (.int p1), .val (.int (0 : Int32)), .val (.ref b3), .val (.ref b10), .val (.ref (A 0)), .val (.ref (A 0))] [(.ref (A 0))])) _
      refine st79.trans ?_
      show Steps p.tables e below (T79.setTop (mkF m 96 #[.val (.int p1), .val (.int (0 : Int32)), .val (.ref b3), .val (.ref b10), .val (.ref (A 0)), .val (.ref (A 0))] [(.ref (A 5))])) _
      refine XS.aloadN X79.here hx rfl (hb hby at_96) rfl rfl ?_
      show Steps p.tables e below (T79.setTop (mkF m 97 #[.val (.int p1), .val (.int (0 : Int32)), .val (.ref b3), .val (.ref b10), .val (.ref (A 0)), .val (.ref (A 0))] [(.ref b10), (.ref (A 5))])) _
      refine st84.trans ?_
      show Steps p.tables e below (T84.setTop (mkF m 100 #[.val (.int p1), .val (.int (0 : Int32)), .val (.ref b3), .val (.ref b10), .val (.ref (A 0)), .val (.ref (A 0))] [(.int (1 : Int32))])) _
      refine XS.ifNo X84.here hx rfl (hb hby at_100) rfl ((if0 _ _).trans (feq (by decide : ¬ ((1 : Int32) = (0 : Int32)))).1) ?_
      show Steps p.tables e below (T84.setTop (mkF m 103 #[.val (.int p1), .val (.int (0 : Int32)), .val (.ref b3), .val (.ref b10), .val (.ref (A 0)), .val (.ref (A 0))] [])) _
      refine XS.iconst X84.here hx rfl (hb hby at_103) ?_
      show Steps p.tables e below (T84.setTop (mkF m 104 #[.val (.int p1), .val (.int (0 : Int32)), .val (.ref b3), .val (.ref b10), .val (.ref (A 0)), .val (.ref (A 0))] [(.int (1 : Int32))])) _
      refine XS.goto X84.here hx rfl (pc0 := 104) (pc' := 108) rfl (hb hby at_104) (by decide) (by decide) ?_
      show Steps p.tables e below (T84.setTop (mkF m 108 #[.val (.int p1), .val (.int (0 : Int32)), .val (.ref b3), .val (.ref b10), .val (.ref (A 0)), .val (.ref (A 0))] [(.int (1 : Int32))])) _
      exact retN X84 hx (t := .boolean) Bd.returns (by simp) (hb hby at_108) hr
    · show LQ n0 _ T84.heap _
      exact ⟨rfl, N84, trivial⟩
  | 1, _, hk2 =>
    obtain ⟨T85, h85, k85, X85, e85, E85, A85, st85⟩ := newP X0 hx hZ (hw _ (List.mem_of_getElem? (i := 0) rfl)) e0 (g := (mkF m 5 #[.val (.int p1), .val (.int (1 : Int32)), .unset, .unset, .unset, .unset] [(.int (3 : Int32))])) rfl (hb hby at_5) rfl (by decide) (cap := 3) (by decide) (by decide) (by decide) (by decide)
    obtain ⟨b85, g85⟩ : ∃ z, z = h0.size := ⟨_, rfl⟩
    rw [← g85] at A85 st85
    have gn_b85 : n0 ≤ b85 := Nat.le_trans (OL0.1 ▸ OL0.2.1) (Nat.le_of_eq g85.symm)
    have sz_b85 : h0.size ≤ b85 := Nat.le_trans KK0.1 (Nat.le_of_eq g85.symm)
    have OL85 : Old Z n0 h85 := OL0.ext E85
    have KK85 : Keep h0 h85 [] := KK0.ext E85
    have V85 : Arv Z h85 b85 k85 .char (3 : Int32) [] (.int (0 : Int32)) := Arv.new A85 (by decide)
    obtain ⟨cl86, Ar86, q86, Sz86, Nn86, Hh86, Gg86⟩ := (id (Arv.pad V85 (pad_rep [] (.int (0 : Int32)) 1)))
    have hin86 : ¬ ((0 : Int32) < 0 ∨ cl86.slots.size ≤ ((0 : Int32)).toNatClampNeg) := inb_of Sz86 ⟨by decide, by decide⟩
    obtain ⟨T87, h87, X87, e87, W87, st87⟩ := stC X85 hx hZ e85 Ar86 (j := (0 : Int32)) hin86 (g := (mkF m 12 #[.val (.int p1), .val (.int (1 : Int32)), .val (.ref b85), .unset, .unset, .unset] [(.int (51 : Int32)), (.int (0 : Int32)), (.ref b85)])) rfl rfl (hb hby at_12)
    have NF87 := Fr.snoc X87 N0 gn_b85
    have OL87 : Old Z n0 h87 := OL85.wr W87 gn_b85
    have KK87 : Keep h0 h87 [] := KK85.wr W87 (Or.inr sz_b85)
    have V87 : Arv Z h87 b85 k85 .char (3 : Int32) [(.int (51 : Int32))] (.int (0 : Int32)) := Arv.set Ar86 q86 Sz86 Nn86 Hh86 Gg86 (fits_nar_char _) W87 0 (by decide) (by decide)
    obtain ⟨cl88, Ar88, q88, Sz88, Nn88, Hh88, Gg88⟩ := (id (Arv.pad V87 (pad_rep [(.int (51 : Int32))] (.int (0 : Int32)) 1)))
    have hin88 : ¬ ((1 : Int32) < 0 ∨ cl88.slots.size ≤ ((1 : Int32)).toNatClampNeg) := inb_of Sz88 ⟨by decide, by decide⟩
    obtain ⟨T89, h89, X89, e89, W89, st89⟩ := stC X87 hx hZ e87 Ar88 (j := (1 : Int32)) hin88 (g := (mkF m 17 #[.val (.int p1), .val (.int (1 : Int32)), .val (.ref b85), .unset, .unset, .unset] [(.int (46 : Int32)), (.int (1 : Int32)), (.ref b85)])) rfl rfl (hb hby at_17)
    have NF89 := Fr.snoc X89 NF87 gn_b85
    have OL89 : Old Z n0 h89 := OL87.wr W89 gn_b85
    have KK89 : Keep h0 h89 [] := KK87.wr W89 (Or.inr sz_b85)
    have V89 : Arv Z h89 b85 k85 .char (3 : Int32) [(.int (51 : Int32)), (.int (46 : Int32))] (.int (0 : Int32)) := Arv.set Ar88 q88 Sz88 Nn88 Hh88 Gg88 (fits_nar_char _) W89 1 (by decide) (by decide)
    obtain ⟨cl90, Ar90, q90, Sz90, Nn90, Hh90, Gg90⟩ := (id (Arv.pad V89 (pad_rep [(.int (51 : Int32)), (.int (46 : Int32))] (.int (0 : Int32)) 1)))
    have hin90 : ¬ ((2 : Int32) < 0 ∨ cl90.slots.size ≤ ((2 : Int32)).toNatClampNeg) := inb_of Sz90 ⟨by decide, by decide⟩
    obtain ⟨T91, h91, X91, e91, W91, st91⟩ := stC X89 hx hZ e89 Ar90 (j := (2 : Int32)) hin90 (g := (mkF m 25 #[.val (.int p1), .val (.int (1 : Int32)), .val (.ref b85), .unset, .unset, .unset] [(.int (49 : Int32)), (.int (2 : Int32)), (.ref b85)])) rfl rfl (hb hby at_25)
    have NF91 := Fr.snoc X91 NF89 gn_b85
    have OL91 : Old Z n0 h91 := OL89.wr W91 gn_b85
    have KK91 : Keep h0 h91 [] := KK89.wr W91 (Or.inr sz_b85)
    have V91 : Arv Z h91 b85 k85 .char (3 : Int32) [(.int (51 : Int32)), (.int (46 : Int32)), (.int (49 : Int32))] (.int (0 : Int32)) := Arv.set Ar90 q90 Sz90 Nn90 Hh90 Gg90 (fits_nar_char _) W91 2 (by decide) (by decide)
    obtain ⟨T92, h92, X92, e92, E92, A92, D92, -, st92⟩ := newO X91 hx hZ hown (hw _ (List.mem_of_getElem? (i := 1) rfl)) (hw _ (List.mem_of_getElem? (i := 2) rfl)) (hw _ (List.mem_of_getElem? (i := 3) rfl)) e91 (g := (mkF m 26 #[.val (.int p1), .val (.int (1 : Int32)), .val (.ref b85), .unset, .unset, .unset] [])) rfl (hb hby at_26) (by decide) (by decide)
    obtain ⟨b92, g92⟩ : ∃ z, z = h91.size := ⟨_, rfl⟩
    rw [← g92] at A92 D92 st92
    have gn_b92 : n0 ≤ b92 := Nat.le_trans (OL91.1 ▸ OL91.2.1) (Nat.le_of_eq g92.symm)
    have sz_b92 : h0.size ≤ b92 := Nat.le_trans KK91.1 (Nat.le_of_eq g92.symm)
    have lt_b85_b92 : b85 < b92 := Nat.lt_of_lt_of_le V91.lt (Nat.le_of_eq g92.symm)
    have OL92 : Old Z n0 h92 := OL91.ext E92
    have KK92 : Keep h0 h92 [] := KK91.ext E92
    have F92_coder : Fld Z h92 b92 "java/lang/String" "coder" "B" (.int (0 : Int32)) := D92 (Or.inr (hw _ (List.mem_of_getElem? (i := 27) rfl))) (ty := .byte) (by decide)
    have F92_value : Fld Z h92 b92 "java/lang/String" "value" "[B" .null := D92 (Or.inr (hw _ (List.mem_of_getElem? (i := 29) rfl))) (ty := (.array .byte)) (by decide)
    have fx123 : Arv Z h92 b85 k85 .char (3 : Int32) [(.int (51 : Int32)), (.int (46 : Int32)), (.int (49 : Int32))] (.int (0 : Int32)) := (V91.ext E92)
    obtain ⟨_, _, ⟨T124, L124, k124, n124⟩, -, X124, ⟨Lc124, hQ124, l124, y124, z124⟩, st124⟩ := X92.specialBack hx (y := own_m7) rfl hown (mvT hZ (hw _ (List.mem_of_getElem? (i := 4) rfl))) (mvT hZ (hw _ (List.mem_of_getElem? (i := 5) rfl))) (mvT hZ (hw _ (List.mem_of_getElem? (i := 6) rfl))) (by decide) (backOf (W := 1) (rm11 l Z a0 hw [] h92 n0 p1 A K cs b85 b92 k85 EN OL92 fx123 A92 F92_coder F92_value gn_b92) hZ (hw _ (List.mem_of_getElem? (i := 6) rfl)) (hw _ (List.mem_of_getElem? (i := 3) rfl)) (by decide) (by decide)) (g := (mkF m 31 #[.val (.int p1), .val (.int (1 : Int32)), .val (.ref b85), .unset, .unset, .unset] [(.ref b85), (.ref b92), (.ref b92)])) rfl (by rw [hml]; rfl) (Steps.refl _) (a := b92) (argsL := [(.ref b85)]) (rest := [(.ref b92)]) (lenOf own_pd4 rfl) rfl (by show 2 * 0 + _ ≤ _; exact Nat.le_of_eq rfl) (hb hby at_31) (fun _ _ => ⟨rfl, e92, (by decide : 2 + 1 ≤ _), (by decide : 7 + 3 ≤ _)⟩)
    dsimp only [Pt.U, Pt.locs, Pt.cells, Pt.slots] at X124 l124 y124 z124 st124 hQ124
    subst l124 y124 z124
    obtain ⟨b124_b122_b110_b96, k124_k122_k110_k96, rfl, N124q, K124c, ⟨gn_b124_b122_b110_b96, szc_b124_b122_b110_b96⟩, f124_0, f124_1, f124_2, f124_3⟩ := hQ124
    have N124 := Fr.app NF91 N124q
    have lt_b85_b124_b122_b110_b96 : b85 < b124_b122_b110_b96 := Nat.lt_of_lt_of_le fx123.lt szc_b124_b122_b110_b96
    have lt_b92_b124_b122_b110_b96 : b92 < b124_b122_b110_b96 := Nat.lt_of_lt_of_le A92.lt szc_b124_b122_b110_b96
    have sz_b124_b122_b110_b96 : h0.size ≤ b124_b122_b110_b96 := Nat.le_trans KK92.1 szc_b124_b122_b110_b96
    have OL124 : Old Z n0 T124.heap := OL92.keep K124c (allS gn_b92 all0)
    have KK124 : Keep h0 T124.heap [] := KK92.trans K124c (allS (Or.inr sz_b92) all0)
    obtain ⟨T125, X125, e125, st125⟩ := getS2 X124 hx hZ hown (host := "") (Or.inl (hw _ (List.mem_of_getElem? (i := 74) rfl))) Via.refl rfl (EN.1.2.2.1.ext OL124.2) (g := (mkF m 52 #[.val (.int p1), .val (.int (1 : Int32)), .val (.ref b85), .val (.ref b92), .unset, .unset] [])) rfl (hb hby at_52)
    have fx180 : Arv Z T124.heap b85 k85 .char (3 : Int32) [(.int (51 : Int32)), (.int (46 : Int32)), (.int (49 : Int32))] (.int (0 : Int32)) := (fx123.keep K124c (ninS (Nat.ne_of_lt lt_b85_b92) nin0))
    obtain ⟨_, _, ⟨T181, L181, k181, n181⟩, -, X181, ⟨Lc181, hQ181, l181, y181, z181⟩, st181⟩ := Jvm.LawKit.callS X125 hx (y := own_m9) hown (mvT hZ (hw _ (List.mem_of_getElem? (i := 33) rfl))) (mvT hZ (hw _ (List.mem_of_getElem? (i := 34) rfl))) (mvT hZ (hw _ (List.mem_of_getElem? (i := 31) rfl))) (mvT hZ (hw _ (List.mem_of_getElem? (i := 35) rfl))) (by decide) (backOf (W := 0) (rm16 l Z a0 hw [] T124.heap n0 p1 A K cs b85 b92 b124_b122_b110_b96 k124_k122_k110_k96 k85 EN OL124 fx180 f124_0 f124_3 f124_2 f124_1 gn_b92) hZ (hw _ (List.mem_of_getElem? (i := 35) rfl)) (hw _ (List.mem_of_getElem? (i := 31) rfl)) (by decide) (by decide)) (g := (mkF m 79 #[.val (.int p1), .val (.int (1 : Int32)), .val (.ref b85), .val (.ref b92), .val (.ref (A 1)), .unset] [(.ref b92)])) rfl (by rw [hml]; rfl) (argsL := [(.ref b92)]) (rest := []) (lenOf own_pd8 rfl) rfl (by show 2 * 0 + _ ≤ _; exact Nat.le_of_eq rfl) (hb hby at_79) (fun _ _ => ⟨rfl, e125, (by decide : 3 + 1 ≤ _), (by decide : 10 + 4 ≤ _)⟩)
    dsimp only [Pt.U, Pt.locs, Pt.cells, Pt.slots] at X181 l181 y181 z181 st181 hQ181
    subst l181 y181 z181
    obtain ⟨b181_b129_b127, rfl, N181q, K181c, ⟨gn_b181_b129_b127, szc_b181_b129_b127⟩, f181_0, f181_1⟩ := hQ181
    have N181 := Fr.app N124 N181q
    have lt_b85_b181_b129_b127 : b85 < b181_b129_b127 := Nat.lt_of_lt_of_le fx180.lt szc_b181_b129_b127
    have lt_b92_b181_b129_b127 : b92 < b181_b129_b127 := Nat.lt_of_lt_of_le f124_0.lt szc_b181_b129_b127
    have lt_b124_b122_b110_b96_b181_b129_b127 : b124_b122_b110_b96 < b181_b129_b127 := Nat.lt_of_lt_of_le f124_3.lt szc_b181_b129_b127
    have sz_b181_b129_b127 : h0.size ≤ b181_b129_b127 := Nat.le_trans KK124.1 szc_b181_b129_b127
    have OL181 : Old Z n0 T181.heap := OL124.keep K181c all0
    have KK181 : Keep h0 T181.heap [] := KK124.trans K181c all0
    obtain ⟨cq183, kq183, q183a, q183b, q183c⟩ := isOf hZ rfl (EN.1.2.2.2.1.ext OL181.2)
    obtain ⟨_, _, ⟨T183, L183, k183, n183⟩, -, X183, ⟨Lc183, hQ183, l183, y183, z183⟩, st183⟩ := X181.virtualBack hx (y := own_m2) (z := own_m2) hown (mvT hZ (hw _ (List.mem_of_getElem? (i := 66) rfl))) (mvT hZ (hw _ (List.mem_of_getElem? (i := 67) rfl))) (notFace_of_selects (args := #[]) (mvT hZ (hw _ (List.mem_of_getElem? (i := 69) rfl)))) (mvT hZ (hw _ (List.mem_of_getElem? (i := 69) rfl))) (mvT hZ (hw _ (List.mem_of_getElem? (i := 68) rfl))) (by decide) (backOf (W := 0) (rm22 l Z a0 hw [] T181.heap n0 p1 A K cs EN OL181) hZ (hw _ (List.mem_of_getElem? (i := 70) rfl)) (hw _ (List.mem_of_getElem? (i := 31) rfl)) (by decide) (by decide)) q183a q183c (g := (mkF m 93 #[.val (.int p1), .val (.int (1 : Int32)), .val (.ref b85), .val (.ref b92), .val (.ref (A 1)), .val (.ref (A 1))] [(.ref (A 1))])) rfl (by rw [hml]; rfl) (Steps.refl _) (argsL := []) (rest := []) (lenOf own_pd9 rfl) rfl (by show 2 * 0 + _ ≤ _; exact Nat.le_of_eq rfl) (hb hby at_93) (fun _ _ => ⟨rfl, rfl, (by decide : 4 + 0 ≤ _), (by decide : 14 + 0 ≤ _)⟩)
    dsimp only [Pt.U, Pt.locs, Pt.cells, Pt.slots] at X183 l183 y183 z183 st183 hQ183
    subst l183 y183 z183
    obtain ⟨rfl, N183q, e183⟩ := hQ183
    have N183 := Fr.app N181 N183q
    have fx184 : Fld Z T181.heap b92 "java/lang/String" "value" "[B" (.ref b124_b122_b110_b96) := (f124_2.keep K181c nin0)
    have fx185 : Arv Z T181.heap b124_b122_b110_b96 k124_k122_k110_k96 .byte (3 : Int32) [(.int (51 : Int32)), (.int (46 : Int32)), (.int (49 : Int32))] (.int (0 : Int32)) := (f124_3.keep K181c nin0)
    have fx186 : Exa Z T181.heap b92 "java/lang/String" := (f124_0.keep K181c)
    have fx187 : Fld Z T181.heap b92 "java/lang/String" "coder" "B" (.int (0 : Int32)) := (f124_1.keep K181c nin0)
    obtain ⟨cq188, kq188, q188a, q188b, q188c⟩ := isOf hZ e183 (EN.2.1.2.2.2.2.2.2.1.ext OL181.2)
    obtain ⟨_, _, ⟨T188, L188, k188, n188⟩, -, X188, ⟨Lc188, hQ188, l188, y188, z188⟩, st188⟩ := X183.virtualBack hx (y := own_m0) (z := own_m0) hown (mvT hZ (hw _ (List.mem_of_getElem? (i := 71) rfl))) (mvT hZ (hw _ (List.mem_of_getElem? (i := 57) rfl))) (notFace_of_selects (args := #[]) (mvT hZ (hw _ (List.mem_of_getElem? (i := 59) rfl)))) (mvT hZ (hw _ (List.mem_of_getElem? (i := 59) rfl))) (mvT hZ (hw _ (List.mem_of_getElem? (i := 58) rfl))) (by decide) (backOf (W := 0) (rm20 l Z a0 hw [] T181.heap n0 p1 A K cs b92 b124_b122_b110_b96 k124_k122_k110_k96 EN OL181 fx184 fx185 fx186 fx187 gn_b92) hZ (hw _ (List.mem_of_getElem? (i := 60) rfl)) (hw _ (List.mem_of_getElem? (i := 3) rfl)) (by decide) (by decide)) q188a q188c (g := (mkF m 97 #[.val (.int p1), .val (.int (1 : Int32)), .val (.ref b85), .val (.ref b92), .val (.ref (A 1)), .val (.ref (A 1))] [(.ref b92), (.ref (A 6))])) rfl (by rw [hml]; rfl) (Steps.refl _) (argsL := [(.ref b92)]) (rest := []) (lenOf own_pd7 rfl) rfl (by show 2 * 0 + _ ≤ _; exact Nat.le_of_eq rfl) (hb hby at_97) (fun _ _ => ⟨rfl, e183, (by decide : 4 + 0 ≤ _), (by decide : 14 + 0 ≤ _)⟩)
    dsimp only [Pt.U, Pt.locs, Pt.cells, Pt.slots] at X188 l188 y188 z188 st188 hQ188
    subst l188 y188 z188
    obtain ⟨rfl, N188q, e188⟩ := hQ188
    have N188 := Fr.app N183 N188q
    obtain ⟨fs, hr, hrun, hended, hW, hsame⟩ := X188.leave (v := some (.int (1 : Int32))) (fun h => by rw [Bd.returns] at h; cases h)
    refine ⟨_, _, pre1 _ ?_, hrun, hended, _, _, rfl, ?_, ⟨_, rfl⟩, hW, hsame.mono (by decide) (by decide)⟩
    · show Steps p.tables e below (s₁.setTop (mkF m 3 #[.val (.int p1), .unset, .unset, .unset, .unset, .unset] [(.int (p1 &&& (3 : Int32)))])) _
      rw [hk2]
      show Steps p.tables e below (s₁.setTop (mkF m 3 #[.val (.int p1), .unset, .unset, .unset, .unset, .unset] [(.int (1 : Int32))])) _
      refine XS.istoreN X0.here hx rfl (hb hby at_3) rfl (l' := #[.val (.int p1), .val (.int (1 : Int32)), .unset, .unset, .unset, .unset]) rfl ?_
      show Steps p.tables e below (s₁.setTop (mkF m 4 #[.val (.int p1), .val (.int (1 : Int32)), .unset, .unset, .unset, .unset] [])) _
      refine XS.iconst X0.here hx rfl (hb hby at_4) ?_
      show Steps p.tables e below (s₁.setTop (mkF m 5 #[.val (.int p1), .val (.int (1 : Int32)), .unset, .unset, .unset, .unset] [(.int (3 : Int32))])) _
      refine st85 _ ?_
      show Steps p.tables e below (T85.setTop (mkF m 7 #[.val (.int p1), .val (.int (1 : Int32)), .unset, .unset, .unset, .unset] [(.ref b85)])) _
      refine XS.astoreN X85.here hx rfl (hb hby at_7) rfl rfl (l' := #[.val (.int p1), .val (.int (1 : Int32)), .val (.ref b85), .unset, .unset, .unset]) rfl ?_
      show Steps p.tables e below (T85.setTop (mkF m 8 #[.val (.int p1), .val (.int (1 : Int32)), .val (.ref b85), .unset, .unset, .unset] [])) _
      refine XS.aloadN X85.here hx rfl (hb hby at_8) rfl rfl ?_
      show Steps p.tables e below (T85.setTop (mkF m 9 #[.val (.int p1), .val (.int (1 : Int32)), .val (.ref b85), .unset, .unset, .unset] [(.ref b85)])) _
      refine XS.iconst X85.here hx rfl (hb hby at_9) ?_
      show Steps p.tables e below (T85.setTop (mkF m 10 #[.val (.int p1), .val (.int (1 : Int32)), .val (.ref b85), .unset, .unset, .unset] [(.int (0 : Int32)), (.ref b85)])) _
      refine XS.bipush X85.here hx rfl (hb hby at_10) ?_
      show Steps p.tables e below (T85.setTop (mkF m 12 #[.val (.int p1), .val (.int (1 : Int32)), .val (.ref b85), .unset, .unset, .unset] [(.int (51 : Int32)), (.int (0 : Int32)), (.ref b85)])) _
      refine st87 _ ?_
      show Steps p.tables e below (T87.setTop (mkF m 13 #[.val (.int p1), .val (.int (1 : Int32)), .val (.ref b85), .unset, .unset, .unset] [])) _
      refine XS.aloadN X87.here hx rfl (hb hby at_13) rfl rfl ?_
      show Steps p.tables e below (T87.setTop (mkF m 14 #[.val (.int p1), .val (.int (1 : Int32)), .val (.ref b85), .unset, .unset, .unset] [(.ref b85)])) _
      refine XS.iconst X87.here hx rfl (hb hby at_14) ?_
      show Steps p.tables e below (T87.setTop (mkF m 15 #[.val (.int p1), .val (.int (1 : Int32)), .val (.ref b85), .unset, .unset, .unset] [(.int (1 : Int32)), (.ref b85)])) _
      refine XS.bipush X87.here hx rfl (hb hby at_15) ?_
      show Steps p.tables e below (T87.setTop (mkF m 17 #[.val (.int p1), .val (.int (1 : Int32)), .val (.ref b85), .unset, .unset, .unset] [(.int (46 : Int32)), (.int (1 : Int32)), (.ref b85)])) _
      refine st89 _ ?_
      show Steps p.tables e below (T89.setTop (mkF m 18 #[.val (.int p1), .val (.int (1 : Int32)), .val (.ref b85), .unset, .unset, .unset] [])) _
      refine XS.aloadN X89.here hx rfl (hb hby at_18) rfl rfl ?_
      show Steps p.tables e below (T89.setTop (mkF m 19 #[.val (.int p1), .val (.int (1 : Int32)), .val (.ref b85), .unset, .unset, .unset] [(.ref b85)])) _
      refine XS.iconst X89.here hx rfl (hb hby at_19) ?_
      show Steps p.tables e below (T89.setTop (mkF m 20 #[.val (.int p1), .val (.int (1 : Int32)), .val (.ref b85), .unset, .unset, .unset] [(.int (2 : Int32)), (.ref b85)])) _
      refine XS.bipush X89.here hx rfl (hb hby at_20) ?_
      show Steps p.tables e below (T89.setTop (mkF m 22 #[.val (.int p1), .val (.int (1 : Int32)), .val (.ref b85), .unset, .unset, .unset] [(.int (48 : Int32)), (.int (2 : Int32)), (.ref b85)])) _
      refine XS.iloadN X89.here hx rfl (hb hby at_22) rfl ?_
      show Steps p.tables e below (T89.setTop (mkF m 23 #[.val (.int p1), .val (.int (1 : Int32)), .val (.ref b85), .unset, .unset, .unset] [(.int (1 : Int32)), (.int (48 : Int32)), (.int (2 : Int32)), (.ref b85)])) _
      refine XS.iadd X89.here hx rfl (hb hby at_23) rfl ?_
      show Steps p.tables e below (T89.setTop (mkF m 24 #[.val (.int p1), .val (.int (1 : Int32)), .val (.ref b85), .unset, .unset, .unset] [(.int (49 : Int32)), (.int (2 : Int32)), (.ref b85)])) _
      refine XS.i2c X89.here hx rfl (hb hby at_24) rfl ?_
      show Steps p.tables e below (T89.setTop (mkF m 25 #[.val (.int p1), .val (.int (1 : Int32)), .val (.ref b85), .unset, .unset, .unset] [(.int (49 : Int32)), (.int (2 : Int32)), (.ref b85)])) _
      refine st91 _ ?_
      show Steps p.tables e below (T91.setTop (mkF m 26 #[.val (.int p1), .val (.int (1 : Int32)), .val (.ref b85), .unset, .unset, .unset] [])) _
      refine st92 _ ?_
      show Steps p.tables e below (T92.setTop (mkF m 29 #[.val (.int p1), .val (.int (1 : Int32)), .val (.ref b85), .unset, .unset, .unset] [(.ref b92)])) _
      refine XS.dup X92.here hx rfl (hb hby at_29) rfl rfl ?_
      show Steps p.tables e below (T92.setTop (mkF m 30 #[.val (.int p1), .val (.int (1 : Int32)), .val (.ref b85), .unset, .unset, .unset] [(.ref b92), (.ref b92)])) _
      refine XS.aloadN X92.here hx rfl (hb hby at_30) rfl rfl ?_
      show Steps p.tables e below (T92.setTop (mkF m 31 #[.val (.int p1), .val (.int (1 : Int32)), .val (.ref b85), .unset, .unset, .unset] [(.ref b85), (.ref b92), (.ref b92)])) _
      refine st124.trans ?_
      show Steps p.tables e below (T124.setTop (mkF m 34 #[.val (.int p1), .val (.int (1 : Int32)), .val (.ref b85), .unset, .unset, .unset] [(.ref b92)])) _
      refine XS.astoreN X124.here hx rfl (hb hby at_34) rfl rfl (l' := #[.val (.int p1), .val (.int (1 : Int32)), .val (.ref b85), .val (.ref b92), .unset, .unset]) rfl ?_
      show Steps p.tables e below (T124.setTop (mkF m 35 #[.val (.int p1), .val (.int (1 : Int32)), .val (.ref b85), .val (.ref b92), .unset, .unset] [])) _
      refine XS.iloadN X124.here hx rfl (hb hby at_35) rfl ?_
      show Steps p.tables e below (T124.setTop (mkF m 36 #[.val (.int p1), .val (.int (1 : Int32)), .val (.ref b85), .val (.ref b92), .unset, .unset] [(.int (1 : Int32))])) _
      refine XS.ifYes X124.here hx rfl (pc0 := 36) (pc' := 47) rfl (hb hby at_36) rfl ((if0 _ _).trans (feq (by decide : ¬ ((1 : Int32) = (0 : Int32)))).2) (by decide) (by decide) ?_
      show Steps p.tables e below (T124.setTop (mkF m 47 #[.val (.int p1), .val (.int (1 : Int32)), .val (.ref b85), .val (.ref b92), .unset, .unset] [])) _
      refine XS.iloadN X124.here hx rfl (hb hby at_47) rfl ?_
      show Steps p.tables e below (T124.setTop (mkF m 48 #[.val (.int p1), .val (.int (1 : Int32)), .val (.ref b85), .val (.ref b92), .unset, .unset] [(.int (1 : Int32))])) _
      refine XS.iconst X124.here hx rfl (hb hby at_48) ?_
      show Steps p.tables e below (T124.setTop (mkF m 49 #[.val (.int p1), .val (.int (1 : Int32)), .val (.ref b85), .val (.ref b92), .unset, .unset] [(.int (1 : Int32)), (.int (1 : Int32))])) _
      refine XS.icmpNo X124.here hx rfl (hb hby at_49) rfl (teq (by decide : (1 : Int32) = (1 : Int32))).2 ?_
      show Steps p.tables e below (T124.setTop (mkF m 52 #[.val (.int p1), .val (.int (1 : Int32)), .val (.ref b85), .val (.ref b92), .unset, .unset] [])) _
      refine st125 _ ?_
      show Steps p.tables e below (T125.setTop (mkF m 55 #[.val (.int p1), .val (.int (1 : Int32)), .val (.ref b85), .val (.ref b92), .unset, .unset] [(.ref (A 1))])) _
      refine XS.astore X125.here hx rfl (hb hby at_55) rfl rfl (l' := #[.val (.int p1), .val (.int (1 : Int32)), .val (.ref b85), .val (.ref b92), .val (.ref (A 1)), .unset]) rfl ?_
      show Steps p.tables e below (T125.setTop (mkF m 57 #[.val (.int p1), .val (.int (1 : Int32)), .val (.ref b85), .val (.ref b92), .val (.ref (A 1)), .unset] [])) _
      refine XS.goto X125.here hx rfl (pc0 := 57) (pc' := 78) rfl (hb hby at_57) (by decide) (by decide) ?_
      show Steps p.tables e below (T125.setTop (mkF m 78 #[.val (.int p1), .val (.int (1 : Int32)), .val (.ref b85), .val (.ref b92), .val (.ref (A 1)), .unset] [])) _
      refine XS.aloadN X125.here hx rfl (hb hby at_78) rfl rfl ?_
      show Steps p.tables e below (T125.setTop (mkF m 79 #[.val (.int p1), .val (.int (1 : Int32)), .val (.ref b85), .val (.ref b92), .val (.ref (A 1)), .unset] [(.ref b92)])) _
      refine st181 _ ?_
      show Steps p.tables e below (T181.setTop (mkF m 82 #[.val (.int p1), .val (.int (1 : Int32)), .val (.ref b85), .val (.ref b92), .val (.ref (A 1)), .unset] [(.ref (A 1))])) _
      refine XS.astore X181.here hx rfl (hb hby at_82) rfl rfl (l' := #[.val (.int p1), .val (.int (1 : Int32)), .val (.ref b85), .val (.ref b92), .val (.ref (A 1)), .val (.ref (A 1))]) rfl ?_
      show Steps p.tables e below (T181.setTop (mkF m 84 #[.val (.int p1), .val (.int (1 : Int32)), .val (.ref b85), .val (.ref b92), .val (.ref (A 1)), .val (.ref (A 1))] [])) _
      refine XS.aload X181.here hx rfl (hb hby at_84) rfl rfl ?_
      show Steps p.tables e below (T181.setTop (mkF m 86 #[.val (.int p1), .val (.int (1 : Int32)), .val (.ref b85), .val (.ref b92), .val (.ref (A 1)), .val (.ref (A 1))] [(.ref (A 1))])) _
      refine XS.aload X181.here hx rfl (hb hby at_86) rfl rfl ?_
      show Steps p.tables e below (T181.setTop (mkF m 88 #[.val (.int p1), .val (.int (1 : Int32)), .val (.ref b85), .val (.ref b92), .val (.ref (A 1)), .val (.ref (A 1))] [(.ref (A 1)), (.ref (A 1))])) _
      refine Jvm.RoadKit.acmp (g := (mkF m 88 #[.val (.int p1), .val (.int (1 : Int32)), .val (.ref b85), .val (.ref b92), .val (.ref (A 1)), .val (.ref (A 1))] [(.ref (A 1)), (.ref (A 1))])) X181 hx rfl rfl rfl (pc0 := 88) (pc' := 91) (same := true) rfl (hb hby at_88) rfl (decide_eq_true rfl) (by decide) (by decide) ?_
      show Steps p.tables e below (T181.setTop (mkF m 91 #[.val (.int p1), .val (.int (1 : Int32)), .val (.ref b85), .val (.ref b92), .val (.ref (A 1)), .val (.ref (A 1))] [])) _
      refine XS.aload X181.here hx rfl (hb hby at_91) rfl rfl ?_
      show Steps p.tables e below (T181.setTop (mkF m 93 #[.val (.int p1), .val (.int (1 : Int32)), .val (.ref b85), .val (.ref b92), .val (.ref (A 1)), .val (.ref (A 1))] [(.ref (A 1))])) _
      refine st183.trans ?_
      show Steps p.tables e below (T183.setTop (mkF m 96 #[.val (.int p1), .val (.int (1 : Int32)), .val (.ref b85), .val (.ref b92), .val (.ref (A 1)), .val (.ref (A 1))] [(.ref (A 6))])) _
      refine XS.aloadN X183.here hx rfl (hb hby at_96) rfl rfl ?_
      show Steps p.tables e below (T183.setTop (mkF m 97 #[.val (.int p1), .val (.int (1 : Int32)), .val (.ref b85), .val (.ref b92), .val (.ref (A 1)), .val (.ref (A 1))] [(.ref b92), (.ref (A 6))])) _
      refine st188.trans ?_
      show Steps p.tables e below (T188.setTop (mkF m 100 #[.val (.int p1), .val (.int (1 : Int32)), .val (.ref b85), .val (.ref b92), .val (.ref (A 1)), .val (.ref (A 1))] [(.int (1 : Int32))])) _
      refine XS.ifNo X188.here hx rfl (hb hby at_100) rfl ((if0 _ _).trans (feq (by decide : ¬ ((1 : Int32) = (0 : Int32)))).1) ?_
      show Steps p.tables e below (T188.setTop (mkF m 103 #[.val (.int p1), .val (.int (1 : Int32)), .val (.ref b85), .val (.ref b92), .val (.ref (A 1)), .val (.ref (A 1))] [])) _
      refine XS.iconst X188.here hx rfl (hb hby at_103) ?_
      show Steps p.tables e below (T188.setTop (mkF m 104 #[.val (.int p1), .val (.int (1 : Int32)), .val (.ref b85), .val (.ref b92), .val (.ref (A 1)), .val (.ref (A 1))] [(.int (1 : Int32))])) _
      refine XS.goto X188.here hx rfl (pc0 := 104) (pc' := 108) rfl (hb hby at_104) (by decide) (by decide) ?_
      show Steps p.tables e below (T188.setTop (mkF m 108 #[.val (.int p1), .val (.int (1 : Int32)), .val (.ref b85), .val (.ref b92), .val (.ref (A 1)), .val (.ref (A 1))] [(.int (1 : Int32))])) _
      exact retN X188 hx (t := .boolean) Bd.returns (by simp) (hb hby at_108) hr
    · show LQ n0 _ T188.heap _
      exact ⟨rfl, N188, trivial⟩
  | 2, _, hk2 =>
    obtain ⟨T189, h189, k189, X189, e189, E189, A189, st189⟩ := newP X0 hx hZ (hw _ (List.mem_of_getElem? (i := 0) rfl)) e0 (g := (mkF m 5 #[.val (.int p1), .val (.int (2 : Int32)), .unset, .unset, .unset, .unset] [(.int (3 : Int32))])) rfl (hb hby at_5) rfl (by decide) (cap := 3) (by decide) (by decide) (by decide) (by decide)
    obtain ⟨b189, g189⟩ : ∃ z, z = h0.size := ⟨_, rfl⟩
    rw [← g189] at A189 st189
    have gn_b189 : n0 ≤ b189 := Nat.le_trans (OL0.1 ▸ OL0.2.1) (Nat.le_of_eq g189.symm)
    have sz_b189 : h0.size ≤ b189 := Nat.le_trans KK0.1 (Nat.le_of_eq g189.symm)
    have OL189 : Old Z n0 h189 := OL0.ext E189
    have KK189 : Keep h0 h189 [] := KK0.ext E189
    have V189 : Arv Z h189 b189 k189 .char (3 : Int32) [] (.int (0 : Int32)) := Arv.new A189 (by decide)
    obtain ⟨cl190, Ar190, q190, Sz190, Nn190, Hh190, Gg190⟩ := (id (Arv.pad V189 (pad_rep [] (.int (0 : Int32)) 1)))
    have hin190 : ¬ ((0 : Int32) < 0 ∨ cl190.slots.size ≤ ((0 : Int32)).toNatClampNeg) := inb_of Sz190 ⟨by decide, by decide⟩
    obtain ⟨T191, h191, X191, e191, W191, st191⟩ := stC X189 hx hZ e189 Ar190 (j := (0 : Int32)) hin190 (g := (mkF m 12 #[.val (.int p1), .val (.int (2 : Int32)), .val (.ref b189), .unset, .unset, .unset] [(.int (51 : Int32)), (.int (0 : Int32)), (.ref b189)])) rfl rfl (hb hby at_12)
    have NF191 := Fr.snoc X191 N0 gn_b189
    have OL191 : Old Z n0 h191 := OL189.wr W191 gn_b189
    have KK191 : Keep h0 h191 [] := KK189.wr W191 (Or.inr sz_b189)
    have V191 : Arv Z h191 b189 k189 .char (3 : Int32) [(.int (51 : Int32))] (.int (0 : Int32)) := Arv.set Ar190 q190 Sz190 Nn190 Hh190 Gg190 (fits_nar_char _) W191 0 (by decide) (by decide)
    obtain ⟨cl192, Ar192, q192, Sz192, Nn192, Hh192, Gg192⟩ := (id (Arv.pad V191 (pad_rep [(.int (51 : Int32))] (.int (0 : Int32)) 1)))
    have hin192 : ¬ ((1 : Int32) < 0 ∨ cl192.slots.size ≤ ((1 : Int32)).toNatClampNeg) := inb_of Sz192 ⟨by decide, by decide⟩
    obtain ⟨T193, h193, X193, e193, W193, st193⟩ := stC X191 hx hZ e191 Ar192 (j := (1 : Int32)) hin192 (g := (mkF m 17 #[.val (.int p1), .val (.int (2 : Int32)), .val (.ref b189), .unset, .unset, .unset] [(.int (46 : Int32)), (.int (1 : Int32)), (.ref b189)])) rfl rfl (hb hby at_17)
    have NF193 := Fr.snoc X193 NF191 gn_b189
    have OL193 : Old Z n0 h193 := OL191.wr W193 gn_b189
    have KK193 : Keep h0 h193 [] := KK191.wr W193 (Or.inr sz_b189)
    have V193 : Arv Z h193 b189 k189 .char (3 : Int32) [(.int (51 : Int32)), (.int (46 : Int32))] (.int (0 : Int32)) := Arv.set Ar192 q192 Sz192 Nn192 Hh192 Gg192 (fits_nar_char _) W193 1 (by decide) (by decide)
    obtain ⟨cl194, Ar194, q194, Sz194, Nn194, Hh194, Gg194⟩ := (id (Arv.pad V193 (pad_rep [(.int (51 : Int32)), (.int (46 : Int32))] (.int (0 : Int32)) 1)))
    have hin194 : ¬ ((2 : Int32) < 0 ∨ cl194.slots.size ≤ ((2 : Int32)).toNatClampNeg) := inb_of Sz194 ⟨by decide, by decide⟩
    obtain ⟨T195, h195, X195, e195, W195, st195⟩ := stC X193 hx hZ e193 Ar194 (j := (2 : Int32)) hin194 (g := (mkF m 25 #[.val (.int p1), .val (.int (2 : Int32)), .val (.ref b189), .unset, .unset, .unset] [(.int (50 : Int32)), (.int (2 : Int32)), (.ref b189)])) rfl rfl (hb hby at_25)
    have NF195 := Fr.snoc X195 NF193 gn_b189
    have OL195 : Old Z n0 h195 := OL193.wr W195 gn_b189
    have KK195 : Keep h0 h195 [] := KK193.wr W195 (Or.inr sz_b189)
    have V195 : Arv Z h195 b189 k189 .char (3 : Int32) [(.int (51 : Int32)), (.int (46 : Int32)), (.int (50 : Int32))] (.int (0 : Int32)) := Arv.set Ar194 q194 Sz194 Nn194 Hh194 Gg194 (fits_nar_char _) W195 2 (by decide) (by decide)
    obtain ⟨T196, h196, X196, e196, E196, A196, D196, -, st196⟩ := newO X195 hx hZ hown (hw _ (List.mem_of_getElem? (i := 1) rfl)) (hw _ (List.mem_of_getElem? (i := 2) rfl)) (hw _ (List.mem_of_getElem? (i := 3) rfl)) e195 (g := (mkF m 26 #[.val (.int p1), .val (.int (2 : Int32)), .val (.ref b189), .unset, .unset, .unset] [])) rfl (hb hby at_26) (by decide) (by decide)
    obtain ⟨b196, g196⟩ : ∃ z, z = h195.size := ⟨_, rfl⟩
    rw [← g196] at A196 D196 st196
    have gn_b196 : n0 ≤ b196 := Nat.le_trans (OL195.1 ▸ OL195.2.1) (Nat.le_of_eq g196.symm)
    have sz_b196 : h0.size ≤ b196 := Nat.le_trans KK195.1 (Nat.le_of_eq g196.symm)
    have lt_b189_b196 : b189 < b196 := Nat.lt_of_lt_of_le V195.lt (Nat.le_of_eq g196.symm)
    have OL196 : Old Z n0 h196 := OL195.ext E196
    have KK196 : Keep h0 h196 [] := KK195.ext E196
    have F196_coder : Fld Z h196 b196 "java/lang/String" "coder" "B" (.int (0 : Int32)) := D196 (Or.inr (hw _ (List.mem_of_getElem? (i := 27) rfl))) (ty := .byte) (by decide)
    have F196_value : Fld Z h196 b196 "java/lang/String" "value" "[B" .null := D196 (Or.inr (hw _ (List.mem_of_getElem? (i := 29) rfl))) (ty := (.array .byte)) (by decide)
    have fx227 : Arv Z h196 b189 k189 .char (3 : Int32) [(.int (51 : Int32)), (.int (46 : Int32)), (.int (50 : Int32))] (.int (0 : Int32)) := (V195.ext E196)
    obtain ⟨_, _, ⟨T228, L228, k228, n228⟩, -, X228, ⟨Lc228, hQ228, l228, y228, z228⟩, st228⟩ := X196.specialBack hx (y := own_m7) rfl hown (mvT hZ (hw _ (List.mem_of_getElem? (i := 4) rfl))) (mvT hZ (hw _ (List.mem_of_getElem? (i := 5) rfl))) (mvT hZ (hw _ (List.mem_of_getElem? (i := 6) rfl))) (by decide) (backOf (W := 1) (rm23 l Z a0 hw [] h196 n0 p1 A K cs b189 b196 k189 EN OL196 fx227 A196 F196_coder F196_value gn_b196) hZ (hw _ (List.mem_of_getElem? (i := 6) rfl)) (hw _ (List.mem_of_getElem? (i := 3) rfl)) (by decide) (by decide)) (g := (mkF m 31 #[.val (.int p1), .val (.int (2 : Int32)), .val (.ref b189), .unset, .unset, .unset] [(.ref b189), (.ref b196), (.ref b196)])) rfl (by rw [hml]; rfl) (Steps.refl _) (a := b196) (argsL := [(.ref b189)]) (rest := [(.ref b196)]) (lenOf own_pd4 rfl) rfl (by show 2 * 0 + _ ≤ _; exact Nat.le_of_eq rfl) (hb hby at_31) (fun _ _ => ⟨rfl, e196, (by decide : 2 + 1 ≤ _), (by decide : 7 + 3 ≤ _)⟩)
    dsimp only [Pt.U, Pt.locs, Pt.cells, Pt.slots] at X228 l228 y228 z228 st228 hQ228
    subst l228 y228 z228
    obtain ⟨b228_b226_b214_b200, k228_k226_k214_k200, rfl, N228q, K228c, ⟨gn_b228_b226_b214_b200, szc_b228_b226_b214_b200⟩, f228_0, f228_1, f228_2, f228_3⟩ := hQ228
    have N228 := Fr.app NF195 N228q
    have lt_b189_b228_b226_b214_b200 : b189 < b228_b226_b214_b200 := Nat.lt_of_lt_of_le fx227.lt szc_b228_b226_b214_b200
    have lt_b196_b228_b226_b214_b200 : b196 < b228_b226_b214_b200 := Nat.lt_of_lt_of_le A196.lt szc_b228_b226_b214_b200
    have sz_b228_b226_b214_b200 : h0.size ≤ b228_b226_b214_b200 := Nat.le_trans KK196.1 szc_b228_b226_b214_b200
    have OL228 : Old Z n0 T228.heap := OL196.keep K228c (allS gn_b196 all0)
    have KK228 : Keep h0 T228.heap [] := KK196.trans K228c (allS (Or.inr sz_b196) all0)
    obtain ⟨T229, X229, e229, st229⟩ := getS2 X228 hx hZ hown (host := "") (Or.inl (hw _ (List.mem_of_getElem? (i := 73) rfl))) Via.refl rfl (EN.1.2.2.2.2.1.ext OL228.2) (g := (mkF m 65 #[.val (.int p1), .val (.int (2 : Int32)), .val (.ref b189), .val (.ref b196), .unset, .unset] [])) rfl (hb hby at_65)
    have fx306 : Arv Z T228.heap b189 k189 .char (3 : Int32) [(.int (51 : Int32)), (.int (46 : Int32)), (.int (50 : Int32))] (.int (0 : Int32)) := (fx227.keep K228c (ninS (Nat.ne_of_lt lt_b189_b196) nin0))
    obtain ⟨_, _, ⟨T307, L307, k307, n307⟩, -, X307, ⟨Lc307, hQ307, l307, y307, z307⟩, st307⟩ := Jvm.LawKit.callS X229 hx (y := own_m9) hown (mvT hZ (hw _ (List.mem_of_getElem? (i := 33) rfl))) (mvT hZ (hw _ (List.mem_of_getElem? (i := 34) rfl))) (mvT hZ (hw _ (List.mem_of_getElem? (i := 31) rfl))) (mvT hZ (hw _ (List.mem_of_getElem? (i := 35) rfl))) (by decide) (backOf (W := 0) (rm28 l Z a0 hw [] T228.heap n0 p1 A K cs b189 b196 b228_b226_b214_b200 k189 k228_k226_k214_k200 EN OL228 fx306 f228_0 f228_3 f228_2 f228_1 gn_b196) hZ (hw _ (List.mem_of_getElem? (i := 35) rfl)) (hw _ (List.mem_of_getElem? (i := 31) rfl)) (by decide) (by decide)) (g := (mkF m 79 #[.val (.int p1), .val (.int (2 : Int32)), .val (.ref b189), .val (.ref b196), .val (.ref (A 2)), .unset] [(.ref b196)])) rfl (by rw [hml]; rfl) (argsL := [(.ref b196)]) (rest := []) (lenOf own_pd8 rfl) rfl (by show 2 * 0 + _ ≤ _; exact Nat.le_of_eq rfl) (hb hby at_79) (fun _ _ => ⟨rfl, e229, (by decide : 3 + 1 ≤ _), (by decide : 10 + 4 ≤ _)⟩)
    dsimp only [Pt.U, Pt.locs, Pt.cells, Pt.slots] at X307 l307 y307 z307 st307 hQ307
    subst l307 y307 z307
    obtain ⟨b307_b233_b231, rfl, N307q, K307c, ⟨gn_b307_b233_b231, szc_b307_b233_b231⟩, f307_0, f307_1⟩ := hQ307
    have N307 := Fr.app N228 N307q
    have lt_b189_b307_b233_b231 : b189 < b307_b233_b231 := Nat.lt_of_lt_of_le fx306.lt szc_b307_b233_b231
    have lt_b196_b307_b233_b231 : b196 < b307_b233_b231 := Nat.lt_of_lt_of_le f228_0.lt szc_b307_b233_b231
    have lt_b228_b226_b214_b200_b307_b233_b231 : b228_b226_b214_b200 < b307_b233_b231 := Nat.lt_of_lt_of_le f228_3.lt szc_b307_b233_b231
    have sz_b307_b233_b231 : h0.size ≤ b307_b233_b231 := Nat.le_trans KK228.1 szc_b307_b233_b231
    have OL307 : Old Z n0 T307.heap := OL228.keep K307c all0
    have KK307 : Keep h0 T307.heap [] := KK228.trans K307c all0
    obtain ⟨cq309, kq309, q309a, q309b, q309c⟩ := isOf hZ rfl (EN.1.2.2.2.2.2.1.ext OL307.2)
    obtain ⟨_, _, ⟨T309, L309, k309, n309⟩, -, X309, ⟨Lc309, hQ309, l309, y309, z309⟩, st309⟩ := X307.virtualBack hx (y := own_m2) (z := own_m2) hown (mvT hZ (hw _ (List.mem_of_getElem? (i := 66) rfl))) (mvT hZ (hw _ (List.mem_of_getElem? (i := 67) rfl))) (notFace_of_selects (args := #[]) (mvT hZ (hw _ (List.mem_of_getElem? (i := 69) rfl)))) (mvT hZ (hw _ (List.mem_of_getElem? (i := 69) rfl))) (mvT hZ (hw _ (List.mem_of_getElem? (i := 68) rfl))) (by decide) (backOf (W := 0) (rm36 l Z a0 hw [] T307.heap n0 p1 A K cs EN OL307) hZ (hw _ (List.mem_of_getElem? (i := 70) rfl)) (hw _ (List.mem_of_getElem? (i := 31) rfl)) (by decide) (by decide)) q309a q309c (g := (mkF m 93 #[.val (.int p1), .val (.int (2 : Int32)), .val (.ref b189), .val (.ref b196), .val (.ref (A 2)), .val (.ref (A 2))] [(.ref (A 2))])) rfl (by rw [hml]; rfl) (Steps.refl _) (argsL := []) (rest := []) (lenOf own_pd9 rfl) rfl (by show 2 * 0 + _ ≤ _; exact Nat.le_of_eq rfl) (hb hby at_93) (fun _ _ => ⟨rfl, rfl, (by decide : 4 + 0 ≤ _), (by decide : 14 + 0 ≤ _)⟩)
    dsimp only [Pt.U, Pt.locs, Pt.cells, Pt.slots] at X309 l309 y309 z309 st309 hQ309
    subst l309 y309 z309
    obtain ⟨rfl, N309q, e309⟩ := hQ309
    have N309 := Fr.app N307 N309q
    have fx310 : Fld Z T307.heap b196 "java/lang/String" "value" "[B" (.ref b228_b226_b214_b200) := (f228_2.keep K307c nin0)
    have fx311 : Arv Z T307.heap b228_b226_b214_b200 k228_k226_k214_k200 .byte (3 : Int32) [(.int (51 : Int32)), (.int (46 : Int32)), (.int (50 : Int32))] (.int (0 : Int32)) := (f228_3.keep K307c nin0)
    have fx312 : Exa Z T307.heap b196 "java/lang/String" := (f228_0.keep K307c)
    have fx313 : Fld Z T307.heap b196 "java/lang/String" "coder" "B" (.int (0 : Int32)) := (f228_1.keep K307c nin0)
    obtain ⟨cq314, kq314, q314a, q314b, q314c⟩ := isOf hZ e309 (EN.2.2.1.1.ext OL307.2)
    obtain ⟨_, _, ⟨T314, L314, k314, n314⟩, -, X314, ⟨Lc314, hQ314, l314, y314, z314⟩, st314⟩ := X309.virtualBack hx (y := own_m0) (z := own_m0) hown (mvT hZ (hw _ (List.mem_of_getElem? (i := 71) rfl))) (mvT hZ (hw _ (List.mem_of_getElem? (i := 57) rfl))) (notFace_of_selects (args := #[]) (mvT hZ (hw _ (List.mem_of_getElem? (i := 59) rfl)))) (mvT hZ (hw _ (List.mem_of_getElem? (i := 59) rfl))) (mvT hZ (hw _ (List.mem_of_getElem? (i := 58) rfl))) (by decide) (backOf (W := 0) (rm34 l Z a0 hw [] T307.heap n0 p1 A K cs b196 b228_b226_b214_b200 k228_k226_k214_k200 EN OL307 fx310 fx311 fx312 fx313 gn_b196) hZ (hw _ (List.mem_of_getElem? (i := 60) rfl)) (hw _ (List.mem_of_getElem? (i := 3) rfl)) (by decide) (by decide)) q314a q314c (g := (mkF m 97 #[.val (.int p1), .val (.int (2 : Int32)), .val (.ref b189), .val (.ref b196), .val (.ref (A 2)), .val (.ref (A 2))] [(.ref b196), (.ref (A 7))])) rfl (by rw [hml]; rfl) (Steps.refl _) (argsL := [(.ref b196)]) (rest := []) (lenOf own_pd7 rfl) rfl (by show 2 * 0 + _ ≤ _; exact Nat.le_of_eq rfl) (hb hby at_97) (fun _ _ => ⟨rfl, e309, (by decide : 4 + 0 ≤ _), (by decide : 14 + 0 ≤ _)⟩)
    dsimp only [Pt.U, Pt.locs, Pt.cells, Pt.slots] at X314 l314 y314 z314 st314 hQ314
    subst l314 y314 z314
    obtain ⟨rfl, N314q, e314⟩ := hQ314
    have N314 := Fr.app N309 N314q
    obtain ⟨fs, hr, hrun, hended, hW, hsame⟩ := X314.leave (v := some (.int (1 : Int32))) (fun h => by rw [Bd.returns] at h; cases h)
    refine ⟨_, _, pre1 _ ?_, hrun, hended, _, _, rfl, ?_, ⟨_, rfl⟩, hW, hsame.mono (by decide) (by decide)⟩
    · show Steps p.tables e below (s₁.setTop (mkF m 3 #[.val (.int p1), .unset, .unset, .unset, .unset, .unset] [(.int (p1 &&& (3 : Int32)))])) _
      rw [hk2]
      show Steps p.tables e below (s₁.setTop (mkF m 3 #[.val (.int p1), .unset, .unset, .unset, .unset, .unset] [(.int (2 : Int32))])) _
      refine XS.istoreN X0.here hx rfl (hb hby at_3) rfl (l' := #[.val (.int p1), .val (.int (2 : Int32)), .unset, .unset, .unset, .unset]) rfl ?_
      show Steps p.tables e below (s₁.setTop (mkF m 4 #[.val (.int p1), .val (.int (2 : Int32)), .unset, .unset, .unset, .unset] [])) _
      refine XS.iconst X0.here hx rfl (hb hby at_4) ?_
      show Steps p.tables e below (s₁.setTop (mkF m 5 #[.val (.int p1), .val (.int (2 : Int32)), .unset, .unset, .unset, .unset] [(.int (3 : Int32))])) _
      refine st189 _ ?_
      show Steps p.tables e below (T189.setTop (mkF m 7 #[.val (.int p1), .val (.int (2 : Int32)), .unset, .unset, .unset, .unset] [(.ref b189)])) _
      refine XS.astoreN X189.here hx rfl (hb hby at_7) rfl rfl (l' := #[.val (.int p1), .val (.int (2 : Int32)), .val (.ref b189), .unset, .unset, .unset]) rfl ?_
      show Steps p.tables e below (T189.setTop (mkF m 8 #[.val (.int p1), .val (.int (2 : Int32)), .val (.ref b189), .unset, .unset, .unset] [])) _
      refine XS.aloadN X189.here hx rfl (hb hby at_8) rfl rfl ?_
      show Steps p.tables e below (T189.setTop (mkF m 9 #[.val (.int p1), .val (.int (2 : Int32)), .val (.ref b189), .unset, .unset, .unset] [(.ref b189)])) _
      refine XS.iconst X189.here hx rfl (hb hby at_9) ?_
      show Steps p.tables e below (T189.setTop (mkF m 10 #[.val (.int p1), .val (.int (2 : Int32)), .val (.ref b189), .unset, .unset, .unset] [(.int (0 : Int32)), (.ref b189)])) _
      refine XS.bipush X189.here hx rfl (hb hby at_10) ?_
      show Steps p.tables e below (T189.setTop (mkF m 12 #[.val (.int p1), .val (.int (2 : Int32)), .val (.ref b189), .unset, .unset, .unset] [(.int (51 : Int32)), (.int (0 : Int32)), (.ref b189)])) _
      refine st191 _ ?_
      show Steps p.tables e below (T191.setTop (mkF m 13 #[.val (.int p1), .val (.int (2 : Int32)), .val (.ref b189), .unset, .unset, .unset] [])) _
      refine XS.aloadN X191.here hx rfl (hb hby at_13) rfl rfl ?_
      show Steps p.tables e below (T191.setTop (mkF m 14 #[.val (.int p1), .val (.int (2 : Int32)), .val (.ref b189), .unset, .unset, .unset] [(.ref b189)])) _
      refine XS.iconst X191.here hx rfl (hb hby at_14) ?_
      show Steps p.tables e below (T191.setTop (mkF m 15 #[.val (.int p1), .val (.int (2 : Int32)), .val (.ref b189), .unset, .unset, .unset] [(.int (1 : Int32)), (.ref b189)])) _
      refine XS.bipush X191.here hx rfl (hb hby at_15) ?_
      show Steps p.tables e below (T191.setTop (mkF m 17 #[.val (.int p1), .val (.int (2 : Int32)), .val (.ref b189), .unset, .unset, .unset] [(.int (46 : Int32)), (.int (1 : Int32)), (.ref b189)])) _
      refine st193 _ ?_
      show Steps p.tables e below (T193.setTop (mkF m 18 #[.val (.int p1), .val (.int (2 : Int32)), .val (.ref b189), .unset, .unset, .unset] [])) _
      refine XS.aloadN X193.here hx rfl (hb hby at_18) rfl rfl ?_
      show Steps p.tables e below (T193.setTop (mkF m 19 #[.val (.int p1), .val (.int (2 : Int32)), .val (.ref b189), .unset, .unset, .unset] [(.ref b189)])) _
      refine XS.iconst X193.here hx rfl (hb hby at_19) ?_
      show Steps p.tables e below (T193.setTop (mkF m 20 #[.val (.int p1), .val (.int (2 : Int32)), .val (.ref b189), .unset, .unset, .unset] [(.int (2 : Int32)), (.ref b189)])) _
      refine XS.bipush X193.here hx rfl (hb hby at_20) ?_
      show Steps p.tables e below (T193.setTop (mkF m 22 #[.val (.int p1), .val (.int (2 : Int32)), .val (.ref b189), .unset, .unset, .unset] [(.int (48 : Int32)), (.int (2 : Int32)), (.ref b189)])) _
      refine XS.iloadN X193.here hx rfl (hb hby at_22) rfl ?_
      show Steps p.tables e below (T193.setTop (mkF m 23 #[.val (.int p1), .val (.int (2 : Int32)), .val (.ref b189), .unset, .unset, .unset] [(.int (2 : Int32)), (.int (48 : Int32)), (.int (2 : Int32)), (.ref b189)])) _
      refine XS.iadd X193.here hx rfl (hb hby at_23) rfl ?_
      show Steps p.tables e below (T193.setTop (mkF m 24 #[.val (.int p1), .val (.int (2 : Int32)), .val (.ref b189), .unset, .unset, .unset] [(.int (50 : Int32)), (.int (2 : Int32)), (.ref b189)])) _
      refine XS.i2c X193.here hx rfl (hb hby at_24) rfl ?_
      show Steps p.tables e below (T193.setTop (mkF m 25 #[.val (.int p1), .val (.int (2 : Int32)), .val (.ref b189), .unset, .unset, .unset] [(.int (50 : Int32)), (.int (2 : Int32)), (.ref b189)])) _
      refine st195 _ ?_
      show Steps p.tables e below (T195.setTop (mkF m 26 #[.val (.int p1), .val (.int (2 : Int32)), .val (.ref b189), .unset, .unset, .unset] [])) _
      refine st196 _ ?_
      show Steps p.tables e below (T196.setTop (mkF m 29 #[.val (.int p1), .val (.int (2 : Int32)), .val (.ref b189), .unset, .unset, .unset] [(.ref b196)])) _
      refine XS.dup X196.here hx rfl (hb hby at_29) rfl rfl ?_
      show Steps p.tables e below (T196.setTop (mkF m 30 #[.val (.int p1), .val (.int (2 : Int32)), .val (.ref b189), .unset, .unset, .unset] [(.ref b196), (.ref b196)])) _
      refine XS.aloadN X196.here hx rfl (hb hby at_30) rfl rfl ?_
      show Steps p.tables e below (T196.setTop (mkF m 31 #[.val (.int p1), .val (.int (2 : Int32)), .val (.ref b189), .unset, .unset, .unset] [(.ref b189), (.ref b196), (.ref b196)])) _
      refine st228.trans ?_
      show Steps p.tables e below (T228.setTop (mkF m 34 #[.val (.int p1), .val (.int (2 : Int32)), .val (.ref b189), .unset, .unset, .unset] [(.ref b196)])) _
      refine XS.astoreN X228.here hx rfl (hb hby at_34) rfl rfl (l' := #[.val (.int p1), .val (.int (2 : Int32)), .val (.ref b189), .val (.ref b196), .unset, .unset]) rfl ?_
      show Steps p.tables e below (T228.setTop (mkF m 35 #[.val (.int p1), .val (.int (2 : Int32)), .val (.ref b189), .val (.ref b196), .unset, .unset] [])) _
      refine XS.iloadN X228.here hx rfl (hb hby at_35) rfl ?_
      show Steps p.tables e below (T228.setTop (mkF m 36 #[.val (.int p1), .val (.int (2 : Int32)), .val (.ref b189), .val (.ref b196), .unset, .unset] [(.int (2 : Int32))])) _
      refine XS.ifYes X228.here hx rfl (pc0 := 36) (pc' := 47) rfl (hb hby at_36) rfl ((if0 _ _).trans (feq (by decide : ¬ ((2 : Int32) = (0 : Int32)))).2) (by decide) (by decide) ?_
      show Steps p.tables e below (T228.setTop (mkF m 47 #[.val (.int p1), .val (.int (2 : Int32)), .val (.ref b189), .val (.ref b196), .unset, .unset] [])) _
      refine XS.iloadN X228.here hx rfl (hb hby at_47) rfl ?_
      show Steps p.tables e below (T228.setTop (mkF m 48 #[.val (.int p1), .val (.int (2 : Int32)), .val (.ref b189), .val (.ref b196), .unset, .unset] [(.int (2 : Int32))])) _
      refine XS.iconst X228.here hx rfl (hb hby at_48) ?_
      show Steps p.tables e below (T228.setTop (mkF m 49 #[.val (.int p1), .val (.int (2 : Int32)), .val (.ref b189), .val (.ref b196), .unset, .unset] [(.int (1 : Int32)), (.int (2 : Int32))])) _
      refine XS.icmpYes X228.here hx rfl (pc0 := 49) (pc' := 60) rfl (hb hby at_49) rfl (feq (by decide : ¬ ((2 : Int32) = (1 : Int32)))).2 (by decide) (by decide) ?_
      show Steps p.tables e below (T228.setTop (mkF m 60 #[.val (.int p1), .val (.int (2 : Int32)), .val (.ref b189), .val (.ref b196), .unset, .unset] [])) _
      refine XS.iloadN X228.here hx rfl (hb hby at_60) rfl ?_
      show Steps p.tables e below (T228.setTop (mkF m 61 #[.val (.int p1), .val (.int (2 : Int32)), .val (.ref b189), .val (.ref b196), .unset, .unset] [(.int (2 : Int32))])) _
      refine XS.iconst X228.here hx rfl (hb hby at_61) ?_
      show Steps p.tables e below (T228.setTop (mkF m 62 #[.val (.int p1), .val (.int (2 : Int32)), .val (.ref b189), .val (.ref b196), .unset, .unset] [(.int (2 : Int32)), (.int (2 : Int32))])) _
      refine XS.icmpNo X228.here hx rfl (hb hby at_62) rfl (teq (by decide : (2 : Int32) = (2 : Int32))).2 ?_
      show Steps p.tables e below (T228.setTop (mkF m 65 #[.val (.int p1), .val (.int (2 : Int32)), .val (.ref b189), .val (.ref b196), .unset, .unset] [])) _
      refine st229 _ ?_
      show Steps p.tables e below (T229.setTop (mkF m 68 #[.val (.int p1), .val (.int (2 : Int32)), .val (.ref b189), .val (.ref b196), .unset, .unset] [(.ref (A 2))])) _
      refine XS.astore X229.here hx rfl (hb hby at_68) rfl rfl (l' := #[.val (.int p1), .val (.int (2 : Int32)), .val (.ref b189), .val (.ref b196), .val (.ref (A 2)), .unset]) rfl ?_
      show Steps p.tables e below (T229.setTop (mkF m 70 #[.val (.int p1), .val (.int (2 : Int32)), .val (.ref b189), .val (.ref b196), .val (.ref (A 2)), .unset] [])) _
      refine XS.goto X229.here hx rfl (pc0 := 70) (pc' := 78) rfl (hb hby at_70) (by decide) (by decide) ?_
      show Steps p.tables e below (T229.setTop (mkF m 78 #[.val (.int p1), .val (.int (2 : Int32)), .val (.ref b189), .val (.ref b196), .val (.ref (A 2)), .unset] [])) _
      refine XS.aloadN X229.here hx rfl (hb hby at_78) rfl rfl ?_
      show Steps p.tables e below (T229.setTop (mkF m 79 #[.val (.int p1), .val (.int (2 : Int32)), .val (.ref b189), .val (.ref b196), .val (.ref (A 2)), .unset] [(.ref b196)])) _
      refine st307 _ ?_
      show Steps p.tables e below (T307.setTop (mkF m 82 #[.val (.int p1), .val (.int (2 : Int32)), .val (.ref b189), .val (.ref b196), .val (.ref (A 2)), .unset] [(.ref (A 2))])) _
      refine XS.astore X307.here hx rfl (hb hby at_82) rfl rfl (l' := #[.val (.int p1), .val (.int (2 : Int32)), .val (.ref b189), .val (.ref b196), .val (.ref (A 2)), .val (.ref (A 2))]) rfl ?_
      show Steps p.tables e below (T307.setTop (mkF m 84 #[.val (.int p1), .val (.int (2 : Int32)), .val (.ref b189), .val (.ref b196), .val (.ref (A 2)), .val (.ref (A 2))] [])) _
      refine XS.aload X307.here hx rfl (hb hby at_84) rfl rfl ?_
      show Steps p.tables e below (T307.setTop (mkF m 86 #[.val (.int p1), .val (.int (2 : Int32)), .val (.ref b189), .val (.ref b196), .val (.ref (A 2)), .val (.ref (A 2))] [(.ref (A 2))])) _
      refine XS.aload X307.here hx rfl (hb hby at_86) rfl rfl ?_
      show Steps p.tables e below (T307.setTop (mkF m 88 #[.val (.int p1), .val (.int (2 : Int32)), .val (.ref b189), .val (.ref b196), .val (.ref (A 2)), .val (.ref (A 2))] [(.ref (A 2)), (.ref (A 2))])) _
      refine Jvm.RoadKit.acmp (g := (mkF m 88 #[.val (.int p1), .val (.int (2 : Int32)), .val (.ref b189), .val (.ref b196), .val (.ref (A 2)), .val (.ref (A 2))] [(.ref (A 2)), (.ref (A 2))])) X307 hx rfl rfl rfl (pc0 := 88) (pc' := 91) (same := true) rfl (hb hby at_88) rfl (decide_eq_true rfl) (by decide) (by decide) ?_
      show Steps p.tables e below (T307.setTop (mkF m 91 #[.val (.int p1), .val (.int (2 : Int32)), .val (.ref b189), .val (.ref b196), .val (.ref (A 2)), .val (.ref (A 2))] [])) _
      refine XS.aload X307.here hx rfl (hb hby at_91) rfl rfl ?_
      show Steps p.tables e below (T307.setTop (mkF m 93 #[.val (.int p1), .val (.int (2 : Int32)), .val (.ref b189), .val (.ref b196), .val (.ref (A 2)), .val (.ref (A 2))] [(.ref (A 2))])) _
      refine st309.trans ?_
      show Steps p.tables e below (T309.setTop (mkF m 96 #[.val (.int p1), .val (.int (2 : Int32)), .val (.ref b189), .val (.ref b196), .val (.ref (A 2)), .val (.ref (A 2))] [(.ref (A 7))])) _
      refine XS.aloadN X309.here hx rfl (hb hby at_96) rfl rfl ?_
      show Steps p.tables e below (T309.setTop (mkF m 97 #[.val (.int p1), .val (.int (2 : Int32)), .val (.ref b189), .val (.ref b196), .val (.ref (A 2)), .val (.ref (A 2))] [(.ref b196), (.ref (A 7))])) _
      refine st314.trans ?_
      show Steps p.tables e below (T314.setTop (mkF m 100 #[.val (.int p1), .val (.int (2 : Int32)), .val (.ref b189), .val (.ref b196), .val (.ref (A 2)), .val (.ref (A 2))] [(.int (1 : Int32))])) _
      refine XS.ifNo X314.here hx rfl (hb hby at_100) rfl ((if0 _ _).trans (feq (by decide : ¬ ((1 : Int32) = (0 : Int32)))).1) ?_
      show Steps p.tables e below (T314.setTop (mkF m 103 #[.val (.int p1), .val (.int (2 : Int32)), .val (.ref b189), .val (.ref b196), .val (.ref (A 2)), .val (.ref (A 2))] [])) _
      refine XS.iconst X314.here hx rfl (hb hby at_103) ?_
      show Steps p.tables e below (T314.setTop (mkF m 104 #[.val (.int p1), .val (.int (2 : Int32)), .val (.ref b189), .val (.ref b196), .val (.ref (A 2)), .val (.ref (A 2))] [(.int (1 : Int32))])) _
      refine XS.goto X314.here hx rfl (pc0 := 104) (pc' := 108) rfl (hb hby at_104) (by decide) (by decide) ?_
      show Steps p.tables e below (T314.setTop (mkF m 108 #[.val (.int p1), .val (.int (2 : Int32)), .val (.ref b189), .val (.ref b196), .val (.ref (A 2)), .val (.ref (A 2))] [(.int (1 : Int32))])) _
      exact retN X314 hx (t := .boolean) Bd.returns (by simp) (hb hby at_108) hr
    · show LQ n0 _ T314.heap _
      exact ⟨rfl, N314, trivial⟩
  | 3, _, hk2 =>
    obtain ⟨T315, h315, k315, X315, e315, E315, A315, st315⟩ := newP X0 hx hZ (hw _ (List.mem_of_getElem? (i := 0) rfl)) e0 (g := (mkF m 5 #[.val (.int p1), .val (.int (3 : Int32)), .unset, .unset, .unset, .unset] [(.int (3 : Int32))])) rfl (hb hby at_5) rfl (by decide) (cap := 3) (by decide) (by decide) (by decide) (by decide)
    obtain ⟨b315, g315⟩ : ∃ z, z = h0.size := ⟨_, rfl⟩
    rw [← g315] at A315 st315
    have gn_b315 : n0 ≤ b315 := Nat.le_trans (OL0.1 ▸ OL0.2.1) (Nat.le_of_eq g315.symm)
    have sz_b315 : h0.size ≤ b315 := Nat.le_trans KK0.1 (Nat.le_of_eq g315.symm)
    have OL315 : Old Z n0 h315 := OL0.ext E315
    have KK315 : Keep h0 h315 [] := KK0.ext E315
    have V315 : Arv Z h315 b315 k315 .char (3 : Int32) [] (.int (0 : Int32)) := Arv.new A315 (by decide)
    obtain ⟨cl316, Ar316, q316, Sz316, Nn316, Hh316, Gg316⟩ := (id (Arv.pad V315 (pad_rep [] (.int (0 : Int32)) 1)))
    have hin316 : ¬ ((0 : Int32) < 0 ∨ cl316.slots.size ≤ ((0 : Int32)).toNatClampNeg) := inb_of Sz316 ⟨by decide, by decide⟩
    obtain ⟨T317, h317, X317, e317, W317, st317⟩ := stC X315 hx hZ e315 Ar316 (j := (0 : Int32)) hin316 (g := (mkF m 12 #[.val (.int p1), .val (.int (3 : Int32)), .val (.ref b315), .unset, .unset, .unset] [(.int (51 : Int32)), (.int (0 : Int32)), (.ref b315)])) rfl rfl (hb hby at_12)
    have NF317 := Fr.snoc X317 N0 gn_b315
    have OL317 : Old Z n0 h317 := OL315.wr W317 gn_b315
    have KK317 : Keep h0 h317 [] := KK315.wr W317 (Or.inr sz_b315)
    have V317 : Arv Z h317 b315 k315 .char (3 : Int32) [(.int (51 : Int32))] (.int (0 : Int32)) := Arv.set Ar316 q316 Sz316 Nn316 Hh316 Gg316 (fits_nar_char _) W317 0 (by decide) (by decide)
    obtain ⟨cl318, Ar318, q318, Sz318, Nn318, Hh318, Gg318⟩ := (id (Arv.pad V317 (pad_rep [(.int (51 : Int32))] (.int (0 : Int32)) 1)))
    have hin318 : ¬ ((1 : Int32) < 0 ∨ cl318.slots.size ≤ ((1 : Int32)).toNatClampNeg) := inb_of Sz318 ⟨by decide, by decide⟩
    obtain ⟨T319, h319, X319, e319, W319, st319⟩ := stC X317 hx hZ e317 Ar318 (j := (1 : Int32)) hin318 (g := (mkF m 17 #[.val (.int p1), .val (.int (3 : Int32)), .val (.ref b315), .unset, .unset, .unset] [(.int (46 : Int32)), (.int (1 : Int32)), (.ref b315)])) rfl rfl (hb hby at_17)
    have NF319 := Fr.snoc X319 NF317 gn_b315
    have OL319 : Old Z n0 h319 := OL317.wr W319 gn_b315
    have KK319 : Keep h0 h319 [] := KK317.wr W319 (Or.inr sz_b315)
    have V319 : Arv Z h319 b315 k315 .char (3 : Int32) [(.int (51 : Int32)), (.int (46 : Int32))] (.int (0 : Int32)) := Arv.set Ar318 q318 Sz318 Nn318 Hh318 Gg318 (fits_nar_char _) W319 1 (by decide) (by decide)
    obtain ⟨cl320, Ar320, q320, Sz320, Nn320, Hh320, Gg320⟩ := (id (Arv.pad V319 (pad_rep [(.int (51 : Int32)), (.int (46 : Int32))] (.int (0 : Int32)) 1)))
    have hin320 : ¬ ((2 : Int32) < 0 ∨ cl320.slots.size ≤ ((2 : Int32)).toNatClampNeg) := inb_of Sz320 ⟨by decide, by decide⟩
    obtain ⟨T321, h321, X321, e321, W321, st321⟩ := stC X319 hx hZ e319 Ar320 (j := (2 : Int32)) hin320 (g := (mkF m 25 #[.val (.int p1), .val (.int (3 : Int32)), .val (.ref b315), .unset, .unset, .unset] [(.int (51 : Int32)), (.int (2 : Int32)), (.ref b315)])) rfl rfl (hb hby at_25)
    have NF321 := Fr.snoc X321 NF319 gn_b315
    have OL321 : Old Z n0 h321 := OL319.wr W321 gn_b315
    have KK321 : Keep h0 h321 [] := KK319.wr W321 (Or.inr sz_b315)
    have V321 : Arv Z h321 b315 k315 .char (3 : Int32) [(.int (51 : Int32)), (.int (46 : Int32)), (.int (51 : Int32))] (.int (0 : Int32)) := Arv.set Ar320 q320 Sz320 Nn320 Hh320 Gg320 (fits_nar_char _) W321 2 (by decide) (by decide)
    obtain ⟨T322, h322, X322, e322, E322, A322, D322, -, st322⟩ := newO X321 hx hZ hown (hw _ (List.mem_of_getElem? (i := 1) rfl)) (hw _ (List.mem_of_getElem? (i := 2) rfl)) (hw _ (List.mem_of_getElem? (i := 3) rfl)) e321 (g := (mkF m 26 #[.val (.int p1), .val (.int (3 : Int32)), .val (.ref b315), .unset, .unset, .unset] [])) rfl (hb hby at_26) (by decide) (by decide)
    obtain ⟨b322, g322⟩ : ∃ z, z = h321.size := ⟨_, rfl⟩
    rw [← g322] at A322 D322 st322
    have gn_b322 : n0 ≤ b322 := Nat.le_trans (OL321.1 ▸ OL321.2.1) (Nat.le_of_eq g322.symm)
    have sz_b322 : h0.size ≤ b322 := Nat.le_trans KK321.1 (Nat.le_of_eq g322.symm)
    have lt_b315_b322 : b315 < b322 := Nat.lt_of_lt_of_le V321.lt (Nat.le_of_eq g322.symm)
    have OL322 : Old Z n0 h322 := OL321.ext E322
    have KK322 : Keep h0 h322 [] := KK321.ext E322
    have F322_coder : Fld Z h322 b322 "java/lang/String" "coder" "B" (.int (0 : Int32)) := D322 (Or.inr (hw _ (List.mem_of_getElem? (i := 27) rfl))) (ty := .byte) (by decide)
    have F322_value : Fld Z h322 b322 "java/lang/String" "value" "[B" .null := D322 (Or.inr (hw _ (List.mem_of_getElem? (i := 29) rfl))) (ty := (.array .byte)) (by decide)
    have fx353 : Arv Z h322 b315 k315 .char (3 : Int32) [(.int (51 : Int32)), (.int (46 : Int32)), (.int (51 : Int32))] (.int (0 : Int32)) := (V321.ext E322)
    obtain ⟨_, _, ⟨T354, L354, k354, n354⟩, -, X354, ⟨Lc354, hQ354, l354, y354, z354⟩, st354⟩ := X322.specialBack hx (y := own_m7) rfl hown (mvT hZ (hw _ (List.mem_of_getElem? (i := 4) rfl))) (mvT hZ (hw _ (List.mem_of_getElem? (i := 5) rfl))) (mvT hZ (hw _ (List.mem_of_getElem? (i := 6) rfl))) (by decide) (backOf (W := 1) (rm37 l Z a0 hw [] h322 n0 p1 A K cs b315 b322 k315 EN OL322 fx353 A322 F322_coder F322_value gn_b322) hZ (hw _ (List.mem_of_getElem? (i := 6) rfl)) (hw _ (List.mem_of_getElem? (i := 3) rfl)) (by decide) (by decide)) (g := (mkF m 31 #[.val (.int p1), .val (.int (3 : Int32)), .val (.ref b315), .unset, .unset, .unset] [(.ref b315), (.ref b322), (.ref b322)])) rfl (by rw [hml]; rfl) (Steps.refl _) (a := b322) (argsL := [(.ref b315)]) (rest := [(.ref b322)]) (lenOf own_pd4 rfl) rfl (by show 2 * 0 + _ ≤ _; exact Nat.le_of_eq rfl) (hb hby at_31) (fun _ _ => ⟨rfl, e322, (by decide : 2 + 1 ≤ _), (by decide : 7 + 3 ≤ _)⟩)
    dsimp only [Pt.U, Pt.locs, Pt.cells, Pt.slots] at X354 l354 y354 z354 st354 hQ354
    subst l354 y354 z354
    obtain ⟨b354_b352_b340_b326, k354_k352_k340_k326, rfl, N354q, K354c, ⟨gn_b354_b352_b340_b326, szc_b354_b352_b340_b326⟩, f354_0, f354_1, f354_2, f354_3⟩ := hQ354
    have N354 := Fr.app NF321 N354q
    have lt_b315_b354_b352_b340_b326 : b315 < b354_b352_b340_b326 := Nat.lt_of_lt_of_le fx353.lt szc_b354_b352_b340_b326
    have lt_b322_b354_b352_b340_b326 : b322 < b354_b352_b340_b326 := Nat.lt_of_lt_of_le A322.lt szc_b354_b352_b340_b326
    have sz_b354_b352_b340_b326 : h0.size ≤ b354_b352_b340_b326 := Nat.le_trans KK322.1 szc_b354_b352_b340_b326
    have OL354 : Old Z n0 T354.heap := OL322.keep K354c (allS gn_b322 all0)
    have KK354 : Keep h0 T354.heap [] := KK322.trans K354c (allS (Or.inr sz_b322) all0)
    obtain ⟨T355, X355, e355, st355⟩ := getS2 X354 hx hZ hown (host := "") (Or.inl (hw _ (List.mem_of_getElem? (i := 72) rfl))) Via.refl rfl (EN.1.2.2.2.2.2.2.1.ext OL354.2) (g := (mkF m 73 #[.val (.int p1), .val (.int (3 : Int32)), .val (.ref b315), .val (.ref b322), .unset, .unset] [])) rfl (hb hby at_73)
    have fx454 : Arv Z T354.heap b315 k315 .char (3 : Int32) [(.int (51 : Int32)), (.int (46 : Int32)), (.int (51 : Int32))] (.int (0 : Int32)) := (fx353.keep K354c (ninS (Nat.ne_of_lt lt_b315_b322) nin0))
    obtain ⟨_, _, ⟨T455, L455, k455, n455⟩, -, X455, ⟨Lc455, hQ455, l455, y455, z455⟩, st455⟩ := Jvm.LawKit.callS X355 hx (y := own_m9) hown (mvT hZ (hw _ (List.mem_of_getElem? (i := 33) rfl))) (mvT hZ (hw _ (List.mem_of_getElem? (i := 34) rfl))) (mvT hZ (hw _ (List.mem_of_getElem? (i := 31) rfl))) (mvT hZ (hw _ (List.mem_of_getElem? (i := 35) rfl))) (by decide) (backOf (W := 0) (rm42 l Z a0 hw [] T354.heap n0 p1 A K cs b315 b322 b354_b352_b340_b326 k315 k354_k352_k340_k326 EN OL354 fx454 f354_0 f354_3 f354_2 f354_1 gn_b322) hZ (hw _ (List.mem_of_getElem? (i := 35) rfl)) (hw _ (List.mem_of_getElem? (i := 31) rfl)) (by decide) (by decide)) (g := (mkF m 79 #[.val (.int p1), .val (.int (3 : Int32)), .val (.ref b315), .val (.ref b322), .val (.ref (A 3)), .unset] [(.ref b322)])) rfl (by rw [hml]; rfl) (argsL := [(.ref b322)]) (rest := []) (lenOf own_pd8 rfl) rfl (by show 2 * 0 + _ ≤ _; exact Nat.le_of_eq rfl) (hb hby at_79) (fun _ _ => ⟨rfl, e355, (by decide : 3 + 1 ≤ _), (by decide : 10 + 4 ≤ _)⟩)
    dsimp only [Pt.U, Pt.locs, Pt.cells, Pt.slots] at X455 l455 y455 z455 st455 hQ455
    subst l455 y455 z455
    obtain ⟨b455_b359_b357, rfl, N455q, K455c, ⟨gn_b455_b359_b357, szc_b455_b359_b357⟩, f455_0, f455_1⟩ := hQ455
    have N455 := Fr.app N354 N455q
    have lt_b315_b455_b359_b357 : b315 < b455_b359_b357 := Nat.lt_of_lt_of_le fx454.lt szc_b455_b359_b357
    have lt_b322_b455_b359_b357 : b322 < b455_b359_b357 := Nat.lt_of_lt_of_le f354_0.lt szc_b455_b359_b357
    have lt_b354_b352_b340_b326_b455_b359_b357 : b354_b352_b340_b326 < b455_b359_b357 := Nat.lt_of_lt_of_le f354_3.lt szc_b455_b359_b357
    have sz_b455_b359_b357 : h0.size ≤ b455_b359_b357 := Nat.le_trans KK354.1 szc_b455_b359_b357
    have OL455 : Old Z n0 T455.heap := OL354.keep K455c all0
    have KK455 : Keep h0 T455.heap [] := KK354.trans K455c all0
    obtain ⟨cq457, kq457, q457a, q457b, q457c⟩ := isOf hZ rfl (EN.1.2.2.2.2.2.2.2.1.ext OL455.2)
    obtain ⟨_, _, ⟨T457, L457, k457, n457⟩, -, X457, ⟨Lc457, hQ457, l457, y457, z457⟩, st457⟩ := X455.virtualBack hx (y := own_m2) (z := own_m2) hown (mvT hZ (hw _ (List.mem_of_getElem? (i := 66) rfl))) (mvT hZ (hw _ (List.mem_of_getElem? (i := 67) rfl))) (notFace_of_selects (args := #[]) (mvT hZ (hw _ (List.mem_of_getElem? (i := 69) rfl)))) (mvT hZ (hw _ (List.mem_of_getElem? (i := 69) rfl))) (mvT hZ (hw _ (List.mem_of_getElem? (i := 68) rfl))) (by decide) (backOf (W := 0) (rm52 l Z a0 hw [] T455.heap n0 p1 A K cs EN OL455) hZ (hw _ (List.mem_of_getElem? (i := 70) rfl)) (hw _ (List.mem_of_getElem? (i := 31) rfl)) (by decide) (by decide)) q457a q457c (g := (mkF m 93 #[.val (.int p1), .val (.int (3 : Int32)), .val (.ref b315), .val (.ref b322), .val (.ref (A 3)), .val (.ref (A 3))] [(.ref (A 3))])) rfl (by rw [hml]; rfl) (Steps.refl _) (argsL := []) (rest := []) (lenOf own_pd9 rfl) rfl (by show 2 * 0 + _ ≤ _; exact Nat.le_of_eq rfl) (hb hby at_93) (fun _ _ => ⟨rfl, rfl, (by decide : 4 + 0 ≤ _), (by decide : 14 + 0 ≤ _)⟩)
    dsimp only [Pt.U, Pt.locs, Pt.cells, Pt.slots] at X457 l457 y457 z457 st457 hQ457
    subst l457 y457 z457
    obtain ⟨rfl, N457q, e457⟩ := hQ457
    have N457 := Fr.app N455 N457q
    have fx458 : Fld Z T455.heap b322 "java/lang/String" "value" "[B" (.ref b354_b352_b340_b326) := (f354_2.keep K455c nin0)
    have fx459 : Arv Z T455.heap b354_b352_b340_b326 k354_k352_k340_k326 .byte (3 : Int32) [(.int (51 : Int32)), (.int (46 : Int32)), (.int (51 : Int32))] (.int (0 : Int32)) := (f354_3.keep K455c nin0)
    have fx460 : Exa Z T455.heap b322 "java/lang/String" := (f354_0.keep K455c)
    have fx461 : Fld Z T455.heap b322 "java/lang/String" "coder" "B" (.int (0 : Int32)) := (f354_1.keep K455c nin0)
    obtain ⟨cq462, kq462, q462a, q462b, q462c⟩ := isOf hZ e457 (EN.2.2.1.2.2.1.ext OL455.2)
    obtain ⟨_, _, ⟨T462, L462, k462, n462⟩, -, X462, ⟨Lc462, hQ462, l462, y462, z462⟩, st462⟩ := X457.virtualBack hx (y := own_m0) (z := own_m0) hown (mvT hZ (hw _ (List.mem_of_getElem? (i := 71) rfl))) (mvT hZ (hw _ (List.mem_of_getElem? (i := 57) rfl))) (notFace_of_selects (args := #[]) (mvT hZ (hw _ (List.mem_of_getElem? (i := 59) rfl)))) (mvT hZ (hw _ (List.mem_of_getElem? (i := 59) rfl))) (mvT hZ (hw _ (List.mem_of_getElem? (i := 58) rfl))) (by decide) (backOf (W := 0) (rm50 l Z a0 hw [] T455.heap n0 p1 A K cs b322 b354_b352_b340_b326 k354_k352_k340_k326 EN OL455 fx458 fx459 fx460 fx461 gn_b322) hZ (hw _ (List.mem_of_getElem? (i := 60) rfl)) (hw _ (List.mem_of_getElem? (i := 3) rfl)) (by decide) (by decide)) q462a q462c (g := (mkF m 97 #[.val (.int p1), .val (.int (3 : Int32)), .val (.ref b315), .val (.ref b322), .val (.ref (A 3)), .val (.ref (A 3))] [(.ref b322), (.ref (A 8))])) rfl (by rw [hml]; rfl) (Steps.refl _) (argsL := [(.ref b322)]) (rest := []) (lenOf own_pd7 rfl) rfl (by show 2 * 0 + _ ≤ _; exact Nat.le_of_eq rfl) (hb hby at_97) (fun _ _ => ⟨rfl, e457, (by decide : 4 + 0 ≤ _), (by decide : 14 + 0 ≤ _)⟩)
    dsimp only [Pt.U, Pt.locs, Pt.cells, Pt.slots] at X462 l462 y462 z462 st462 hQ462
    subst l462 y462 z462
    obtain ⟨rfl, N462q, e462⟩ := hQ462
    have N462 := Fr.app N457 N462q
    obtain ⟨fs, hr, hrun, hended, hW, hsame⟩ := X462.leave (v := some (.int (1 : Int32))) (fun h => by rw [Bd.returns] at h; cases h)
    refine ⟨_, _, pre1 _ ?_, hrun, hended, _, _, rfl, ?_, ⟨_, rfl⟩, hW, hsame.mono (by decide) (by decide)⟩
    · show Steps p.tables e below (s₁.setTop (mkF m 3 #[.val (.int p1), .unset, .unset, .unset, .unset, .unset] [(.int (p1 &&& (3 : Int32)))])) _
      rw [hk2]
      show Steps p.tables e below (s₁.setTop (mkF m 3 #[.val (.int p1), .unset, .unset, .unset, .unset, .unset] [(.int (3 : Int32))])) _
      refine XS.istoreN X0.here hx rfl (hb hby at_3) rfl (l' := #[.val (.int p1), .val (.int (3 : Int32)), .unset, .unset, .unset, .unset]) rfl ?_
      show Steps p.tables e below (s₁.setTop (mkF m 4 #[.val (.int p1), .val (.int (3 : Int32)), .unset, .unset, .unset, .unset] [])) _
      refine XS.iconst X0.here hx rfl (hb hby at_4) ?_
      show Steps p.tables e below (s₁.setTop (mkF m 5 #[.val (.int p1), .val (.int (3 : Int32)), .unset, .unset, .unset, .unset] [(.int (3 : Int32))])) _
      refine st315 _ ?_
      show Steps p.tables e below (T315.setTop (mkF m 7 #[.val (.int p1), .val (.int (3 : Int32)), .unset, .unset, .unset, .unset] [(.ref b315)])) _
      refine XS.astoreN X315.here hx rfl (hb hby at_7) rfl rfl (l' := #[.val (.int p1), .val (.int (3 : Int32)), .val (.ref b315), .unset, .unset, .unset]) rfl ?_
      show Steps p.tables e below (T315.setTop (mkF m 8 #[.val (.int p1), .val (.int (3 : Int32)), .val (.ref b315), .unset, .unset, .unset] [])) _
      refine XS.aloadN X315.here hx rfl (hb hby at_8) rfl rfl ?_
      show Steps p.tables e below (T315.setTop (mkF m 9 #[.val (.int p1), .val (.int (3 : Int32)), .val (.ref b315), .unset, .unset, .unset] [(.ref b315)])) _
      refine XS.iconst X315.here hx rfl (hb hby at_9) ?_
      show Steps p.tables e below (T315.setTop (mkF m 10 #[.val (.int p1), .val (.int (3 : Int32)), .val (.ref b315), .unset, .unset, .unset] [(.int (0 : Int32)), (.ref b315)])) _
      refine XS.bipush X315.here hx rfl (hb hby at_10) ?_
      show Steps p.tables e below (T315.setTop (mkF m 12 #[.val (.int p1), .val (.int (3 : Int32)), .val (.ref b315), .unset, .unset, .unset] [(.int (51 : Int32)), (.int (0 : Int32)), (.ref b315)])) _
      refine st317 _ ?_
      show Steps p.tables e below (T317.setTop (mkF m 13 #[.val (.int p1), .val (.int (3 : Int32)), .val (.ref b315), .unset, .unset, .unset] [])) _
      refine XS.aloadN X317.here hx rfl (hb hby at_13) rfl rfl ?_
      show Steps p.tables e below (T317.setTop (mkF m 14 #[.val (.int p1), .val (.int (3 : Int32)), .val (.ref b315), .unset, .unset, .unset] [(.ref b315)])) _
      refine XS.iconst X317.here hx rfl (hb hby at_14) ?_
      show Steps p.tables e below (T317.setTop (mkF m 15 #[.val (.int p1), .val (.int (3 : Int32)), .val (.ref b315), .unset, .unset, .unset] [(.int (1 : Int32)), (.ref b315)])) _
      refine XS.bipush X317.here hx rfl (hb hby at_15) ?_
      show Steps p.tables e below (T317.setTop (mkF m 17 #[.val (.int p1), .val (.int (3 : Int32)), .val (.ref b315), .unset, .unset, .unset] [(.int (46 : Int32)), (.int (1 : Int32)), (.ref b315)])) _
      refine st319 _ ?_
      show Steps p.tables e below (T319.setTop (mkF m 18 #[.val (.int p1), .val (.int (3 : Int32)), .val (.ref b315), .unset, .unset, .unset] [])) _
      refine XS.aloadN X319.here hx rfl (hb hby at_18) rfl rfl ?_
      show Steps p.tables e below (T319.setTop (mkF m 19 #[.val (.int p1), .val (.int (3 : Int32)), .val (.ref b315), .unset, .unset, .unset] [(.ref b315)])) _
      refine XS.iconst X319.here hx rfl (hb hby at_19) ?_
      show Steps p.tables e below (T319.setTop (mkF m 20 #[.val (.int p1), .val (.int (3 : Int32)), .val (.ref b315), .unset, .unset, .unset] [(.int (2 : Int32)), (.ref b315)])) _
      refine XS.bipush X319.here hx rfl (hb hby at_20) ?_
      show Steps p.tables e below (T319.setTop (mkF m 22 #[.val (.int p1), .val (.int (3 : Int32)), .val (.ref b315), .unset, .unset, .unset] [(.int (48 : Int32)), (.int (2 : Int32)), (.ref b315)])) _
      refine XS.iloadN X319.here hx rfl (hb hby at_22) rfl ?_
      show Steps p.tables e below (T319.setTop (mkF m 23 #[.val (.int p1), .val (.int (3 : Int32)), .val (.ref b315), .unset, .unset, .unset] [(.int (3 : Int32)), (.int (48 : Int32)), (.int (2 : Int32)), (.ref b315)])) _
      refine XS.iadd X319.here hx rfl (hb hby at_23) rfl ?_
      show Steps p.tables e below (T319.setTop (mkF m 24 #[.val (.int p1), .val (.int (3 : Int32)), .val (.ref b315), .unset, .unset, .unset] [(.int (51 : Int32)), (.int (2 : Int32)), (.ref b315)])) _
      refine XS.i2c X319.here hx rfl (hb hby at_24) rfl ?_
      show Steps p.tables e below (T319.setTop (mkF m 25 #[.val (.int p1), .val (.int (3 : Int32)), .val (.ref b315), .unset, .unset, .unset] [(.int (51 : Int32)), (.int (2 : Int32)), (.ref b315)])) _
      refine st321 _ ?_
      show Steps p.tables e below (T321.setTop (mkF m 26 #[.val (.int p1), .val (.int (3 : Int32)), .val (.ref b315), .unset, .unset, .unset] [])) _
      refine st322 _ ?_
      show Steps p.tables e below (T322.setTop (mkF m 29 #[.val (.int p1), .val (.int (3 : Int32)), .val (.ref b315), .unset, .unset, .unset] [(.ref b322)])) _
      refine XS.dup X322.here hx rfl (hb hby at_29) rfl rfl ?_
      show Steps p.tables e below (T322.setTop (mkF m 30 #[.val (.int p1), .val (.int (3 : Int32)), .val (.ref b315), .unset, .unset, .unset] [(.ref b322), (.ref b322)])) _
      refine XS.aloadN X322.here hx rfl (hb hby at_30) rfl rfl ?_
      show Steps p.tables e below (T322.setTop (mkF m 31 #[.val (.int p1), .val (.int (3 : Int32)), .val (.ref b315), .unset, .unset, .unset] [(.ref b315), (.ref b322), (.ref b322)])) _
      refine st354.trans ?_
      show Steps p.tables e below (T354.setTop (mkF m 34 #[.val (.int p1), .val (.int (3 : Int32)), .val (.ref b315), .unset, .unset, .unset] [(.ref b322)])) _
      refine XS.astoreN X354.here hx rfl (hb hby at_34) rfl rfl (l' := #[.val (.int p1), .val (.int (3 : Int32)), .val (.ref b315), .val (.ref b322), .unset, .unset]) rfl ?_
      show Steps p.tables e below (T354.setTop (mkF m 35 #[.val (.int p1), .val (.int (3 : Int32)), .val (.ref b315), .val (.ref b322), .unset, .unset] [])) _
      refine XS.iloadN X354.here hx rfl (hb hby at_35) rfl ?_
      show Steps p.tables e below (T354.setTop (mkF m 36 #[.val (.int p1), .val (.int (3 : Int32)), .val (.ref b315), .val (.ref b322), .unset, .unset] [(.int (3 : Int32))])) _
      refine XS.ifYes X354.here hx rfl (pc0 := 36) (pc' := 47) rfl (hb hby at_36) rfl ((if0 _ _).trans (feq (by decide : ¬ ((3 : Int32) = (0 : Int32)))).2) (by decide) (by decide) ?_
      show Steps p.tables e below (T354.setTop (mkF m 47 #[.val (.int p1), .val (.int (3 : Int32)), .val (.ref b315), .val (.ref b322), .unset, .unset] [])) _
      refine XS.iloadN X354.here hx rfl (hb hby at_47) rfl ?_
      show Steps p.tables e below (T354.setTop (mkF m 48 #[.val (.int p1), .val (.int (3 : Int32)), .val (.ref b315), .val (.ref b322), .unset, .unset] [(.int (3 : Int32))])) _
      refine XS.iconst X354.here hx rfl (hb hby at_48) ?_
      show Steps p.tables e below (T354.setTop (mkF m 49 #[.val (.int p1), .val (.int (3 : Int32)), .val (.ref b315), .val (.ref b322), .unset, .unset] [(.int (1 : Int32)), (.int (3 : Int32))])) _
      refine XS.icmpYes X354.here hx rfl (pc0 := 49) (pc' := 60) rfl (hb hby at_49) rfl (feq (by decide : ¬ ((3 : Int32) = (1 : Int32)))).2 (by decide) (by decide) ?_
      show Steps p.tables e below (T354.setTop (mkF m 60 #[.val (.int p1), .val (.int (3 : Int32)), .val (.ref b315), .val (.ref b322), .unset, .unset] [])) _
      refine XS.iloadN X354.here hx rfl (hb hby at_60) rfl ?_
      show Steps p.tables e below (T354.setTop (mkF m 61 #[.val (.int p1), .val (.int (3 : Int32)), .val (.ref b315), .val (.ref b322), .unset, .unset] [(.int (3 : Int32))])) _
      refine XS.iconst X354.here hx rfl (hb hby at_61) ?_
      show Steps p.tables e below (T354.setTop (mkF m 62 #[.val (.int p1), .val (.int (3 : Int32)), .val (.ref b315), .val (.ref b322), .unset, .unset] [(.int (2 : Int32)), (.int (3 : Int32))])) _
      refine XS.icmpYes X354.here hx rfl (pc0 := 62) (pc' := 73) rfl (hb hby at_62) rfl (feq (by decide : ¬ ((3 : Int32) = (2 : Int32)))).2 (by decide) (by decide) ?_
      show Steps p.tables e below (T354.setTop (mkF m 73 #[.val (.int p1), .val (.int (3 : Int32)), .val (.ref b315), .val (.ref b322), .unset, .unset] [])) _
      refine st355 _ ?_
      show Steps p.tables e below (T355.setTop (mkF m 76 #[.val (.int p1), .val (.int (3 : Int32)), .val (.ref b315), .val (.ref b322), .unset, .unset] [(.ref (A 3))])) _
      refine XS.astore X355.here hx rfl (hb hby at_76) rfl rfl (l' := #[.val (.int p1), .val (.int (3 : Int32)), .val (.ref b315), .val (.ref b322), .val (.ref (A 3)), .unset]) rfl ?_
      show Steps p.tables e below (T355.setTop (mkF m 78 #[.val (.int p1), .val (.int (3 : Int32)), .val (.ref b315), .val (.ref b322), .val (.ref (A 3)), .unset] [])) _
      refine XS.aloadN X355.here hx rfl (hb hby at_78) rfl rfl ?_
      show Steps p.tables e below (T355.setTop (mkF m 79 #[.val (.int p1), .val (.int (3 : Int32)), .val (.ref b315), .val (.ref b322), .val (.ref (A 3)), .unset] [(.ref b322)])) _
      refine st455 _ ?_
      show Steps p.tables e below (T455.setTop (mkF m 82 #[.val (.int p1), .val (.int (3 : Int32)), .val (.ref b315), .val (.ref b322), .val (.ref (A 3)), .unset] [(.ref (A 3))])) _
      refine XS.astore X455.here hx rfl (hb hby at_82) rfl rfl (l' := #[.val (.int p1), .val (.int (3 : Int32)), .val (.ref b315), .val (.ref b322), .val (.ref (A 3)), .val (.ref (A 3))]) rfl ?_
      show Steps p.tables e below (T455.setTop (mkF m 84 #[.val (.int p1), .val (.int (3 : Int32)), .val (.ref b315), .val (.ref b322), .val (.ref (A 3)), .val (.ref (A 3))] [])) _
      refine XS.aload X455.here hx rfl (hb hby at_84) rfl rfl ?_
      show Steps p.tables e below (T455.setTop (mkF m 86 #[.val (.int p1), .val (.int (3 : Int32)), .val (.ref b315), .val (.ref b322), .val (.ref (A 3)), .val (.ref (A 3))] [(.ref (A 3))])) _
      refine XS.aload X455.here hx rfl (hb hby at_86) rfl rfl ?_
      show Steps p.tables e below (T455.setTop (mkF m 88 #[.val (.int p1), .val (.int (3 : Int32)), .val (.ref b315), .val (.ref b322), .val (.ref (A 3)), .val (.ref (A 3))] [(.ref (A 3)), (.ref (A 3))])) _
      refine Jvm.RoadKit.acmp (g := (mkF m 88 #[.val (.int p1), .val (.int (3 : Int32)), .val (.ref b315), .val (.ref b322), .val (.ref (A 3)), .val (.ref (A 3))] [(.ref (A 3)), (.ref (A 3))])) X455 hx rfl rfl rfl (pc0 := 88) (pc' := 91) (same := true) rfl (hb hby at_88) rfl (decide_eq_true rfl) (by decide) (by decide) ?_
      show Steps p.tables e below (T455.setTop (mkF m 91 #[.val (.int p1), .val (.int (3 : Int32)), .val (.ref b315), .val (.ref b322), .val (.ref (A 3)), .val (.ref (A 3))] [])) _
      refine XS.aload X455.here hx rfl (hb hby at_91) rfl rfl ?_
      show Steps p.tables e below (T455.setTop (mkF m 93 #[.val (.int p1), .val (.int (3 : Int32)), .val (.ref b315), .val (.ref b322), .val (.ref (A 3)), .val (.ref (A 3))] [(.ref (A 3))])) _
      refine st457.trans ?_
      show Steps p.tables e below (T457.setTop (mkF m 96 #[.val (.int p1), .val (.int (3 : Int32)), .val (.ref b315), .val (.ref b322), .val (.ref (A 3)), .val (.ref (A 3))] [(.ref (A 8))])) _
      refine XS.aloadN X457.here hx rfl (hb hby at_96) rfl rfl ?_
      show Steps p.tables e below (T457.setTop (mkF m 97 #[.val (.int p1), .val (.int (3 : Int32)), .val (.ref b315), .val (.ref b322), .val (.ref (A 3)), .val (.ref (A 3))] [(.ref b322), (.ref (A 8))])) _
      refine st462.trans ?_
      show Steps p.tables e below (T462.setTop (mkF m 100 #[.val (.int p1), .val (.int (3 : Int32)), .val (.ref b315), .val (.ref b322), .val (.ref (A 3)), .val (.ref (A 3))] [(.int (1 : Int32))])) _
      refine XS.ifNo X462.here hx rfl (hb hby at_100) rfl ((if0 _ _).trans (feq (by decide : ¬ ((1 : Int32) = (0 : Int32)))).1) ?_
      show Steps p.tables e below (T462.setTop (mkF m 103 #[.val (.int p1), .val (.int (3 : Int32)), .val (.ref b315), .val (.ref b322), .val (.ref (A 3)), .val (.ref (A 3))] [])) _
      refine XS.iconst X462.here hx rfl (hb hby at_103) ?_
      show Steps p.tables e below (T462.setTop (mkF m 104 #[.val (.int p1), .val (.int (3 : Int32)), .val (.ref b315), .val (.ref b322), .val (.ref (A 3)), .val (.ref (A 3))] [(.int (1 : Int32))])) _
      refine XS.goto X462.here hx rfl (pc0 := 104) (pc' := 108) rfl (hb hby at_104) (by decide) (by decide) ?_
      show Steps p.tables e below (T462.setTop (mkF m 108 #[.val (.int p1), .val (.int (3 : Int32)), .val (.ref b315), .val (.ref b322), .val (.ref (A 3)), .val (.ref (A 3))] [(.int (1 : Int32))])) _
      exact retN X462 hx (t := .boolean) Bd.returns (by simp) (hb hby at_108) hr
    · show LQ n0 _ T462.heap _
      exact ⟨rfl, N462, trivial⟩
  | kk + 4, h, _ => exact absurd h (by omega)
set_option maxRecDepth 65536 in
set_option maxHeartbeats 40000000 in
theorem comes_1 {Post : Tables → Env → Array Value → State → Outcome → State → Prop} (hpost : ∀ tb e args s v u, (limb_1_1.after args s (.returned v) u = true ∧ limb_1_2.after args s (.returned v) u = true ∧ True) → FrameEnd s (.returned v) u (Jvm.fieldLocs frame_1_writes args s ++ Jvm.arrayLocs frame_1_arrays args s ++ Jvm.staticLocs frame_1_statics s) 16 128 → Post tb e args s (.returned v) u) :
    ArmFor flags0 classFile x code maxLocals ret World_1 tables_1 room_1 Calls_1 rest_1 Pre_1 Post := by
  intro l hfl _ _ p e ha hc hk s m args below hf hA hF happ hP
  obtain ⟨hcalls, hrest, hpre⟩ := hP
  obtain ⟨-, -, -, hnamed, -, -, -, hat⟩ := (Spec.applies_iff hf).mp happ
  obtain ⟨hg, hn⟩ := and_e (Cond.before_iff.mp (show (Jvm.Cond.and given_1 narrow_1).before args s = true from hpre))
  obtain ⟨gA0, gB0⟩ := and_e hg
  obtain ⟨w0, rfl⟩ : ∃ w0 : Value, args = #[w0] := by
    have hs : args.size = 1 := by simpa [Cond.value, given_1] using gA0
    obtain ⟨L⟩ := args
    match L, hs with
    | [w0], _ => exact ⟨w0, rfl⟩
  have hw := fun d (hd : d ∈ tables_1) => atoms_spec (ws := Jvm.Cond.code x code maxLocals ret :: tables_1) hat d (List.mem_cons_of_mem _ hd)
  have hfit : Fit s := fun {y c} hc i hi => by
    obtain ⟨ha, rfl⟩ := Array.getElem?_eq_some_iff.mp hc
    have q := List.all_eq_true.mp ((Array.all_eq_true_iff_forall_mem.mp hF) _ (Array.getElem_mem ha)) i (List.mem_range.mpr hi)
    simpa [Array.getElem?_eq_getElem hi] using q
  obtain ⟨hsets, hown0⟩ := atoms_of _ (rest_1_c_eq ▸ (show rest_1_c.before _ s = true from hrest))
  have hr0 := Cond.before_iff.mp hown0
  obtain ⟨i0, ei0⟩ := is_v gB0
  obtain rfl : w0 = (.int i0) := Option.some.inj ei0
  obtain ⟨hx0, hr0⟩ := and_e hn
  obtain ⟨hx1, hr1⟩ := and_e hr0
  obtain ⟨hx2, hr2⟩ := and_e hr1
  obtain ⟨hx3, hr3⟩ := and_e hr2
  obtain ⟨hx4, hr4⟩ := and_e hr3
  obtain ⟨hx5, hr5⟩ := and_e hr4
  obtain ⟨hx6, hr6⟩ := and_e hr5
  obtain ⟨hx7, hr7⟩ := and_e hr6
  obtain ⟨hx8, hr8⟩ := and_e hr7
  obtain ⟨hx9, hr9⟩ := and_e hr8
  obtain ⟨hx10, hr10⟩ := and_e hr9
  obtain ⟨hx11, hr11⟩ := and_e hr10
  obtain ⟨hx12, hr12⟩ := and_e hr11
  obtain ⟨hx13, hr13⟩ := and_e hr12
  obtain ⟨hx14, hr14⟩ := and_e hr13
  obtain ⟨hx15, hr15⟩ := and_e hr14
  obtain ⟨hx16, hr16⟩ := and_e hr15
  obtain ⟨hx17, hr17⟩ := and_e hr16
  obtain ⟨hx18, hr18⟩ := and_e hr17
  obtain ⟨hx19, hr19⟩ := and_e hr18
  obtain ⟨hx20, hr20⟩ := and_e hr19
  obtain ⟨hx21, hr21⟩ := and_e hr20
  obtain ⟨hx22, hr22⟩ := and_e hr21
  obtain ⟨hx23, hr23⟩ := and_e hr22
  obtain ⟨hx24, hr24⟩ := and_e hr23
  obtain ⟨hx25, hr25⟩ := and_e hr24
  obtain ⟨hx26, hr26⟩ := and_e hr25
  obtain ⟨hx27, hr27⟩ := and_e hr26
  obtain ⟨hx28, hr28⟩ := and_e hr27
  obtain ⟨hx29, hr29⟩ := and_e hr28
  obtain ⟨hx30, hr30⟩ := and_e hr29
  obtain ⟨hx31, hr31⟩ := and_e hr30
  obtain ⟨hx32, hr32⟩ := and_e hr31
  obtain ⟨hx33, hr33⟩ := and_e hr32
  obtain ⟨hx34, hr34⟩ := and_e hr33
  obtain ⟨hx35, hr35⟩ := and_e hr34
  obtain ⟨hx36, hr36⟩ := and_e hr35
  obtain ⟨hx37, hr37⟩ := and_e hr36
  obtain ⟨aS0, eS0⟩ := exa_v hx0
  obtain ⟨aS1, eS1⟩ := exa_v hx5
  obtain ⟨aS2, eS2⟩ := exa_v hx7
  obtain ⟨aS3, eS3⟩ := exa_v hx9
  obtain ⟨aS4, eS4⟩ := exa_v hx2
  obtain ⟨aS5, eS5⟩ := exa_v hx11
  obtain ⟨aS6, eS6⟩ := exa_v hx18
  obtain ⟨aS7, eS7⟩ := exa_v hx25
  obtain ⟨aS8, eS8⟩ := exa_v hx32
  obtain ⟨aS9, eS9⟩ := arr_v hx13
  obtain ⟨aS10, eS10⟩ := arr_v hx20
  obtain ⟨aS11, eS11⟩ := arr_v hx27
  obtain ⟨aS12, eS12⟩ := arr_v hx34
  obtain ⟨cS4, ArS4, szS4, lnS4⟩ := own_len eS4 hx1 hx3 (by decide)
  obtain ⟨cS9, ArS9, szS9, lnS9⟩ := own_len eS9 hx13 hx14 (by decide)
  obtain ⟨cS10, ArS10, szS10, lnS10⟩ := own_len eS10 hx20 hx21 (by decide)
  obtain ⟨cS11, ArS11, szS11, lnS11⟩ := own_len eS11 hx27 hx28 (by decide)
  obtain ⟨cS12, ArS12, szS12, lnS12⟩ := own_len eS12 hx34 hx35 (by decide)
  obtain ⟨cs, eCS⟩ := is_v (Cond.before_iff.mp (hsets _ (List.mem_of_getElem? (i := 1) rfl)))
  have hCS : ¬ (cs = (0 : Int32)) := own_csne eCS (Cond.before_iff.mp (hsets _ (List.mem_of_getElem? (i := 2) rfl)))
  have EN : own_St s (fun n => [aS0, aS1, aS2, aS3, aS4, aS5, aS6, aS7, aS8, aS9, aS10, aS11, aS12].getD n 0) (fun n => [cS4.cls, cS9.cls, cS10.cls, cS11.cls, cS12.cls].getD n 0) cs := ⟨⟨Sta.start eS0 (Or.inr ⟨(hw _ (List.mem_of_getElem? (i := 31) rfl)), (hw _ (List.mem_of_getElem? (i := 32) rfl))⟩), Exa.start eS0 hx0, Sta.start eS1 (Or.inr ⟨(hw _ (List.mem_of_getElem? (i := 31) rfl)), (hw _ (List.mem_of_getElem? (i := 48) rfl))⟩), Exa.start eS1 hx5, Sta.start eS2 (Or.inr ⟨(hw _ (List.mem_of_getElem? (i := 31) rfl)), (hw _ (List.mem_of_getElem? (i := 49) rfl))⟩), Exa.start eS2 hx7, Sta.start eS3 (Or.inr ⟨(hw _ (List.mem_of_getElem? (i := 31) rfl)), (hw _ (List.mem_of_getElem? (i := 50) rfl))⟩), Exa.start eS3 hx9, trivial⟩, ⟨Sta.start eS4 (Or.inl (hw _ (List.mem_of_getElem? (i := 51) rfl))), Exa.start eS4 hx2, Arv.start hfit ArS4 szS4 lnS4 (by decide) rfl ⟨own_elem eS4 ArS4 (own_eqv eS0 hx4), own_elem eS4 ArS4 (own_eqv eS1 hx6), own_elem eS4 ArS4 (own_eqv eS2 hx8), own_elem eS4 ArS4 (own_eqv eS3 hx10), trivial⟩, own_fld eS0 eS5, Exa.start eS5 hx11, own_fld eS1 eS6, Exa.start eS6 hx18, own_fld eS2 eS7, trivial⟩, ⟨Exa.start eS7 hx25, own_fld eS3 eS8, Exa.start eS8 hx32, own_fld eS5 eS9, Arv.start hfit ArS9 szS9 lnS9 (by decide) rfl ⟨own_elem eS9 ArS9 (own_eqv (Term.int_eval _) hx15), own_elem eS9 ArS9 (own_eqv (Term.int_eval _) hx16), own_elem eS9 ArS9 (own_eqv (Term.int_eval _) hx17), trivial⟩, own_fld eS6 eS10, Arv.start hfit ArS10 szS10 lnS10 (by decide) rfl ⟨own_elem eS10 ArS10 (own_eqv (Term.int_eval _) hx22), own_elem eS10 ArS10 (own_eqv (Term.int_eval _) hx23), own_elem eS10 ArS10 (own_eqv (Term.int_eval _) hx24), trivial⟩, own_fld eS7 eS11, trivial⟩, ⟨Arv.start hfit ArS11 szS11 lnS11 (by decide) rfl ⟨own_elem eS11 ArS11 (own_eqv (Term.int_eval _) hx29), own_elem eS11 ArS11 (own_eqv (Term.int_eval _) hx30), own_elem eS11 ArS11 (own_eqv (Term.int_eval _) hx31), trivial⟩, own_fld eS8 eS12, Arv.start hfit ArS12 szS12 lnS12 (by decide) rfl ⟨own_elem eS12 ArS12 (own_eqv (Term.int_eval _) hx36), own_elem eS12 ArS12 (own_eqv (Term.int_eval _) hx37), own_elem eS12 ArS12 (own_eqv (Term.int_eval _) hr37), trivial⟩, Sta.start eCS (Or.inl (hsets _ (List.mem_of_getElem? (i := 0) rfl))), hCS, own_orref (Cond.before_iff.mp (hsets _ (List.mem_of_getElem? (i := 8) rfl))) (Or.inl (hsets _ (List.mem_of_getElem? (i := 7) rfl))), own_fld eS5 (own_eqv (Term.int_eval _) hx12), own_fld eS6 (own_eqv (Term.int_eval _) hx19), trivial⟩, ⟨own_fld eS7 (own_eqv (Term.int_eval _) hx26), own_fld eS8 (own_eqv (Term.int_eval _) hx33), trivial⟩, trivial⟩
  obtain ⟨n, o, h1, h2, h3, _, L, rfl, hQ, hq⟩ := rm0 l s _ hw tables_1 s.heap s.heap.size i0 (fun n => [aS0, aS1, aS2, aS3, aS4, aS5, aS6, aS7, aS8, aS9, aS10, aS11, aS12].getD n 0) (fun n => [cS4.cls, cS9.cls, cS10.cls, cS11.cls, cS12.cls].getD n 0) cs EN (Old.start s) p e ha hc hk s m _ below hf ((Spec.applies_iff_loose hf).mp happ).1 ⟨rfl, State.Warmed39.refl s, rfl⟩ trivial
  obtain ⟨rfl, N, -⟩ := hQ
  refine ⟨n, _, h1, h2, h3, hpost _ _ _ _ _ _ ⟨Cond.after_iff.mpr rfl, Cond.after_iff.mpr (eq_i res_at (Term.int_eval (1)) rfl), trivial⟩ ⟨hq.1, hq.2.1, (hq.2.2.sift fun y hy => Or.inr (N y hy)).mono (by decide) (by decide)⟩⟩
theorem main_1_1 : Claimed_1_1 := comes_1 fun _ _ _ _ _ _ h hF => ⟨h.1, hF⟩
theorem main_1_2 : Claimed_1_2 := comes_1 fun _ _ _ _ _ _ h hF => ⟨h.2.1, hF⟩
end Jvm.Pilot.@@N@@
namespace Jvm.Pilot.@@N@@
open Jvm Jvm.ClassFile Sem Op Lib Jvm.Free Jvm.Stand Jvm.Pilot.@@N@@.Jvm.D
/-! MADE BY PROGRAM (witnessworld.py) out of the Statement's table words and the real class files: 22 classes; the members and pool entries that the words name. The judged class is class 1, her method 1. -/
namespace start1
open Jvm.ClassFile
def u (s : String) : CpInfo := .utf8 (stringToUtf16 s)
/-- a pool by its gaps: so many unusable entries, then the entry; so many at the end -/
def gap : Nat → List CpInfo → List CpInfo
  | 0, r => r
  | n + 1, r => .unusable :: gap n r
def poolList (es : List (Nat × CpInfo)) (last : Nat) : List CpInfo := es.foldr (fun e r => gap e.1 (e.2 :: r)) (gap last [])
def pool (es : List (Nat × CpInfo)) (last : Nat) : Array CpInfo := ⟨poolList es last⟩
def fileOf (pool : Array CpInfo) (this : Nat) (attrs : Array Attribute := #[]) (ms : Array MethodInfo := #[]) (fl : Nat := 33) (sup : Nat := 0) (ifs : Array Nat := #[]) (fds : Array FieldInfo := #[]) : ClassFile where
  minorVersion := 0
  majorVersion := 65
  constantPool := pool
  accessFlags := fl
  thisClass := this
  superClass := sup
  interfaces := ifs
  fields := fds
  methods := ms
  attributes := attrs
def plain (name : String) (sup : Option ClassId) : Class where
  name := name
  kind := .ordinary
  loader := none
  accessFlags := 33
  super := sup
  interfaces := #[]
  cf := none
  fields := #[]
  methods := #[]
  instanceTypes := #[]
  staticTypes := #[]
  resolved := #[]
  callSites := []
  init := .initialized
  statics := none
  mirror := none

def pool0 : Array CpInfo := pool [(5, u "<init>"), (0, u "()V"), (1, .class_ 10), (1, u "java/lang/Object"), (85, u "clone"), (0, u "()Ljava/lang/Object;")] 26

def k0c0 : Code := { maxStack := 0, maxLocals := 1, code := object_method_1_code, exceptionTable := #[], attributes := #[] }
def k0m0 : Method := { name := "<init>", desc := "()V", sig := { parameters := [], returnType := none }, accessFlags := 1, code := some k0c0 }
def k0m1 : Method := { name := "clone", desc := "()Ljava/lang/Object;", sig := { parameters := [], returnType := some (.object "java/lang/Object") }, accessFlags := 260, code := none }
/-- java/lang/Object -/
def k0 : Class := { plain "java/lang/Object" none with
  accessFlags := 33
  interfaces := #[]
  cf := some (fileOf pool0 8 #[] #[{ accessFlags := 1, nameIndex := 5, descriptorIndex := 6, attributes := #[] }, { accessFlags := 260, nameIndex := 96, descriptorIndex := 97, attributes := #[] }] 33 0 #[] #[])
  fields := #[]
  methods := #[k0m0, k0m1]
  instanceTypes := #[]
  staticTypes := #[]
  resolved := Array.replicate 124 none
  statics := none }

def pool1 : Array CpInfo := pool [(2, .class_ 4), (1, u "java/lang/Object"), (0, u "<init>"), (0, u "()V"), (0, .class_ 8), (0, u "java/lang/String"), (0, .methodref 7 10), (0, .nameAndType 5 11), (0, u "([C)V"), (0, .fieldref 13 14), (0, .class_ 15), (0, .nameAndType 16 17), (0, u "com/example/dongl/dongl/crypto/ProtocolVersion"), (0, u "V3_0"), (0, u "Lcom/example/dongl/dongl/crypto/ProtocolVersion;"), (0, .fieldref 13 19), (0, .nameAndType 20 17), (0, u "V3_1"), (0, .fieldref 13 22), (0, .nameAndType 23 17), (0, u "V3_2"), (0, .fieldref 13 25), (0, .nameAndType 26 17), (0, u "V3_3"), (0, .methodref 13 28), (0, .nameAndType 29 30), (0, u "of"), (0, u "(Ljava/lang/String;)Lcom/example/dongl/dongl/crypto/ProtocolVersion;"), (0, .methodref 13 32), (0, .nameAndType 33 34), (0, u "text"), (0, u "()Ljava/lang/String;"), (0, .methodref 7 36), (0, .nameAndType 37 38), (0, u "equals"), (0, u "(Ljava/lang/Object;)Z"), (0, .class_ 40), (0, u "com/example/dongl/dongl/crypto/ProtocolVersionOfPinLaw"), (2, u "law"), (0, u "(I)Z")] 5

def k1m0 : Method := { name := "<init>", desc := "()V", sig := { parameters := [], returnType := none }, accessFlags := 1, code := none }
def k1c1 : Code := { maxStack := 4, maxLocals := 6, code := code, exceptionTable := #[], attributes := #[] }
def k1m1 : Method := { name := "law", desc := "(I)Z", sig := { parameters := [.int], returnType := some .boolean }, accessFlags := 9, code := some k1c1 }
/-- com/example/dongl/dongl/crypto/ProtocolVersionOfPinLaw -/
def k1 : Class := { plain "com/example/dongl/dongl/crypto/ProtocolVersionOfPinLaw" (some 0) with
  accessFlags := 49
  interfaces := #[]
  cf := some (fileOf pool1 39 #[] #[{ accessFlags := 1, nameIndex := 5, descriptorIndex := 6, attributes := #[] }, { accessFlags := 9, nameIndex := 43, descriptorIndex := 44, attributes := #[] }] 49 2 #[] #[])
  fields := #[]
  methods := #[k1m0, k1m1]
  instanceTypes := #[]
  staticTypes := #[]
  resolved := Array.replicate 50 none
  statics := none }

def pool2 : Array CpInfo := pool [(1, .class_ 2), (0, u "java/io/Serializable"), (0, .class_ 4), (0, u "java/lang/Object")] 2

/-- java/io/Serializable -/
def k2 : Class := { plain "java/io/Serializable" (some 0) with
  accessFlags := 1537
  interfaces := #[]
  cf := some (fileOf pool2 1 #[] #[] 1537 3 #[] #[])
  fields := #[]
  methods := #[]
  instanceTypes := #[]
  staticTypes := #[]
  resolved := Array.replicate 7 none
  statics := none }

def pool3 : Array CpInfo := pool [(1, .class_ 2), (0, u "java/lang/Comparable"), (0, .class_ 4), (0, u "java/lang/Object")] 7

/-- java/lang/Comparable -/
def k3 : Class := { plain "java/lang/Comparable" (some 0) with
  accessFlags := 1537
  interfaces := #[]
  cf := some (fileOf pool3 1 #[] #[] 1537 3 #[] #[])
  fields := #[]
  methods := #[]
  instanceTypes := #[]
  staticTypes := #[]
  resolved := Array.replicate 12 none
  statics := none }

def pool4 : Array CpInfo := pool [(2, .class_ 4), (1, u "java/lang/CharSequence"), (42, .class_ 48), (0, u "java/lang/CharSequence$1CodePointIterator"), (10, .class_ 60), (0, u "java/lang/CharSequence$1CharIterator"), (5, .class_ 67), (0, u "java/lang/Object")] 63

/-- java/lang/CharSequence -/
def k4 : Class := { plain "java/lang/CharSequence" (some 0) with
  accessFlags := 1537
  interfaces := #[]
  cf := some (fileOf pool4 2 #[.nestMembers #[47, 59]] #[] 1537 66 #[] #[])
  fields := #[]
  methods := #[]
  instanceTypes := #[]
  staticTypes := #[]
  resolved := Array.replicate 131 none
  statics := none }

def pool5 : Array CpInfo := pool [(1, .class_ 2), (0, u "java/lang/constant/Constable"), (0, .class_ 4), (0, u "java/lang/Object")] 6

/-- java/lang/constant/Constable -/
def k5 : Class := { plain "java/lang/constant/Constable" (some 0) with
  accessFlags := 1537
  interfaces := #[]
  cf := some (fileOf pool5 1 #[] #[] 1537 3 #[] #[])
  fields := #[]
  methods := #[]
  instanceTypes := #[]
  staticTypes := #[]
  resolved := Array.replicate 11 none
  statics := none }

def pool6 : Array CpInfo := pool [(1, .class_ 2), (0, u "java/lang/constant/ConstantDesc"), (0, .class_ 4), (0, u "java/lang/Object")] 32

/-- java/lang/constant/ConstantDesc -/
def k6 : Class := { plain "java/lang/constant/ConstantDesc" (some 0) with
  accessFlags := 1537
  interfaces := #[]
  cf := some (fileOf pool6 1 #[] #[] 1537 3 #[] #[])
  fields := #[]
  methods := #[]
  instanceTypes := #[]
  staticTypes := #[]
  resolved := Array.replicate 37 none
  statics := none }

def pool7 : Array CpInfo := pool [(1, .methodref 2 3), (0, .class_ 4), (0, .nameAndType 5 6), (0, u "java/lang/Object"), (0, u "<init>"), (0, u "()V"), (2, .fieldref 10 11), (0, .class_ 12), (0, .nameAndType 13 14), (0, u "java/lang/String"), (0, u "value"), (0, u "[B"), (0, .fieldref 10 16), (0, .nameAndType 17 18), (0, u "coder"), (0, u "B"), (2, u "hash"), (0, u "I"), (2, u "hashIsZero"), (0, u "Z"), (0, .methodref 10 28), (0, .nameAndType 5 29), (0, u "([CIILjava/lang/Void;)V"), (8, .fieldref 10 39), (0, .nameAndType 40 26), (0, u "COMPACT_STRINGS"), (1, .class_ 44), (1, u "java/lang/StringUTF16"), (0, u "compress"), (1, .methodref 42 48), (0, .nameAndType 49 50), (0, u "coderFromArrayLen"), (0, u "([BI)B"), (56, .class_ 109), (1, u "java/lang/StringLatin1"), (67, .methodref 42 178), (0, .nameAndType 45 179), (0, u "([CII)[B"), (361, .methodref 107 542), (0, .nameAndType 543 544), (0, u "equals"), (0, u "([B[B)Z"), (28, u "(Ljava/lang/Object;)Z"), (1, .class_ 576), (0, u "java/lang/CharSequence"), (22, u "CASE_INSENSITIVE_ORDER"), (0, u "Ljava/util/Comparator;"), (409, u "([C)V"), (90, u "serialPersistentFields"), (0, u "[Ljava/io/ObjectStreamField;"), (0, .class_ 1104), (0, u "java/lang/String$CaseInsensitiveComparator"), (1, .class_ 1107), (0, u "java/io/Serializable"), (0, .class_ 1109), (0, u "java/lang/Comparable"), (0, .class_ 1111), (0, u "java/lang/constant/Constable"), (0, .class_ 1113), (0, u "java/lang/constant/ConstantDesc"), (2, u "serialVersionUID"), (0, u "J"), (3, u "REPL"), (0, u "C"), (2, u "LATIN1"), (1, u "UTF16")] 323

def k7m0 : Method := { name := "<init>", desc := "()V", sig := { parameters := [], returnType := none }, accessFlags := 1, code := none }
def k7c1 : Code := { maxStack := 5, maxLocals := 2, code := jdk_42_method_3_code, exceptionTable := #[], attributes := #[] }
def k7m1 : Method := { name := "<init>", desc := "([C)V", sig := { parameters := [(.array .char)], returnType := none }, accessFlags := 1, code := some k7c1 }
def k7c2 : Code := { maxStack := 2, maxLocals := 3, code := jdk_42_method_66_code, exceptionTable := #[], attributes := #[] }
def k7m2 : Method := { name := "equals", desc := "(Ljava/lang/Object;)Z", sig := { parameters := [(.object "java/lang/Object")], returnType := some .boolean }, accessFlags := 1, code := some k7c2 }
def k7c3 : Code := { maxStack := 4, maxLocals := 6, code := jdk_42_method_149_code, exceptionTable := #[], attributes := #[] }
def k7m3 : Method := { name := "<init>", desc := "([CIILjava/lang/Void;)V", sig := { parameters := [(.array .char), .int, .int, (.object "java/lang/Void")], returnType := none }, accessFlags := 2, code := some k7c3 }
/-- java/lang/String -/
def k7 : Class := { plain "java/lang/String" (some 0) with
  accessFlags := 49
  interfaces := #[2, 3, 4, 5, 6]
  cf := some (fileOf pool7 10 #[.nestMembers #[1103]] #[{ accessFlags := 1, nameIndex := 5, descriptorIndex := 6, attributes := #[] }, { accessFlags := 1, nameIndex := 5, descriptorIndex := 1010, attributes := #[] }, { accessFlags := 1, nameIndex := 543, descriptorIndex := 573, attributes := #[] }, { accessFlags := 2, nameIndex := 5, descriptorIndex := 29, attributes := #[] }] 49 2 #[1106, 1108, 575, 1110, 1112] #[{ accessFlags := 18, nameIndex := 13, descriptorIndex := 14, attributes := #[] }, { accessFlags := 18, nameIndex := 17, descriptorIndex := 18, attributes := #[] }, { accessFlags := 2, nameIndex := 21, descriptorIndex := 22, attributes := #[] }, { accessFlags := 2, nameIndex := 25, descriptorIndex := 26, attributes := #[] }, { accessFlags := 26, nameIndex := 1116, descriptorIndex := 1117, attributes := #[] }, { accessFlags := 24, nameIndex := 40, descriptorIndex := 26, attributes := #[] }, { accessFlags := 26, nameIndex := 1101, descriptorIndex := 1102, attributes := #[] }, { accessFlags := 26, nameIndex := 1121, descriptorIndex := 1122, attributes := #[] }, { accessFlags := 25, nameIndex := 599, descriptorIndex := 600, attributes := #[] }, { accessFlags := 24, nameIndex := 1125, descriptorIndex := 18, attributes := #[] }, { accessFlags := 24, nameIndex := 1127, descriptorIndex := 18, attributes := #[] }])
  fields := #[{ name := "value", type := (.array .byte), accessFlags := 18, slot := 0, constantValue := 0 }, { name := "coder", type := .byte, accessFlags := 18, slot := 1, constantValue := 0 }, { name := "hash", type := .int, accessFlags := 2, slot := 2, constantValue := 0 }, { name := "hashIsZero", type := .boolean, accessFlags := 2, slot := 3, constantValue := 0 }, { name := "serialVersionUID", type := .long, accessFlags := 26, slot := 0, constantValue := 0 }, { name := "COMPACT_STRINGS", type := .boolean, accessFlags := 24, slot := 1, constantValue := 0 }, { name := "serialPersistentFields", type := (.array (.object "java/io/ObjectStreamField")), accessFlags := 26, slot := 2, constantValue := 0 }, { name := "REPL", type := .char, accessFlags := 26, slot := 3, constantValue := 0 }, { name := "CASE_INSENSITIVE_ORDER", type := (.object "java/util/Comparator"), accessFlags := 25, slot := 4, constantValue := 0 }, { name := "LATIN1", type := .byte, accessFlags := 24, slot := 5, constantValue := 0 }, { name := "UTF16", type := .byte, accessFlags := 24, slot := 6, constantValue := 0 }]
  methods := #[k7m0, k7m1, k7m2, k7m3]
  instanceTypes := #[(.array .byte), .byte, .int, .boolean]
  staticTypes := #[.long, .boolean, (.array (.object "java/io/ObjectStreamField")), .char, (.object "java/util/Comparator"), .byte, .byte]
  resolved := Array.replicate 1451 none
  statics := some 0 }

def pool8 : Array CpInfo := pool [(6, .class_ 8), (1, u "java/lang/Object"), (0, u "<init>"), (0, u "()V"), (1, .class_ 14), (1, u "java/lang/StringUTF16"), (31, u "$assertionsDisabled"), (0, u "Z"), (13, u "HI_BYTE_SHIFT"), (0, u "I"), (2, u "LO_BYTE_SHIFT"), (49, .methodref 12 116), (0, .nameAndType 117 118), (0, u "compress"), (0, u "([CI[BII)I"), (3, u "([CII)[B"), (138, u "coderFromArrayLen"), (0, u "([BI)B"), (106, .class_ 371), (1, u "java/lang/StringUTF16$LinesSpliterator"), (58, u "MAX_LENGTH"), (196, .class_ 628), (0, u "java/lang/StringUTF16$CodePointsSpliterator"), (0, .class_ 630), (0, u "java/lang/StringUTF16$CharsSpliterator")] 4

def k8m0 : Method := { name := "<init>", desc := "()V", sig := { parameters := [], returnType := none }, accessFlags := 0, code := none }
def k8c1 : Code := { maxStack := 2, maxLocals := 2, code := jdk_52_method_15_code, exceptionTable := #[], attributes := #[] }
def k8m1 : Method := { name := "coderFromArrayLen", desc := "([BI)B", sig := { parameters := [(.array .byte), .int], returnType := some .byte }, accessFlags := 8, code := some k8c1 }
def k8c2 : Code := { maxStack := 5, maxLocals := 6, code := jdk_52_method_16_code, exceptionTable := #[], attributes := #[] }
def k8m2 : Method := { name := "compress", desc := "([CII)[B", sig := { parameters := [(.array .char), .int, .int], returnType := some (.array .byte) }, accessFlags := 9, code := some k8c2 }
def k8c3 : Code := { maxStack := 3, maxLocals := 7, code := jdk_52_method_21_code, exceptionTable := #[], attributes := #[] }
def k8m3 : Method := { name := "compress", desc := "([CI[BII)I", sig := { parameters := [(.array .char), .int, (.array .byte), .int, .int], returnType := some .int }, accessFlags := 9, code := some k8c3 }
/-- java/lang/StringUTF16 -/
def k8 : Class := { plain "java/lang/StringUTF16" (some 0) with
  accessFlags := 48
  interfaces := #[]
  cf := some (fileOf pool8 12 #[.nestMembers #[627, 629, 369]] #[{ accessFlags := 0, nameIndex := 9, descriptorIndex := 10, attributes := #[] }, { accessFlags := 8, nameIndex := 261, descriptorIndex := 262, attributes := #[] }, { accessFlags := 9, nameIndex := 117, descriptorIndex := 122, attributes := #[] }, { accessFlags := 9, nameIndex := 117, descriptorIndex := 118, attributes := #[] }] 48 6 #[] #[{ accessFlags := 26, nameIndex := 61, descriptorIndex := 62, attributes := #[] }, { accessFlags := 26, nameIndex := 65, descriptorIndex := 62, attributes := #[] }, { accessFlags := 24, nameIndex := 430, descriptorIndex := 62, attributes := #[] }, { accessFlags := 4120, nameIndex := 46, descriptorIndex := 47, attributes := #[] }])
  fields := #[{ name := "HI_BYTE_SHIFT", type := .int, accessFlags := 26, slot := 0, constantValue := 0 }, { name := "LO_BYTE_SHIFT", type := .int, accessFlags := 26, slot := 1, constantValue := 0 }, { name := "MAX_LENGTH", type := .int, accessFlags := 24, slot := 2, constantValue := 0 }, { name := "$assertionsDisabled", type := .boolean, accessFlags := 4120, slot := 3, constantValue := 0 }]
  methods := #[k8m0, k8m1, k8m2, k8m3]
  instanceTypes := #[]
  staticTypes := #[.int, .int, .int, .boolean]
  resolved := Array.replicate 635 none
  statics := none }

def pool9 : Array CpInfo := pool [(2, .class_ 4), (1, u "java/lang/Enum"), (0, u "name"), (0, u "Ljava/lang/String;"), (2, u "ordinal"), (0, u "I"), (1, .class_ 14), (1, u "java/lang/Object"), (4, u "hash"), (86, .class_ 108), (1, u "java/lang/Enum$EnumDesc"), (2, .class_ 112), (0, u "java/lang/constant/Constable"), (0, .class_ 114), (0, u "java/lang/Comparable"), (0, .class_ 116), (0, u "java/io/Serializable")] 87

/-- java/lang/Enum -/
def k9 : Class := { plain "java/lang/Enum" (some 0) with
  accessFlags := 1057
  interfaces := #[5, 3, 2]
  cf := some (fileOf pool9 2 #[.nestMembers #[106]] #[] 1057 12 #[111, 113, 115] #[{ accessFlags := 18, nameIndex := 5, descriptorIndex := 6, attributes := #[] }, { accessFlags := 18, nameIndex := 9, descriptorIndex := 10, attributes := #[] }, { accessFlags := 2, nameIndex := 19, descriptorIndex := 10, attributes := #[] }])
  fields := #[{ name := "name", type := (.object "java/lang/String"), accessFlags := 18, slot := 0, constantValue := 0 }, { name := "ordinal", type := .int, accessFlags := 18, slot := 1, constantValue := 0 }, { name := "hash", type := .int, accessFlags := 2, slot := 2, constantValue := 0 }]
  methods := #[]
  instanceTypes := #[(.object "java/lang/String"), .int, .int]
  staticTypes := #[]
  resolved := Array.replicate 204 none
  statics := none }

def pool10 : Array CpInfo := pool [(1, .class_ 2), (0, u "com/example/dongl/dongl/crypto/ProtocolVersion"), (2, u "V3_0"), (0, u "Lcom/example/dongl/dongl/crypto/ProtocolVersion;"), (2, u "V3_1"), (2, u "V3_2"), (2, u "V3_3"), (0, .fieldref 1 17), (0, .nameAndType 18 19), (0, u "$VALUES"), (0, u "[Lcom/example/dongl/dongl/crypto/ProtocolVersion;"), (0, .methodref 21 22), (0, .class_ 19), (0, .nameAndType 23 24), (0, u "clone"), (0, u "()Ljava/lang/Object;"), (1, .class_ 28), (1, u "java/lang/Enum"), (6, .fieldref 1 36), (0, .nameAndType 37 38), (0, u "text"), (0, u "Ljava/lang/String;"), (0, .methodref 1 40), (0, .nameAndType 41 42), (0, u "values"), (0, u "()[Lcom/example/dongl/dongl/crypto/ProtocolVersion;"), (0, .methodref 44 45), (0, .class_ 46), (0, .nameAndType 47 48), (0, u "java/lang/String"), (0, u "equals"), (0, u "(Ljava/lang/Object;)Z"), (29, u "(Ljava/lang/String;)Lcom/example/dongl/dongl/crypto/ProtocolVersion;"), (2, u "of"), (1, u "()Ljava/lang/String;")] 20

def k10c0 : Code := { maxStack := 1, maxLocals := 0, code := prog_26_method_1_code, exceptionTable := #[], attributes := #[] }
def k10m0 : Method := { name := "values", desc := "()[Lcom/example/dongl/dongl/crypto/ProtocolVersion;", sig := { parameters := [], returnType := some (.array (.object "com/example/dongl/dongl/crypto/ProtocolVersion")) }, accessFlags := 9, code := some k10c0 }
def k10c1 : Code := { maxStack := 3, maxLocals := 5, code := prog_26_method_4_code, exceptionTable := #[], attributes := #[] }
def k10m1 : Method := { name := "of", desc := "(Ljava/lang/String;)Lcom/example/dongl/dongl/crypto/ProtocolVersion;", sig := { parameters := [(.object "java/lang/String")], returnType := some (.object "com/example/dongl/dongl/crypto/ProtocolVersion") }, accessFlags := 9, code := some k10c1 }
def k10c2 : Code := { maxStack := 1, maxLocals := 1, code := prog_26_method_5_code, exceptionTable := #[], attributes := #[] }
def k10m2 : Method := { name := "text", desc := "()Ljava/lang/String;", sig := { parameters := [], returnType := some (.object "java/lang/String") }, accessFlags := 1, code := some k10c2 }
/-- com/example/dongl/dongl/crypto/ProtocolVersion -/
def k10 : Class := { plain "com/example/dongl/dongl/crypto/ProtocolVersion" (some 9) with
  accessFlags := 16433
  interfaces := #[]
  cf := some (fileOf pool10 1 #[] #[{ accessFlags := 9, nameIndex := 41, descriptorIndex := 42, attributes := #[] }, { accessFlags := 9, nameIndex := 81, descriptorIndex := 78, attributes := #[] }, { accessFlags := 1, nameIndex := 37, descriptorIndex := 83, attributes := #[] }] 16433 26 #[] #[{ accessFlags := 16409, nameIndex := 5, descriptorIndex := 6, attributes := #[] }, { accessFlags := 16409, nameIndex := 9, descriptorIndex := 6, attributes := #[] }, { accessFlags := 16409, nameIndex := 12, descriptorIndex := 6, attributes := #[] }, { accessFlags := 16409, nameIndex := 15, descriptorIndex := 6, attributes := #[] }, { accessFlags := 18, nameIndex := 37, descriptorIndex := 38, attributes := #[] }, { accessFlags := 4122, nameIndex := 18, descriptorIndex := 19, attributes := #[] }])
  fields := #[{ name := "V3_0", type := (.object "com/example/dongl/dongl/crypto/ProtocolVersion"), accessFlags := 16409, slot := 0, constantValue := 0 }, { name := "V3_1", type := (.object "com/example/dongl/dongl/crypto/ProtocolVersion"), accessFlags := 16409, slot := 1, constantValue := 0 }, { name := "V3_2", type := (.object "com/example/dongl/dongl/crypto/ProtocolVersion"), accessFlags := 16409, slot := 2, constantValue := 0 }, { name := "V3_3", type := (.object "com/example/dongl/dongl/crypto/ProtocolVersion"), accessFlags := 16409, slot := 3, constantValue := 0 }, { name := "text", type := (.object "java/lang/String"), accessFlags := 18, slot := 3, constantValue := 0 }, { name := "$VALUES", type := (.array (.object "com/example/dongl/dongl/crypto/ProtocolVersion")), accessFlags := 4122, slot := 4, constantValue := 0 }]
  methods := #[k10m0, k10m1, k10m2]
  instanceTypes := #[(.object "java/lang/String"), .int, .int, (.object "java/lang/String")]
  staticTypes := #[(.object "com/example/dongl/dongl/crypto/ProtocolVersion"), (.object "com/example/dongl/dongl/crypto/ProtocolVersion"), (.object "com/example/dongl/dongl/crypto/ProtocolVersion"), (.object "com/example/dongl/dongl/crypto/ProtocolVersion"), (.array (.object "com/example/dongl/dongl/crypto/ProtocolVersion"))]
  resolved := Array.replicate 104 none
  statics := some 1 }

def pool11 : Array CpInfo := pool [(1, .class_ 2), (0, u "java/lang/Cloneable"), (0, .class_ 4), (0, u "java/lang/Object")] 2

/-- java/lang/Cloneable -/
def k11 : Class := { plain "java/lang/Cloneable" (some 0) with
  accessFlags := 1537
  interfaces := #[]
  cf := some (fileOf pool11 1 #[] #[] 1537 3 #[] #[])
  fields := #[]
  methods := #[]
  instanceTypes := #[]
  staticTypes := #[]
  resolved := Array.replicate 7 none
  statics := none }

def pool12 : Array CpInfo := pool [(4, .class_ 6), (1, u "java/lang/Object"), (0, u "<init>"), (0, u "()V"), (5, .class_ 16), (1, u "java/lang/StringLatin1"), (104, u "$assertionsDisabled"), (0, u "Z"), (98, .class_ 223), (1, u "java/lang/StringLatin1$LinesSpliterator"), (57, u "equals"), (0, u "([B[B)Z"), (107, .class_ 391), (0, u "java/lang/StringLatin1$CharsSpliterator")] 3

def k12m0 : Method := { name := "<init>", desc := "()V", sig := { parameters := [], returnType := none }, accessFlags := 0, code := none }
def k12c1 : Code := { maxStack := 3, maxLocals := 3, code := jdk_43_method_13_code, exceptionTable := #[], attributes := #[] }
def k12m1 : Method := { name := "equals", desc := "([B[B)Z", sig := { parameters := [(.array .byte), (.array .byte)], returnType := some .boolean }, accessFlags := 9, code := some k12c1 }
/-- java/lang/StringLatin1 -/
def k12 : Class := { plain "java/lang/StringLatin1" (some 0) with
  accessFlags := 48
  interfaces := #[]
  cf := some (fileOf pool12 14 #[.nestMembers #[390, 221]] #[{ accessFlags := 0, nameIndex := 7, descriptorIndex := 8, attributes := #[] }, { accessFlags := 9, nameIndex := 281, descriptorIndex := 282, attributes := #[] }] 48 4 #[] #[{ accessFlags := 4120, nameIndex := 121, descriptorIndex := 122, attributes := #[] }])
  fields := #[{ name := "$assertionsDisabled", type := .boolean, accessFlags := 4120, slot := 0, constantValue := 0 }]
  methods := #[k12m0, k12m1]
  instanceTypes := #[]
  staticTypes := #[.boolean]
  resolved := Array.replicate 395 none
  statics := none }

def pool13 : Array CpInfo := pool [(2, .class_ 4), (1, u "java/lang/Object"), (0, u "<init>"), (0, u "()V"), (17, .class_ 26), (1, u "jdk/internal/util/Preconditions"), (28, .class_ 56), (0, u "jdk/internal/util/Preconditions$4"), (57, .class_ 115), (0, u "jdk/internal/util/Preconditions$1"), (7, u "SIOOBE_FORMATTER"), (0, u "Ljava/util/function/BiFunction;"), (0, .class_ 126), (0, u "jdk/internal/util/Preconditions$2"), (3, u "AIOOBE_FORMATTER"), (0, .class_ 132), (0, u "jdk/internal/util/Preconditions$3"), (3, u "IOOBE_FORMATTER")] 57

def k13m0 : Method := { name := "<init>", desc := "()V", sig := { parameters := [], returnType := none }, accessFlags := 1, code := none }
/-- jdk/internal/util/Preconditions -/
def k13 : Class := { plain "jdk/internal/util/Preconditions" (some 0) with
  accessFlags := 33
  interfaces := #[]
  cf := some (fileOf pool13 24 #[.nestMembers #[55, 131, 125, 114]] #[{ accessFlags := 1, nameIndex := 5, descriptorIndex := 6, attributes := #[] }] 33 2 #[] #[{ accessFlags := 25, nameIndex := 123, descriptorIndex := 124, attributes := #[] }, { accessFlags := 25, nameIndex := 130, descriptorIndex := 124, attributes := #[] }, { accessFlags := 25, nameIndex := 136, descriptorIndex := 124, attributes := #[] }])
  fields := #[{ name := "SIOOBE_FORMATTER", type := (.object "java/util/function/BiFunction"), accessFlags := 25, slot := 0, constantValue := 0 }, { name := "AIOOBE_FORMATTER", type := (.object "java/util/function/BiFunction"), accessFlags := 25, slot := 1, constantValue := 0 }, { name := "IOOBE_FORMATTER", type := (.object "java/util/function/BiFunction"), accessFlags := 25, slot := 2, constantValue := 0 }]
  methods := #[k13m0]
  instanceTypes := #[]
  staticTypes := #[(.object "java/util/function/BiFunction"), (.object "java/util/function/BiFunction"), (.object "java/util/function/BiFunction")]
  resolved := Array.replicate 194 none
  statics := some 2 }

def pool14 : Array CpInfo := pool [(9, u "<init>"), (6, .class_ 18), (1, u "java/lang/Object"), (0, u "()V"), (1, .class_ 23), (1, u "jdk/internal/util/ArraysSupport"), (0, u "LOG2_ARRAY_LONG_INDEX_SCALE"), (0, u "I"), (2, u "U"), (0, u "Ljdk/internal/misc/Unsafe;"), (8, u "BIG_ENDIAN"), (0, u "Z"), (8, u "LOG2_BYTE_BIT_SIZE"), (4, u "LOG2_ARRAY_INT_INDEX_SCALE"), (54, u "JLA"), (0, u "Ljdk/internal/access/JavaLangAccess;"), (11, u "LOG2_ARRAY_BOOLEAN_INDEX_SCALE"), (9, u "LOG2_ARRAY_BYTE_INDEX_SCALE"), (5, u "LOG2_ARRAY_CHAR_INDEX_SCALE"), (5, u "LOG2_ARRAY_SHORT_INDEX_SCALE"), (18, u "LOG2_ARRAY_FLOAT_INDEX_SCALE"), (24, u "LOG2_ARRAY_DOUBLE_INDEX_SCALE"), (89, u "T_BOOLEAN"), (2, u "T_CHAR"), (1, u "T_FLOAT"), (1, u "T_DOUBLE"), (1, u "T_BYTE"), (1, u "T_SHORT"), (1, u "T_INT"), (1, u "T_LONG"), (1, u "SOFT_MAX_ARRAY_LENGTH")] 83

def k14m0 : Method := { name := "<init>", desc := "()V", sig := { parameters := [], returnType := none }, accessFlags := 2, code := none }
/-- jdk/internal/util/ArraysSupport -/
def k14 : Class := { plain "jdk/internal/util/ArraysSupport" (some 0) with
  accessFlags := 33
  interfaces := #[]
  cf := some (fileOf pool14 21 #[] #[{ accessFlags := 2, nameIndex := 9, descriptorIndex := 19, attributes := #[] }] 33 16 #[] #[{ accessFlags := 24, nameIndex := 28, descriptorIndex := 29, attributes := #[] }, { accessFlags := 26, nameIndex := 38, descriptorIndex := 39, attributes := #[] }, { accessFlags := 25, nameIndex := 121, descriptorIndex := 25, attributes := #[] }, { accessFlags := 25, nameIndex := 131, descriptorIndex := 25, attributes := #[] }, { accessFlags := 25, nameIndex := 137, descriptorIndex := 25, attributes := #[] }, { accessFlags := 25, nameIndex := 143, descriptorIndex := 25, attributes := #[] }, { accessFlags := 25, nameIndex := 53, descriptorIndex := 25, attributes := #[] }, { accessFlags := 25, nameIndex := 24, descriptorIndex := 25, attributes := #[] }, { accessFlags := 25, nameIndex := 162, descriptorIndex := 25, attributes := #[] }, { accessFlags := 25, nameIndex := 187, descriptorIndex := 25, attributes := #[] }, { accessFlags := 26, nameIndex := 48, descriptorIndex := 25, attributes := #[] }, { accessFlags := 25, nameIndex := 277, descriptorIndex := 25, attributes := #[] }, { accessFlags := 25, nameIndex := 280, descriptorIndex := 25, attributes := #[] }, { accessFlags := 25, nameIndex := 282, descriptorIndex := 25, attributes := #[] }, { accessFlags := 25, nameIndex := 284, descriptorIndex := 25, attributes := #[] }, { accessFlags := 25, nameIndex := 286, descriptorIndex := 25, attributes := #[] }, { accessFlags := 25, nameIndex := 288, descriptorIndex := 25, attributes := #[] }, { accessFlags := 25, nameIndex := 290, descriptorIndex := 25, attributes := #[] }, { accessFlags := 25, nameIndex := 292, descriptorIndex := 25, attributes := #[] }, { accessFlags := 26, nameIndex := 108, descriptorIndex := 109, attributes := #[] }, { accessFlags := 25, nameIndex := 294, descriptorIndex := 25, attributes := #[] }])
  fields := #[{ name := "U", type := (.object "jdk/internal/misc/Unsafe"), accessFlags := 24, slot := 0, constantValue := 0 }, { name := "BIG_ENDIAN", type := .boolean, accessFlags := 26, slot := 1, constantValue := 0 }, { name := "LOG2_ARRAY_BOOLEAN_INDEX_SCALE", type := .int, accessFlags := 25, slot := 2, constantValue := 0 }, { name := "LOG2_ARRAY_BYTE_INDEX_SCALE", type := .int, accessFlags := 25, slot := 3, constantValue := 0 }, { name := "LOG2_ARRAY_CHAR_INDEX_SCALE", type := .int, accessFlags := 25, slot := 4, constantValue := 0 }, { name := "LOG2_ARRAY_SHORT_INDEX_SCALE", type := .int, accessFlags := 25, slot := 5, constantValue := 0 }, { name := "LOG2_ARRAY_INT_INDEX_SCALE", type := .int, accessFlags := 25, slot := 6, constantValue := 0 }, { name := "LOG2_ARRAY_LONG_INDEX_SCALE", type := .int, accessFlags := 25, slot := 7, constantValue := 0 }, { name := "LOG2_ARRAY_FLOAT_INDEX_SCALE", type := .int, accessFlags := 25, slot := 8, constantValue := 0 }, { name := "LOG2_ARRAY_DOUBLE_INDEX_SCALE", type := .int, accessFlags := 25, slot := 9, constantValue := 0 }, { name := "LOG2_BYTE_BIT_SIZE", type := .int, accessFlags := 26, slot := 10, constantValue := 0 }, { name := "T_BOOLEAN", type := .int, accessFlags := 25, slot := 11, constantValue := 0 }, { name := "T_CHAR", type := .int, accessFlags := 25, slot := 12, constantValue := 0 }, { name := "T_FLOAT", type := .int, accessFlags := 25, slot := 13, constantValue := 0 }, { name := "T_DOUBLE", type := .int, accessFlags := 25, slot := 14, constantValue := 0 }, { name := "T_BYTE", type := .int, accessFlags := 25, slot := 15, constantValue := 0 }, { name := "T_SHORT", type := .int, accessFlags := 25, slot := 16, constantValue := 0 }, { name := "T_INT", type := .int, accessFlags := 25, slot := 17, constantValue := 0 }, { name := "T_LONG", type := .int, accessFlags := 25, slot := 18, constantValue := 0 }, { name := "JLA", type := (.object "jdk/internal/access/JavaLangAccess"), accessFlags := 26, slot := 19, constantValue := 0 }, { name := "SOFT_MAX_ARRAY_LENGTH", type := .int, accessFlags := 25, slot := 20, constantValue := 0 }]
  methods := #[k14m0]
  instanceTypes := #[]
  staticTypes := #[(.object "jdk/internal/misc/Unsafe"), .boolean, .int, .int, .int, .int, .int, .int, .int, .int, .int, .int, .int, .int, .int, .int, .int, .int, .int, (.object "jdk/internal/access/JavaLangAccess"), .int]
  resolved := Array.replicate 378 none
  statics := none }

/-- the primitive byte -/
def k15 : Class := { plain "byte" none with kind := .primitive 'B', accessFlags := 0x411 }
/-- [B -/
def k16 : Class := { plain "[B" (some 0) with kind := .array 15 .byte, interfaces := #[11, 2], accessFlags := 1041 }

/-- the primitive char -/
def k17 : Class := { plain "char" none with kind := .primitive 'C', accessFlags := 0x411 }
/-- [C -/
def k18 : Class := { plain "[C" (some 0) with kind := .array 17 .char, interfaces := #[11, 2], accessFlags := 1041 }

/-- the primitive int -/
def k19 : Class := { plain "int" none with kind := .primitive 'I', accessFlags := 0x411 }
/-- [I -/
def k20 : Class := { plain "[I" (some 0) with kind := .array 19 .int, interfaces := #[11, 2], accessFlags := 1041 }

/-- [Lcom/example/dongl/dongl/crypto/ProtocolVersion; -/
def k21 : Class := { plain "[Lcom/example/dongl/dongl/crypto/ProtocolVersion;" (some 0) with kind := .array 10 (.object "com/example/dongl/dongl/crypto/ProtocolVersion"), interfaces := #[11, 2], accessFlags := 1041 }

def heap : Heap := #[{ cls := 7, slots := #[.long 0, .int 1, .null, .int 0, .null, .int 0, .int 0], vm := .statics 7 },
  { cls := 10, slots := #[.ref 3, .ref 5, .ref 6, .ref 7, .ref 4], vm := .statics 10 },
  { cls := 13, slots := #[.null, .null, .null], vm := .statics 13 },
  { cls := 10, slots := #[.null, .int 0, .int 0, .ref 8], vm := .none },
  { cls := 21, slots := #[.ref 3, .ref 5, .ref 6, .ref 7], vm := .none },
  { cls := 10, slots := #[.null, .int 0, .int 0, .ref 9], vm := .none },
  { cls := 10, slots := #[.null, .int 0, .int 0, .ref 10], vm := .none },
  { cls := 10, slots := #[.null, .int 0, .int 0, .ref 11], vm := .none },
  { cls := 7, slots := #[.ref 12, .int 0, .int 0, .int 0], vm := .none },
  { cls := 7, slots := #[.ref 13, .int 0, .int 0, .int 0], vm := .none },
  { cls := 7, slots := #[.ref 14, .int 0, .int 0, .int 0], vm := .none },
  { cls := 7, slots := #[.ref 15, .int 0, .int 0, .int 0], vm := .none },
  { cls := 16, slots := #[.int 51, .int 46, .int 48], vm := .none },
  { cls := 16, slots := #[.int 51, .int 46, .int 49], vm := .none },
  { cls := 16, slots := #[.int 51, .int 46, .int 50], vm := .none },
  { cls := 16, slots := #[.int 51, .int 46, .int 51], vm := .none }]
def classes : Array Class := #[k0, k1, k2, k3, k4, k5, k6, k7, k8, k9, k10, k11, k12, k13, k14, k15, k16, k17, k18, k19, k20, k21]
def interned : List (Array UInt16 × Addr) := []
def slotsUsed : Nat := 63
def theMethod : MethodId := ⟨1, 1⟩
def args0 : Array Value := #[.int 5]
def aboutOver (below : List Frame) : State where
  vm := { classes := classes, interned := interned.toArray }
  heap := heap
  slotsUsed := slotsUsed
  threads := #[{ frames := .invoking theMethod args0 :: below }]
def below0 : List Frame := [.native { method := ⟨0, 0⟩, args := #[] }]
def about1 : State := aboutOver below0
def p0 : Program := .bare "" "" ""
def e0 : Env := launch0.env 0 0 0
theorem w_frames : about1.frames = Frame.invoking theMethod args0 :: below0 := rfl
set_option maxRecDepth 65536 in
theorem w_args : argsFit about1.vm theMethod args0 = true := by decide +kernel
set_option maxRecDepth 65536 in
theorem w_heap : heapFits about1 = true := by decide +kernel
set_option maxRecDepth 65536 in
theorem w_runnable : about1.curStatus? = some .runnable := by decide +kernel
set_option maxRecDepth 65536 in
theorem w_alone : about1.alone = true := by decide +kernel
set_option maxRecDepth 65536 in
theorem w_named : about1.methodNamed? x = some theMethod := by decide +kernel
set_option maxRecDepth 65536 in
theorem w_hears : about1.hears theMethod below0 = true := by decide +kernel
set_option maxRecDepth 65536 in
theorem w_ripe : about1.ripe theMethod args0 below0 = true := by decide +kernel
theorem w_running : about1.status = .running := rfl
set_option maxRecDepth 65536 in
theorem w_room : about1.hasRoom e0.platform room_1 = true :=
  launch0.hasRoom_least _ room_1 (by decide +kernel) (by decide +kernel) (by decide +kernel) (by decide +kernel) (by decide +kernel) (by decide +kernel)
theorem allAtoms_all (ts : List Jvm.Cond) (a : Array Jvm.Value) (st : Jvm.State) : (allAtoms ts).before a st = ts.all (fun c => c.before a st) := by
  induction ts with
  | nil => rfl
  | cons c t ih =>
    show (Jvm.Cond.and c (allAtoms t)).before a st = _
    rw [Jvm.Cond.before_and, ih, List.all_cons]
def words1 : List Jvm.Cond := Jvm.Cond.code x code maxLocals ret :: tables_1
/-- a 'code' word, met by the world's own term for the bytes: nothing is compared byte by byte -/
theorem code_word {y : MethodName} {bytes : ByteArray} {mx : Nat} {rt : Option FieldType} {a : Array Value} {s : State} {m : MethodId} {meth : Method} {c : Code} (h1 : s.methodNamed? y = some m) (h2 : s.vm.method? m = some meth) (h3 : meth.code = some c) (h4 : c.code = bytes)
    (h5 : (c.maxLocals == mx && c.exceptionTable.isEmpty && decide (c.maxStack ≤ mostOperands) && decide (meth.sig.returnType = rt) && !meth.locks && decide (parseMethodDescriptor y.desc = some meth.sig)) = true) : (Jvm.Cond.code y bytes mx rt).before a s = true := by
  simp only [Bool.and_eq_true, beq_iff_eq, Bool.not_eq_true', decide_eq_true_eq] at h5
  obtain ⟨⟨⟨⟨⟨g1, g2⟩, g3⟩, g4⟩, g5⟩, g6⟩ := h5
  simp [Cond.before, Cond.holds, Cond.value, h1, h2, h3, h4, g1, g2, g3, g4, g5, g6]
def isCode : Jvm.Cond → Bool
  | .code _ _ _ _ => true
  | _ => false
theorem all_split {L : List Jvm.Cond} {P : Jvm.Cond → Bool} (h1 : L.all (fun c => isCode c || P c) = true) (h2 : ∀ c ∈ L.filter isCode, P c = true) : L.all P = true := by
  refine List.all_eq_true.mpr fun c hc => ?_
  have h := List.all_eq_true.mp h1 c hc
  rcases Bool.eq_false_or_eq_true (isCode c) with hi | hi
  · exact h2 c (List.mem_filter.mpr ⟨hc, hi⟩)
  · simpa [hi] using h
set_option maxRecDepth 65536 in
theorem w_c0 : (Jvm.Cond.code x code maxLocals ret).before args0 about1 = true := code_word (m := ⟨1, 1⟩) (meth := k1m1) (c := k1c1) (by decide +kernel) rfl rfl rfl (by decide +kernel)
set_option maxRecDepth 65536 in
theorem w_c1 : (Jvm.Cond.code ({ cls := "java/lang/String", name := "<init>", desc := "([C)V" } : Jvm.MethodName) jdk_42_method_3_code (2 : Nat) (Option.none : Option Jvm.ClassFile.FieldType)).before args0 about1 = true := code_word (m := ⟨7, 1⟩) (meth := k7m1) (c := k7c1) (by decide +kernel) rfl rfl rfl (by decide +kernel)
set_option maxRecDepth 65536 in
theorem w_c2 : (Jvm.Cond.code ({ cls := "java/lang/String", name := "<init>", desc := "([CIILjava/lang/Void;)V" } : Jvm.MethodName) jdk_42_method_149_code (6 : Nat) (Option.none : Option Jvm.ClassFile.FieldType)).before args0 about1 = true := code_word (m := ⟨7, 3⟩) (meth := k7m3) (c := k7c3) (by decide +kernel) rfl rfl rfl (by decide +kernel)
set_option maxRecDepth 65536 in
theorem w_c3 : (Jvm.Cond.code ({ cls := "java/lang/Object", name := "<init>", desc := "()V" } : Jvm.MethodName) object_method_1_code (1 : Nat) (Option.none : Option Jvm.ClassFile.FieldType)).before args0 about1 = true := code_word (m := ⟨0, 0⟩) (meth := k0m0) (c := k0c0) (by decide +kernel) rfl rfl rfl (by decide +kernel)
set_option maxRecDepth 65536 in
theorem w_c4 : (Jvm.Cond.code ({ cls := "java/lang/StringUTF16", name := "compress", desc := "([CII)[B" } : Jvm.MethodName) jdk_52_method_16_code (6 : Nat) (Option.some (Jvm.ClassFile.FieldType.array Jvm.ClassFile.FieldType.byte))).before args0 about1 = true := code_word (m := ⟨8, 2⟩) (meth := k8m2) (c := k8c2) (by decide +kernel) rfl rfl rfl (by decide +kernel)
set_option maxRecDepth 65536 in
theorem w_c5 : (Jvm.Cond.code ({ cls := "java/lang/StringUTF16", name := "compress", desc := "([CI[BII)I" } : Jvm.MethodName) jdk_52_method_21_code (7 : Nat) (Option.some Jvm.ClassFile.FieldType.int)).before args0 about1 = true := code_word (m := ⟨8, 3⟩) (meth := k8m3) (c := k8c3) (by decide +kernel) rfl rfl rfl (by decide +kernel)
set_option maxRecDepth 65536 in
theorem w_c6 : (Jvm.Cond.code ({ cls := "java/lang/StringUTF16", name := "coderFromArrayLen", desc := "([BI)B" } : Jvm.MethodName) jdk_52_method_15_code (2 : Nat) (Option.some Jvm.ClassFile.FieldType.byte)).before args0 about1 = true := code_word (m := ⟨8, 1⟩) (meth := k8m1) (c := k8c1) (by decide +kernel) rfl rfl rfl (by decide +kernel)
set_option maxRecDepth 65536 in
theorem w_c7 : (Jvm.Cond.code ({ cls := "com/example/dongl/dongl/crypto/ProtocolVersion", name := "of", desc := "(Ljava/lang/String;)Lcom/example/dongl/dongl/crypto/ProtocolVersion;" } : Jvm.MethodName) prog_26_method_4_code (5 : Nat) (Option.some (Jvm.ClassFile.FieldType.object "com/example/dongl/dongl/crypto/ProtocolVersion"))).before args0 about1 = true := code_word (m := ⟨10, 1⟩) (meth := k10m1) (c := k10c1) (by decide +kernel) rfl rfl rfl (by decide +kernel)
set_option maxRecDepth 65536 in
theorem w_c8 : (Jvm.Cond.code ({ cls := "com/example/dongl/dongl/crypto/ProtocolVersion", name := "values", desc := "()[Lcom/example/dongl/dongl/crypto/ProtocolVersion;" } : Jvm.MethodName) prog_26_method_1_code (0 : Nat) (Option.some (Jvm.ClassFile.FieldType.array (Jvm.ClassFile.FieldType.object "com/example/dongl/dongl/crypto/ProtocolVersion")))).before args0 about1 = true := code_word (m := ⟨10, 0⟩) (meth := k10m0) (c := k10c0) (by decide +kernel) rfl rfl rfl (by decide +kernel)
set_option maxRecDepth 65536 in
theorem w_c9 : (Jvm.Cond.code ({ cls := "java/lang/String", name := "equals", desc := "(Ljava/lang/Object;)Z" } : Jvm.MethodName) jdk_42_method_66_code (3 : Nat) (Option.some Jvm.ClassFile.FieldType.boolean)).before args0 about1 = true := code_word (m := ⟨7, 2⟩) (meth := k7m2) (c := k7c2) (by decide +kernel) rfl rfl rfl (by decide +kernel)
set_option maxRecDepth 65536 in
theorem w_c10 : (Jvm.Cond.code ({ cls := "java/lang/StringLatin1", name := "equals", desc := "([B[B)Z" } : Jvm.MethodName) jdk_43_method_13_code (3 : Nat) (Option.some Jvm.ClassFile.FieldType.boolean)).before args0 about1 = true := code_word (m := ⟨12, 1⟩) (meth := k12m1) (c := k12c1) (by decide +kernel) rfl rfl rfl (by decide +kernel)
set_option maxRecDepth 65536 in
theorem w_c11 : (Jvm.Cond.code ({ cls := "com/example/dongl/dongl/crypto/ProtocolVersion", name := "text", desc := "()Ljava/lang/String;" } : Jvm.MethodName) prog_26_method_5_code (1 : Nat) (Option.some (Jvm.ClassFile.FieldType.object "java/lang/String"))).before args0 about1 = true := code_word (m := ⟨10, 2⟩) (meth := k10m2) (c := k10c2) (by decide +kernel) rfl rfl rfl (by decide +kernel)
def codes1 : List Jvm.Cond := [Jvm.Cond.code x code maxLocals ret, Jvm.Cond.code ({ cls := "java/lang/String", name := "<init>", desc := "([C)V" } : Jvm.MethodName) jdk_42_method_3_code (2 : Nat) (Option.none : Option Jvm.ClassFile.FieldType), Jvm.Cond.code ({ cls := "java/lang/String", name := "<init>", desc := "([CIILjava/lang/Void;)V" } : Jvm.MethodName) jdk_42_method_149_code (6 : Nat) (Option.none : Option Jvm.ClassFile.FieldType), Jvm.Cond.code ({ cls := "java/lang/Object", name := "<init>", desc := "()V" } : Jvm.MethodName) object_method_1_code (1 : Nat) (Option.none : Option Jvm.ClassFile.FieldType), Jvm.Cond.code ({ cls := "java/lang/StringUTF16", name := "compress", desc := "([CII)[B" } : Jvm.MethodName) jdk_52_method_16_code (6 : Nat) (Option.some (Jvm.ClassFile.FieldType.array Jvm.ClassFile.FieldType.byte)), Jvm.Cond.code ({ cls := "java/lang/StringUTF16", name := "compress", desc := "([CI[BII)I" } : Jvm.MethodName) jdk_52_method_21_code (7 : Nat) (Option.some Jvm.ClassFile.FieldType.int), Jvm.Cond.code ({ cls := "java/lang/StringUTF16", name := "coderFromArrayLen", desc := "([BI)B" } : Jvm.MethodName) jdk_52_method_15_code (2 : Nat) (Option.some Jvm.ClassFile.FieldType.byte), Jvm.Cond.code ({ cls := "com/example/dongl/dongl/crypto/ProtocolVersion", name := "of", desc := "(Ljava/lang/String;)Lcom/example/dongl/dongl/crypto/ProtocolVersion;" } : Jvm.MethodName) prog_26_method_4_code (5 : Nat) (Option.some (Jvm.ClassFile.FieldType.object "com/example/dongl/dongl/crypto/ProtocolVersion")), Jvm.Cond.code ({ cls := "com/example/dongl/dongl/crypto/ProtocolVersion", name := "values", desc := "()[Lcom/example/dongl/dongl/crypto/ProtocolVersion;" } : Jvm.MethodName) prog_26_method_1_code (0 : Nat) (Option.some (Jvm.ClassFile.FieldType.array (Jvm.ClassFile.FieldType.object "com/example/dongl/dongl/crypto/ProtocolVersion"))), Jvm.Cond.code ({ cls := "java/lang/String", name := "equals", desc := "(Ljava/lang/Object;)Z" } : Jvm.MethodName) jdk_42_method_66_code (3 : Nat) (Option.some Jvm.ClassFile.FieldType.boolean), Jvm.Cond.code ({ cls := "java/lang/StringLatin1", name := "equals", desc := "([B[B)Z" } : Jvm.MethodName) jdk_43_method_13_code (3 : Nat) (Option.some Jvm.ClassFile.FieldType.boolean), Jvm.Cond.code ({ cls := "com/example/dongl/dongl/crypto/ProtocolVersion", name := "text", desc := "()Ljava/lang/String;" } : Jvm.MethodName) prog_26_method_5_code (1 : Nat) (Option.some (Jvm.ClassFile.FieldType.object "java/lang/String"))]
set_option maxRecDepth 65536 in
theorem codes_eq : words1.filter isCode = codes1 := rfl
theorem w_codes : ∀ c ∈ words1.filter isCode, c.before args0 about1 = true := by
  rw [codes_eq]
  intro c hc
  simp only [codes1, List.mem_cons, List.not_mem_nil, or_false] at hc
  rcases hc with rfl | rfl | rfl | rfl | rfl | rfl | rfl | rfl | rfl | rfl | rfl | rfl
  · exact w_c0
  · exact w_c1
  · exact w_c2
  · exact w_c3
  · exact w_c4
  · exact w_c5
  · exact w_c6
  · exact w_c7
  · exact w_c8
  · exact w_c9
  · exact w_c10
  · exact w_c11
set_option maxRecDepth 65536 in
theorem w_t1 : (words1.take 24).all (fun c => isCode c || c.before args0 about1) = true := by decide +kernel
set_option maxRecDepth 65536 in
theorem w_t2 : ((words1.drop 24).take 24).all (fun c => isCode c || c.before args0 about1) = true := by decide +kernel
set_option maxRecDepth 65536 in
theorem w_t3 : (((words1.drop 24).drop 24).take 24).all (fun c => isCode c || c.before args0 about1) = true := by decide +kernel
set_option maxRecDepth 65536 in
theorem w_t4 : (((words1.drop 24).drop 24).drop 24).all (fun c => isCode c || c.before args0 about1) = true := by decide +kernel
theorem w_tables : (allAtoms (Jvm.Cond.code x code maxLocals ret :: tables_1)).before args0 about1 = true := by
  rw [allAtoms_all]
  show words1.all (fun c => c.before args0 about1) = true
  refine all_split ?_ w_codes
  rw [← List.take_append_drop 24 words1, List.all_append, w_t1, ← List.take_append_drop 24 (words1.drop 24), List.all_append, w_t2, ← List.take_append_drop 24 ((words1.drop 24).drop 24), List.all_append, w_t3, w_t4]
  rfl
set_option maxRecDepth 65536 in
theorem w_rest : rest_1_c.before args0 about1 = true := by decide +kernel
set_option maxRecDepth 65536 in
theorem w_case : (Jvm.Cond.and given_1 narrow_1).before args0 about1 = true := by decide +kernel
theorem w_applies : (headSpec (Jvm.Cond.code x code maxLocals ret :: tables_1) room_1).applies x e0.platform about1 = true :=
  (Spec.applies_iff w_frames).mpr ⟨w_running, w_runnable, w_alone, w_named, w_hears, w_ripe, w_room, w_tables⟩
theorem atStart : AtStart classFile x code maxLocals ret World_1 tables_1 room_1 Calls_1 rest_1 Pre_1 launch0 p0 e0 about1 theMethod args0 below0 :=
  ⟨lists_1, trivial, launch0.admits_env _ _ _, launch0.least_env, fairChoices_fair.cas, fairChoices_fair.clock, w_frames, w_args, w_heap, w_applies, trivial, w_rest, w_case⟩
end start1
theorem witness_1 : WitnessClaimed_1 := ⟨start1.p0, start1.e0, start1.about1, start1.theMethod, start1.args0, start1.below0, start1.atStart⟩
end Jvm.Pilot.@@N@@
