import JvmDerived
import JvmDerived.Pilot.@@N@@Statement
import JvmDerived.Pilot.@@N@@Code
set_option linter.unusedVariables false
set_option linter.unusedSimpArgs false
namespace Jvm.RoadKit
open Sem ClassFile Op Lib Jvm.Stand Jvm.Free Jvm.LawKit
section New
variable {p : Program} {l : Launch} {e : Env} {R : Room} {s : State} {m : MethodId} {args : Array Value} {below : List Frame} {meth : Method} {c : Code} {T : State} {locs : List Loc} {cells slots : Nat}
theorem retI (X : Stand p l e R s m args below meth c T locs cells slots) (hx : p.tables.exec = Jvm.exec) {pc : Nat} {Ls : Array Slot} {z : Int32} {rest : List Value} (hret : meth.sig.returnType = some .int) (hd : decode c.code pc = .ok (.ireturn, 1)) {fs : List Frame}
    (hl : ∀ (f : JFrame) (acts : List Action), f.method = m → f.locked = none → f.entered = [] → (doReturn e (T.setTop f) acts (some (.int z))).1 = T.setFrames fs) : Steps p.tables e below (T.setTop (mkF m pc Ls (.int z :: rest))) (T.setFrames fs) :=
  retOut X hx hret rfl (Or.inl ⟨rfl, Or.inl rfl, _, rfl⟩) hd hl
end New
end Jvm.RoadKit
namespace Jvm.Pilot.@@N@@
open Jvm Jvm.ClassFile Sem Op Lib Jvm.Free Jvm.Stand Jvm.LawKit Jvm.RoadKit Bundle Jvm.Pilot.@@N@@.Jvm.D
abbrev own_m0 : MethodName := ⟨"java/lang/String", "charAt", "(I)C"⟩
abbrev own_m1 : MethodName := ⟨"com/example/cargoweft/cargoweft/core/FlexibleSearch$Operator", "sql", "()Ljava/lang/String;"⟩
abbrev own_m2 : MethodName := ⟨"java/lang/String", "equals", "(Ljava/lang/Object;)Z"⟩
abbrev own_m3 : MethodName := ⟨"com/example/cargoweft/cargoweft/core/FlexibleSearch$Operator", "ordered", "()Z"⟩
abbrev own_m4 : MethodName := ⟨"java/lang/String", "coder", "()B"⟩
abbrev own_m5 : MethodName := ⟨"java/lang/String", "length", "()I"⟩
abbrev own_m6 : MethodName := ⟨"java/lang/String", "isLatin1", "()Z"⟩
abbrev own_m7 : MethodName := ⟨"java/lang/StringLatin1", "equals", "([B[B)Z"⟩
abbrev own_m8 : MethodName := ⟨"java/lang/StringLatin1", "charAt", "([BI)C"⟩
abbrev own_m9 : MethodName := ⟨"jdk/internal/util/Preconditions", "checkIndex", "(IILjava/util/function/BiFunction;)I"⟩
abbrev own_m10 : MethodName := ⟨"java/lang/String", "checkIndex", "(II)V"⟩
/-- what a body that writes nothing leaves: its value, no place written, the heap as it was -/
def PQ (w : Option Value) (h0 : Heap) (n0 : Nat) (v : Option Value) (h : Heap) (L : List Loc) : Prop := v = w ∧ Fr n0 L ∧ h = h0
def LQ (n0 : Nat) (v : Option Value) (h : Heap) (L : List Loc) : Prop := v = some (.int (1 : Int32)) ∧ Fr n0 L ∧ True
theorem own_pd0 : parseMethodDescriptor "()Ljava/lang/String;" = some ⟨[], some (.object "java/lang/String")⟩ := by decide +kernel
theorem own_pd1 : parseMethodDescriptor "([B[B)Z" = some ⟨[(.array .byte), (.array .byte)], some .boolean⟩ := by decide +kernel
theorem own_pd2 : parseMethodDescriptor "(Ljava/lang/Object;)Z" = some ⟨[(.object "java/lang/Object")], some .boolean⟩ := by decide +kernel
theorem own_pd3 : parseMethodDescriptor "()B" = some ⟨[], some .byte⟩ := by decide +kernel
theorem own_pd4 : parseMethodDescriptor "()I" = some ⟨[], some .int⟩ := by decide +kernel
theorem own_pd5 : parseMethodDescriptor "()Z" = some ⟨[], some .boolean⟩ := by decide +kernel
theorem own_pd6 : parseMethodDescriptor "(IILjava/util/function/BiFunction;)I" = some ⟨[.int, .int, (.object "java/util/function/BiFunction")], some .int⟩ := by decide +kernel
theorem own_pd7 : parseMethodDescriptor "(II)V" = some ⟨[.int, .int], none⟩ := by decide +kernel
theorem own_pd8 : parseMethodDescriptor "([BI)C" = some ⟨[(.array .byte), .int], some .char⟩ := by decide +kernel
theorem own_pd9 : parseMethodDescriptor "(I)C" = some ⟨[.int], some .char⟩ := by decide +kernel
theorem own_k (p : Int32) : ∃ n, n < 6 ∧ ((p &&& (2147483647 : Int32)) % (6 : Int32)) = Int32.ofNat n := by
  have q0 := c_and p 2147483647 (by decide)
  have q := (c_irem (p &&& (2147483647 : Int32)) (6 : Int32) 6 rfl).1 q0.1
  refine ⟨((p &&& (2147483647 : Int32)).toInt % 6).toNat, by omega, ?_⟩
  rw [← Int32.toInt_inj, q, Int32.toInt_ofNat_small (by omega)]
  omega
theorem own_strAtoms (a0 : Array Value) (Z : State) (hw : ∀ d ∈ tables_1, d.before a0 Z = true) : ∀ a ∈ Bundle.stringAtoms, a.before a0 Z = true := by
  intro d hd
  simp only [Bundle.stringAtoms, Bundle.sN, List.mem_cons, List.not_mem_nil, or_false] at hd
  rcases hd with rfl | rfl | rfl | rfl | rfl | rfl | rfl
  · exact (hw _ (List.mem_of_getElem? (i := 12) rfl))
  · exact (hw _ (List.mem_of_getElem? (i := 13) rfl))
  · exact (hw _ (List.mem_of_getElem? (i := 14) rfl))
  · exact (hw _ (List.mem_of_getElem? (i := 15) rfl))
  · exact (hw _ (List.mem_of_getElem? (i := 16) rfl))
  · exact (hw _ (List.mem_of_getElem? (i := 17) rfl))
  · exact (hw _ (List.mem_of_getElem? (i := 18) rfl))
theorem own_eqv {s : State} {args : Array Value} {t u : Term} {w : Value} (hu : u.eval args s none [] s = some w) (h : (Cond.eq t u).value args s none s [] = some true) (hk : (match w with | .retAddr _ => false | .float _ => false | .double _ => false | _ => true) = true := by rfl) : t.eval args s none [] s = some w := by
  obtain ⟨x, y, e1, e2, -, -⟩ := cmp_v (Or.inl h)
  cases hu.symm.trans e2
  rw [e1]
  simp only [Cond.value, e1, hu] at h
  cases x <;> cases w <;> simp at h hk ⊢ <;> exact h
theorem own_fld {s : State} {args : Array Value} {t : Term} {C n d : String} {a : Addr} {v : Value} (ht : t.eval args s none [] s = some (.ref a)) (h : (Term.field t C n d).eval args s none [] s = some v) : Fld s s.heap a C n d v := Fld.start ((fld_at ht).symm.trans h)
theorem own_len {s : State} {args : Array Value} {t : Term} {ty : FieldType} {a : Addr} {n : Int32} (ht : t.eval args s none [] s = some (.ref a)) (ha : (Cond.arrayOf t ty).value args s none s [] = some true) (hl : (Cond.eq (.length t) (.int n)).value args s none s [] = some true) (hn : ¬ n < 0) :
    ∃ c : Cell, Arr s s.heap a c ty ∧ c.slots.size < 2 ^ 31 ∧ c.slots.size.toInt32 = n := by
  obtain ⟨c, A⟩ := Arr.start ht ha
  have e := own_eqv (Term.int_eval n) hl
  have A2 := A.fin (Vm.Alike.refl _)
  obtain ⟨x, c2, e1, e2, e3⟩ := Term.length_spec e
  cases ht.symm.trans e1
  cases A2.symm.trans e2
  have h31 := SBG.length_lt ht A2 e
  refine ⟨c, A, h31, ?_⟩
  have := len_f ht A2 h31
  rw [e] at this
  simpa using (Option.some.inj this).symm
theorem own_elem {s : State} {args : Array Value} {t : Term} {ty : FieldType} {a : Addr} {c : Cell} {j : Int32} {v : Value} (ht : t.eval args s none [] s = some (.ref a)) (A : Arr s s.heap a c ty) (h : (Term.elem t (.int j)).eval args s none [] s = some v) : c.slots[j.toNatClampNeg]? = some v := (elem_in h ht (Term.int_eval j) A.1).2
theorem own_all0 {s : State} {args : Array Value} {t : Term} {ty : FieldType} {a : Addr} {c : Cell} {k n : Int32} (ht : ∀ idx, t.eval args s none idx s = some (.ref a)) (A : Arr s s.heap a c ty) (h31 : c.slots.size < 2 ^ 31) (hn : c.slots.size.toInt32 = n)
    (h : (Cond.all t (.or (.lt (.index 0) (.int k)) (.eq (.elem t (.index 0)) (.int 0)))).value args s none s [] = some true) (j : Nat) (hj : j < n.toNatClampNeg) (hk : ¬ j.toInt32 < k) : c.slots[j]? = some (.int 0) := by
  have A2 := A.fin (Vm.Alike.refl _)
  have hsz : n.toNatClampNeg = c.slots.size := by rw [← hn]; simp only [Int32.toNatClampNeg, len_toInt h31]; rfl
  have hj2 : j < c.slots.size := hsz ▸ hj
  have q := Cond.all_elim (ht []) A2 h j hj2
  have e1 : (Term.index 0).eval args s none [j] s = some (.int j.toInt32) := rfl
  have l1 : (Cond.lt (.index 0) (.int k)).value args s none s [j] = some false := by
    simp [Cond.value, e1, Term.int_eval, hk]
  have q2 : (Cond.eq (.elem t (.index 0)) (.int 0)).value args s none s [j] = some true := by
    have q3 : (match (Cond.lt (.index 0) (.int k)).value args s none s [j] with | some false => (Cond.eq (.elem t (.index 0)) (.int 0)).value args s none s [j] | x => x) = some true := q
    rw [l1] at q3
    exact q3
  obtain ⟨x, y, e2, e3, -, -⟩ := cmp_v (Or.inl q2)
  cases (Term.int_eval (args := args) (first := s) (o := none) (idx := [j]) (s := s) 0).symm.trans e3
  have e4 : (Term.elem t (.index 0)).eval args s none [j] s = some (.int 0) := by
    simp only [Cond.value, e2, e3] at q2
    rw [e2]; cases x <;> simp at q2 ⊢; exact q2
  have e5 := elem_in e4 (ht [j]) e1 A.1
  have e6 : (Nat.toInt32 j).toNatClampNeg = j := by simp only [Int32.toNatClampNeg, len_toInt (Nat.lt_trans hj2 h31)]; rfl
  rw [e6] at e5
  exact e5.2
theorem own_csne {s : State} {args : Array Value} {t : Term} {v : Int32} (e : t.eval args s none [] s = some (.int v)) (h : (Cond.not (.eq t (.int 0))).value args s none s [] = some true) : ¬ (v = (0 : Int32)) := by
  have q := not_v h
  intro hv
  subst hv
  have q2 := Cond.eq_ints e (Term.int_eval (args := args) (first := s) (o := none) (idx := []) (s := s) 0)
  rw [q2] at q
  simp at q
theorem own_orref {s : State} {args : Array Value} {C f d : String} (h : (Cond.isRef (.static C f d)).value args s none s [] = some true) (hi : (Cond.initializedFor C f d).before args s = true ∨ ((Cond.initialized C).before args s = true ∧ (Cond.laysStatic C f d).before args s = true)) : (Sta s s.heap C f d .null) ∨ (∃ a, Sta s s.heap C f d (.ref a)) := by
  obtain ⟨x, e, hr⟩ := isR_v h
  rcases ref_cases hr with rfl | ⟨a, rfl⟩
  · exact Or.inl (Sta.start e hi)
  · exact Or.inr ⟨a, Sta.start e hi⟩
def own_St (Z : State) (A : Nat → Addr) (K : Nat → ClassId) (cs : Int32) : Prop := ((Sta Z Z.heap "com/example/cargoweft/cargoweft/core/FlexibleSearch$Operator" "EQUAL" "Lcom/example/cargoweft/cargoweft/core/FlexibleSearch$Operator;" (.ref (A 0))) ∧ (Exa Z Z.heap (A 0) "com/example/cargoweft/cargoweft/core/FlexibleSearch$Operator") ∧ (Sta Z Z.heap "com/example/cargoweft/cargoweft/core/FlexibleSearch$Operator" "NOT_EQUAL" "Lcom/example/cargoweft/cargoweft/core/FlexibleSearch$Operator;" (.ref (A 1))) ∧ (Exa Z Z.heap (A 1) "com/example/cargoweft/cargoweft/core/FlexibleSearch$Operator") ∧ (Sta Z Z.heap "com/example/cargoweft/cargoweft/core/FlexibleSearch$Operator" "LESS" "Lcom/example/cargoweft/cargoweft/core/FlexibleSearch$Operator;" (.ref (A 2))) ∧ (Exa Z Z.heap (A 2) "com/example/cargoweft/cargoweft/core/FlexibleSearch$Operator") ∧ (Sta Z Z.heap "com/example/cargoweft/cargoweft/core/FlexibleSearch$Operator" "LESS_OR_EQUAL" "Lcom/example/cargoweft/cargoweft/core/FlexibleSearch$Operator;" (.ref (A 3))) ∧ (Exa Z Z.heap (A 3) "com/example/cargoweft/cargoweft/core/FlexibleSearch$Operator") ∧ True) ∧ ((Sta Z Z.heap "com/example/cargoweft/cargoweft/core/FlexibleSearch$Operator" "GREATER" "Lcom/example/cargoweft/cargoweft/core/FlexibleSearch$Operator;" (.ref (A 4))) ∧ (Exa Z Z.heap (A 4) "com/example/cargoweft/cargoweft/core/FlexibleSearch$Operator") ∧ (Sta Z Z.heap "com/example/cargoweft/cargoweft/core/FlexibleSearch$Operator" "GREATER_OR_EQUAL" "Lcom/example/cargoweft/cargoweft/core/FlexibleSearch$Operator;" (.ref (A 5))) ∧ (Exa Z Z.heap (A 5) "com/example/cargoweft/cargoweft/core/FlexibleSearch$Operator") ∧ (Fld Z Z.heap (A 0) "com/example/cargoweft/cargoweft/core/FlexibleSearch$Operator" "sql" "Ljava/lang/String;" (.ref (A 6))) ∧ (Exa Z Z.heap (A 6) "java/lang/String") ∧ (Fld Z Z.heap (A 3) "com/example/cargoweft/cargoweft/core/FlexibleSearch$Operator" "sql" "Ljava/lang/String;" (.ref (A 7))) ∧ (Exa Z Z.heap (A 7) "java/lang/String") ∧ True) ∧ ((Fld Z Z.heap (A 2) "com/example/cargoweft/cargoweft/core/FlexibleSearch$Operator" "sql" "Ljava/lang/String;" (.ref (A 8))) ∧ (Exa Z Z.heap (A 8) "java/lang/String") ∧ (Fld Z Z.heap (A 1) "com/example/cargoweft/cargoweft/core/FlexibleSearch$Operator" "sql" "Ljava/lang/String;" (.ref (A 9))) ∧ (Exa Z Z.heap (A 9) "java/lang/String") ∧ (Fld Z Z.heap (A 5) "com/example/cargoweft/cargoweft/core/FlexibleSearch$Operator" "sql" "Ljava/lang/String;" (.ref (A 10))) ∧ (Exa Z Z.heap (A 10) "java/lang/String") ∧ (Fld Z Z.heap (A 4) "com/example/cargoweft/cargoweft/core/FlexibleSearch$Operator" "sql" "Ljava/lang/String;" (.ref (A 11))) ∧ (Exa Z Z.heap (A 11) "java/lang/String") ∧ True) ∧ ((Fld Z Z.heap (A 6) "java/lang/String" "value" "[B" (.ref (A 12))) ∧ (Arv Z Z.heap (A 12) (K 0) .byte (1 : Int32) [(.int (61 : Int32))] (.int (0 : Int32))) ∧ (Fld Z Z.heap (A 7) "java/lang/String" "value" "[B" (.ref (A 13))) ∧ (Arv Z Z.heap (A 13) (K 1) .byte (2 : Int32) [(.int (60 : Int32)), (.int (61 : Int32))] (.int (0 : Int32))) ∧ (Fld Z Z.heap (A 8) "java/lang/String" "value" "[B" (.ref (A 14))) ∧ (Arv Z Z.heap (A 14) (K 2) .byte (1 : Int32) [(.int (60 : Int32))] (.int (0 : Int32))) ∧ (Fld Z Z.heap (A 9) "java/lang/String" "value" "[B" (.ref (A 15))) ∧ (Arv Z Z.heap (A 15) (K 3) .byte (2 : Int32) [(.int (60 : Int32)), (.int (62 : Int32))] (.int (0 : Int32))) ∧ True) ∧ ((Fld Z Z.heap (A 10) "java/lang/String" "value" "[B" (.ref (A 16))) ∧ (Arv Z Z.heap (A 16) (K 4) .byte (2 : Int32) [(.int (62 : Int32)), (.int (61 : Int32))] (.int (0 : Int32))) ∧ (Fld Z Z.heap (A 11) "java/lang/String" "value" "[B" (.ref (A 17))) ∧ (Arv Z Z.heap (A 17) (K 5) .byte (1 : Int32) [(.int (62 : Int32))] (.int (0 : Int32))) ∧ (Sta Z Z.heap "java/lang/String" "COMPACT_STRINGS" "Z" (.int cs)) ∧ (¬ (cs = (0 : Int32))) ∧ ((Sta Z Z.heap "jdk/internal/util/Preconditions" "SIOOBE_FORMATTER" "Ljava/util/function/BiFunction;" .null) ∨ (∃ a, Sta Z Z.heap "jdk/internal/util/Preconditions" "SIOOBE_FORMATTER" "Ljava/util/function/BiFunction;" (.ref a))) ∧ (Fld Z Z.heap (A 6) "java/lang/String" "coder" "B" (.int (0 : Int32))) ∧ True) ∧ ((Fld Z Z.heap (A 7) "java/lang/String" "coder" "B" (.int (0 : Int32))) ∧ (Fld Z Z.heap (A 3) "java/lang/Enum" "ordinal" "I" (.int (3 : Int32))) ∧ (Fld Z Z.heap (A 0) "java/lang/Enum" "ordinal" "I" (.int (0 : Int32))) ∧ (Fld Z Z.heap (A 1) "java/lang/Enum" "ordinal" "I" (.int (1 : Int32))) ∧ (Fld Z Z.heap (A 8) "java/lang/String" "coder" "B" (.int (0 : Int32))) ∧ (Fld Z Z.heap (A 2) "java/lang/Enum" "ordinal" "I" (.int (2 : Int32))) ∧ (Fld Z Z.heap (A 9) "java/lang/String" "coder" "B" (.int (0 : Int32))) ∧ (Fld Z Z.heap (A 10) "java/lang/String" "coder" "B" (.int (0 : Int32))) ∧ True) ∧ ((Fld Z Z.heap (A 5) "java/lang/Enum" "ordinal" "I" (.int (5 : Int32))) ∧ (Fld Z Z.heap (A 11) "java/lang/String" "coder" "B" (.int (0 : Int32))) ∧ (Fld Z Z.heap (A 4) "java/lang/Enum" "ordinal" "I" (.int (4 : Int32))) ∧ True) ∧ True
theorem own_d_prog_57_method_4_code_0 : decode prog_57_method_4_code 0 = .ok (.aload_n 0, 1) := by decide +kernel
theorem own_d_prog_57_method_4_code_1 : decode prog_57_method_4_code 1 = .ok (.getfield 41, 3) := by decide +kernel
theorem own_d_prog_57_method_4_code_4 : decode prog_57_method_4_code 4 = .ok (.areturn, 1) := by decide +kernel
theorem own_pn0 : plainName "com/example/cargoweft/cargoweft/core/FlexibleSearch$Operator" = true := by first | (simp [plainName, overriddenIn]; done) | decide +kernel
theorem own_ef_rm1 (m : MethodId) (p1 : Int32) (A : Nat → Addr) (K : Nat → ClassId) (cs : Int32)  : entryFrame m #[(.ref (A 0))] 1 = mkF m 0 #[.val (.ref (A 0))] [] := by first | (simp [entryFrame, mkF, argsToLocals, Value.category, maxLocals]; done) | rfl
set_option maxRecDepth 65536 in
set_option maxHeartbeats 40000000 in
theorem rm1 (l : Launch) (Z : State) (a0 : Array Value) (hw : ∀ d ∈ tables_1, d.before a0 Z = true) (ws : List Jvm.Cond) (h0 : Heap) (n0 : Nat) (p1 : Int32) (A : Nat → Addr) (K : Nat → ClassId) (cs : Int32)  (EN : own_St Z A K cs) (OL0 : Old Z n0 h0) :
    MetFree l own_m1 (head1 (Jvm.Cond.code own_m1 prog_57_method_4_code 1 (some (.object "java/lang/String")) :: ws) ({ frames := 0, cells := 0, slots := 0, locals := 0 } : Room)) (fun a U => a = #[(.ref (A 0))] ∧ Z.Warmed39 U.vm ∧ U.heap = h0) (fun _ _ _ _ _ => True) (fun _ U o U' => ∃ v L, o = .returned v ∧ (PQ (some (.ref (A 6))) h0 n0) v U'.heap L ∧ FrameEnd U o U' L ({ frames := 0, cells := 0, slots := 0, locals := 0 } : Room).cells ({ frames := 0, cells := 0, slots := 0, locals := 0 } : Room).slots) := by
  refine MetFree.of_bodySF (plainFor_of_name own_pn0) hisR ?_
  intro p e s m args below meth c s₁ Bd hml0 hP hK
  obtain ⟨rfl, hZ, hh⟩ := hP
  have hx := Bd.exec
  have hby := Bd.bytes
  have hml : c.maxLocals = 1 := hml0
  have hown : s.vm.findClass "com/example/cargoweft/cargoweft/core/FlexibleSearch$Operator" = some m.cls := findClass_of_methodNamed Bd.named
  have hnm := (name_of_methodNamed Bd.named Bd.method).1
  have X0 : Stand p l e ({ frames := 0, cells := 0, slots := 0, locals := 0 } : Room) s m #[(.ref (A 0))] below meth c s₁ [] 0 0 := Stand.of_body Bd
  have e0 : s₁.heap = h0 := by rw [← hh, Bd.state]; rfl
  have N0 := Fr.nil n0
  have pre0 : ∀ t, Steps p.tables e below (s₁.setTop (mkF m 0 #[.val (.ref (A 0))] [])) t → Steps p.tables e below (s₁.setTop (entryFrame m #[(.ref (A 0))] 1)) t := fun t k => castTop (own_ef_rm1 m p1 A K cs ) k
  have KK0 : Keep h0 h0 [] := Keep.refl _ _
  obtain ⟨T4, X4, e4, st4⟩ := getF X0 hx hZ hown (host := "") (Or.inl (hw _ (List.mem_of_getElem? (i := 9) rfl))) Via.refl e0 (EN.2.1.2.2.2.2.1.ext OL0.2) (g := (mkF m 1 #[.val (.ref (A 0))] [(.ref (A 0))])) rfl rfl (hb hby own_d_prog_57_method_4_code_1)
  obtain ⟨fs, hr, hrun, hended, hW, hsame⟩ := X4.leave (v := some (.ref (A 6))) (fun h => by rw [Bd.returns] at h; cases h)
  refine ⟨_, _, pre0 _ ?_, hrun, hended, _, _, rfl, ?_, ⟨_, rfl⟩, hW, hsame.mono (by decide) (by decide)⟩
  · show Steps p.tables e below (s₁.setTop (mkF m 0 #[.val (.ref (A 0))] [])) _
    refine XS.aloadN X0.here hx rfl (hb hby own_d_prog_57_method_4_code_0) rfl rfl ?_
    show Steps p.tables e below (s₁.setTop (mkF m 1 #[.val (.ref (A 0))] [(.ref (A 0))])) _
    refine st4 _ ?_
    show Steps p.tables e below (T4.setTop (mkF m 4 #[.val (.ref (A 0))] [(.ref (A 6))])) _
    exact retOut X4 hx Bd.returns rfl (Or.inr (Or.inr (Or.inr (Or.inr ⟨rfl, rfl, rfl⟩)))) (hb hby own_d_prog_57_method_4_code_4) hr
  · show PQ (some (.ref (A 6))) h0 n0 _ T4.heap _
    rw [e4]
    exact ⟨rfl, N0, rfl⟩
theorem own_d_jdk_43_method_13_code_0 : decode jdk_43_method_13_code 0 = .ok (.aload_n 0, 1) := by decide +kernel
theorem own_d_jdk_43_method_13_code_1 : decode jdk_43_method_13_code 1 = .ok (.arraylength, 1) := by decide +kernel
theorem own_d_jdk_43_method_13_code_2 : decode jdk_43_method_13_code 2 = .ok (.aload_n 1, 1) := by decide +kernel
theorem own_d_jdk_43_method_13_code_3 : decode jdk_43_method_13_code 3 = .ok (.arraylength, 1) := by decide +kernel
theorem own_d_jdk_43_method_13_code_4 : decode jdk_43_method_13_code 4 = .ok (.if_icmp .ne 30, 3) := by decide +kernel
theorem own_d_jdk_43_method_13_code_34 : decode jdk_43_method_13_code 34 = .ok (.iconst 0, 1) := by decide +kernel
theorem own_d_jdk_43_method_13_code_35 : decode jdk_43_method_13_code 35 = .ok (.ireturn, 1) := by decide +kernel
theorem own_pn1 : plainName "java/lang/StringLatin1" = true := by first | (simp [plainName, overriddenIn]; done) | decide +kernel
theorem own_ef_rm3 (m : MethodId) (p1 : Int32) (A : Nat → Addr) (K : Nat → ClassId) (cs : Int32)  (sb7 : Addr) (kc7 : ClassId) : entryFrame m #[(.ref (A 12)), (.ref sb7)] 3 = mkF m 0 #[.val (.ref (A 12)), .val (.ref sb7), .unset] [] := by first | (simp [entryFrame, mkF, argsToLocals, Value.category, maxLocals]; done) | rfl
set_option maxRecDepth 65536 in
set_option maxHeartbeats 40000000 in
theorem rm3 (l : Launch) (Z : State) (a0 : Array Value) (hw : ∀ d ∈ tables_1, d.before a0 Z = true) (ws : List Jvm.Cond) (h0 : Heap) (n0 : Nat) (p1 : Int32) (A : Nat → Addr) (K : Nat → ClassId) (cs : Int32)  (sb7 : Addr) (kc7 : ClassId) (EN : own_St Z A K cs) (OL0 : Old Z n0 h0) (G_A_sb7 : Arv Z h0 sb7 kc7 .byte (2 : Int32) [(.int (60 : Int32)), (.int (62 : Int32))] (.int (0 : Int32))) :
    MetFree l own_m7 (head1 (Jvm.Cond.code own_m7 jdk_43_method_13_code 3 (some .boolean) :: ws) ({ frames := 0, cells := 0, slots := 0, locals := 0 } : Room)) (fun a U => a = #[(.ref (A 12)), (.ref sb7)] ∧ Z.Warmed39 U.vm ∧ U.heap = h0) (fun _ _ _ _ _ => True) (fun _ U o U' => ∃ v L, o = .returned v ∧ (PQ (some (.int (0 : Int32))) h0 n0) v U'.heap L ∧ FrameEnd U o U' L ({ frames := 0, cells := 0, slots := 0, locals := 0 } : Room).cells ({ frames := 0, cells := 0, slots := 0, locals := 0 } : Room).slots) := by
  refine MetFree.of_bodySF (plainFor_of_name own_pn1) hisR ?_
  intro p e s m args below meth c s₁ Bd hml0 hP hK
  obtain ⟨rfl, hZ, hh⟩ := hP
  have hx := Bd.exec
  have hby := Bd.bytes
  have hml : c.maxLocals = 3 := hml0
  have hown : s.vm.findClass "java/lang/StringLatin1" = some m.cls := findClass_of_methodNamed Bd.named
  have hnm := (name_of_methodNamed Bd.named Bd.method).1
  have X0 : Stand p l e ({ frames := 0, cells := 0, slots := 0, locals := 0 } : Room) s m #[(.ref (A 12)), (.ref sb7)] below meth c s₁ [] 0 0 := Stand.of_body Bd
  have e0 : s₁.heap = h0 := by rw [← hh, Bd.state]; rfl
  have N0 := Fr.nil n0
  have pre0 : ∀ t, Steps p.tables e below (s₁.setTop (mkF m 0 #[.val (.ref (A 12)), .val (.ref sb7), .unset] [])) t → Steps p.tables e below (s₁.setTop (entryFrame m #[(.ref (A 12)), (.ref sb7)] 3)) t := fun t k => castTop (own_ef_rm3 m p1 A K cs sb7 kc7) k
  have KK0 : Keep h0 h0 [] := Keep.refl _ _
  obtain ⟨cl15, Ar15, -, Sz15, Nn15, -, -⟩ := (id (EN.2.2.2.1.2.1.ext OL0.2))
  obtain ⟨cl16, Ar16, -, Sz16, Nn16, -, -⟩ := (id G_A_sb7)
  obtain ⟨fs, hr, hrun, hended, hW, hsame⟩ := X0.leave (v := some (.int (0 : Int32))) (fun h => by rw [Bd.returns] at h; cases h)
  refine ⟨_, _, pre0 _ ?_, hrun, hended, _, _, rfl, ?_, ⟨_, rfl⟩, hW, hsame.mono (by decide) (by decide)⟩
  · show Steps p.tables e below (s₁.setTop (mkF m 0 #[.val (.ref (A 12)), .val (.ref sb7), .unset] [])) _
    refine XS.aloadN X0.here hx rfl (hb hby own_d_jdk_43_method_13_code_0) rfl rfl ?_
    show Steps p.tables e below (s₁.setTop (mkF m 1 #[.val (.ref (A 12)), .val (.ref sb7), .unset] [(.ref (A 12))])) _
    refine X0.arraylength hx (by rw [e0]; exact Ar15.1) (State.isArrayOf_alike hZ.alike Ar15.2.1) (g := (mkF m 1 #[.val (.ref (A 12)), .val (.ref sb7), .unset] [(.ref (A 12))])) rfl rfl (hb hby own_d_jdk_43_method_13_code_1) _ ?_
    rw [len_of Sz15 Nn15]
    show Steps p.tables e below (s₁.setTop (mkF m 2 #[.val (.ref (A 12)), .val (.ref sb7), .unset] [(.int (1 : Int32))])) _
    refine XS.aloadN X0.here hx rfl (hb hby own_d_jdk_43_method_13_code_2) rfl rfl ?_
    show Steps p.tables e below (s₁.setTop (mkF m 3 #[.val (.ref (A 12)), .val (.ref sb7), .unset] [(.ref sb7), (.int (1 : Int32))])) _
    refine X0.arraylength hx (by rw [e0]; exact Ar16.1) (State.isArrayOf_alike hZ.alike Ar16.2.1) (g := (mkF m 3 #[.val (.ref (A 12)), .val (.ref sb7), .unset] [(.ref sb7), (.int (1 : Int32))])) rfl rfl (hb hby own_d_jdk_43_method_13_code_3) _ ?_
    rw [len_of Sz16 Nn16]
    show Steps p.tables e below (s₁.setTop (mkF m 4 #[.val (.ref (A 12)), .val (.ref sb7), .unset] [(.int (2 : Int32)), (.int (1 : Int32))])) _
    refine XS.icmpYes X0.here hx rfl (pc0 := 4) (pc' := 34) rfl (hb hby own_d_jdk_43_method_13_code_4) rfl (feq (by decide : ¬ ((1 : Int32) = (2 : Int32)))).2 (by decide) (by decide) ?_
    show Steps p.tables e below (s₁.setTop (mkF m 34 #[.val (.ref (A 12)), .val (.ref sb7), .unset] [])) _
    refine XS.iconst X0.here hx rfl (hb hby own_d_jdk_43_method_13_code_34) ?_
    show Steps p.tables e below (s₁.setTop (mkF m 35 #[.val (.ref (A 12)), .val (.ref sb7), .unset] [(.int (0 : Int32))])) _
    exact retN X0 hx (t := .boolean) Bd.returns (by simp) (hb hby own_d_jdk_43_method_13_code_35) hr
  · show PQ (some (.int (0 : Int32))) h0 n0 _ s₁.heap _
    rw [e0]
    exact ⟨rfl, N0, rfl⟩
theorem own_d_jdk_42_method_66_code_0 : decode jdk_42_method_66_code 0 = .ok (.aload_n 0, 1) := by decide +kernel
theorem own_d_jdk_42_method_66_code_1 : decode jdk_42_method_66_code 1 = .ok (.aload_n 1, 1) := by decide +kernel
theorem own_d_jdk_42_method_66_code_2 : decode jdk_42_method_66_code 2 = .ok (.if_acmp .ne 5, 3) := by decide +kernel
theorem own_d_jdk_42_method_66_code_7 : decode jdk_42_method_66_code 7 = .ok (.aload_n 1, 1) := by decide +kernel
theorem own_d_jdk_42_method_66_code_8 : decode jdk_42_method_66_code 8 = .ok (.instanceof 10, 3) := by decide +kernel
theorem own_d_jdk_42_method_66_code_11 : decode jdk_42_method_66_code 11 = .ok (.ifCond .eq 43, 3) := by decide +kernel
theorem own_d_jdk_42_method_66_code_14 : decode jdk_42_method_66_code 14 = .ok (.aload_n 1, 1) := by decide +kernel
theorem own_d_jdk_42_method_66_code_15 : decode jdk_42_method_66_code 15 = .ok (.checkcast 10, 3) := by decide +kernel
theorem own_d_jdk_42_method_66_code_18 : decode jdk_42_method_66_code 18 = .ok (.astore_n 2, 1) := by decide +kernel
theorem own_d_jdk_42_method_66_code_19 : decode jdk_42_method_66_code 19 = .ok (.getstatic 38, 3) := by decide +kernel
theorem own_d_jdk_42_method_66_code_22 : decode jdk_42_method_66_code 22 = .ok (.ifCond .eq 14, 3) := by decide +kernel
theorem own_d_jdk_42_method_66_code_25 : decode jdk_42_method_66_code 25 = .ok (.aload_n 0, 1) := by decide +kernel
theorem own_d_jdk_42_method_66_code_26 : decode jdk_42_method_66_code 26 = .ok (.getfield 15, 3) := by decide +kernel
theorem own_d_jdk_42_method_66_code_29 : decode jdk_42_method_66_code 29 = .ok (.aload_n 2, 1) := by decide +kernel
theorem own_d_jdk_42_method_66_code_30 : decode jdk_42_method_66_code 30 = .ok (.getfield 15, 3) := by decide +kernel
theorem own_d_jdk_42_method_66_code_33 : decode jdk_42_method_66_code 33 = .ok (.if_icmp .ne 21, 3) := by decide +kernel
theorem own_d_jdk_42_method_66_code_36 : decode jdk_42_method_66_code 36 = .ok (.aload_n 0, 1) := by decide +kernel
theorem own_d_jdk_42_method_66_code_37 : decode jdk_42_method_66_code 37 = .ok (.getfield 9, 3) := by decide +kernel
theorem own_d_jdk_42_method_66_code_40 : decode jdk_42_method_66_code 40 = .ok (.aload_n 2, 1) := by decide +kernel
theorem own_d_jdk_42_method_66_code_41 : decode jdk_42_method_66_code 41 = .ok (.getfield 9, 3) := by decide +kernel
theorem own_d_jdk_42_method_66_code_44 : decode jdk_42_method_66_code 44 = .ok (.invokestatic 541, 3) := by decide +kernel
theorem own_d_jdk_42_method_66_code_47 : decode jdk_42_method_66_code 47 = .ok (.ifCond .eq 7, 3) := by decide +kernel
theorem own_d_jdk_42_method_66_code_54 : decode jdk_42_method_66_code 54 = .ok (.iconst 0, 1) := by decide +kernel
theorem own_d_jdk_42_method_66_code_55 : decode jdk_42_method_66_code 55 = .ok (.ireturn, 1) := by decide +kernel
theorem own_pn2 : plainName "java/lang/String" = true := by first | (simp [plainName, overriddenIn]; done) | decide +kernel
theorem own_ef_rm2 (m : MethodId) (p1 : Int32) (A : Nat → Addr) (K : Nat → ClassId) (cs : Int32)  (sb7 : Addr) (sa7 : Addr) (kc7 : ClassId) : entryFrame m #[(.ref (A 6)), (.ref sa7)] 3 = mkF m 0 #[.val (.ref (A 6)), .val (.ref sa7), .unset] [] := by first | (simp [entryFrame, mkF, argsToLocals, Value.category, maxLocals]; done) | rfl
set_option maxRecDepth 65536 in
set_option maxHeartbeats 40000000 in
theorem rm2 (l : Launch) (Z : State) (a0 : Array Value) (hw : ∀ d ∈ tables_1, d.before a0 Z = true) (ws : List Jvm.Cond) (h0 : Heap) (n0 : Nat) (p1 : Int32) (A : Nat → Addr) (K : Nat → ClassId) (cs : Int32)  (sb7 : Addr) (sa7 : Addr) (kc7 : ClassId) (EN : own_St Z A K cs) (OL0 : Old Z n0 h0) (G_F_sa7_java_lang_String_value : Fld Z h0 sa7 "java/lang/String" "value" "[B" (.ref sb7)) (G_A_sb7 : Arv Z h0 sb7 kc7 .byte (2 : Int32) [(.int (60 : Int32)), (.int (62 : Int32))] (.int (0 : Int32))) (G_E_sa7 : Exa Z h0 sa7 "java/lang/String") (G_F_sa7_java_lang_String_coder : Fld Z h0 sa7 "java/lang/String" "coder" "B" (.int (0 : Int32))) :
    MetFree l own_m2 (head1 (Jvm.Cond.code own_m2 jdk_42_method_66_code 3 (some .boolean) :: ws) ({ frames := 1, cells := 0, slots := 0, locals := 14 } : Room)) (fun a U => a = #[(.ref (A 6)), (.ref sa7)] ∧ Z.Warmed39 U.vm ∧ U.heap = h0) (fun _ _ _ _ _ => True) (fun _ U o U' => ∃ v L, o = .returned v ∧ (PQ (some (.int (0 : Int32))) h0 n0) v U'.heap L ∧ FrameEnd U o U' L ({ frames := 1, cells := 0, slots := 0, locals := 14 } : Room).cells ({ frames := 1, cells := 0, slots := 0, locals := 14 } : Room).slots) := by
  refine MetFree.of_bodySF (plainFor_of_name own_pn2) hisR ?_
  intro p e s m args below meth c s₁ Bd hml0 hP hK
  obtain ⟨rfl, hZ, hh⟩ := hP
  have hx := Bd.exec
  have hby := Bd.bytes
  have hml : c.maxLocals = 3 := hml0
  have hown : s.vm.findClass "java/lang/String" = some m.cls := findClass_of_methodNamed Bd.named
  have hnm := (name_of_methodNamed Bd.named Bd.method).1
  have X0 : Stand p l e ({ frames := 1, cells := 0, slots := 0, locals := 14 } : Room) s m #[(.ref (A 6)), (.ref sa7)] below meth c s₁ [] 0 0 := Stand.of_body Bd
  have e0 : s₁.heap = h0 := by rw [← hh, Bd.state]; rfl
  have N0 := Fr.nil n0
  have pre0 : ∀ t, Steps p.tables e below (s₁.setTop (mkF m 0 #[.val (.ref (A 6)), .val (.ref sa7), .unset] [])) t → Steps p.tables e below (s₁.setTop (entryFrame m #[(.ref (A 6)), (.ref sa7)] 3)) t := fun t k => castTop (own_ef_rm2 m p1 A K cs sb7 sa7 kc7) k
  have KK0 : Keep h0 h0 [] := Keep.refl _ _
  obtain ⟨T8, X8, e8, st8⟩ := instY X0 hx hZ hown (hw _ (List.mem_of_getElem? (i := 24) rfl)) e0 (Ins.self G_E_sa7) (g := (mkF m 8 #[.val (.ref (A 6)), .val (.ref sa7), .unset] [(.ref sa7)])) rfl rfl (hb hby own_d_jdk_42_method_66_code_8)
  obtain ⟨T9, X9, e9, st9⟩ := castY X8 hx hZ hown (hw _ (List.mem_of_getElem? (i := 24) rfl)) e8 (Ins.self G_E_sa7) (g := (mkF m 15 #[.val (.ref (A 6)), .val (.ref sa7), .unset] [(.ref sa7)])) rfl rfl (hb hby own_d_jdk_42_method_66_code_15)
  obtain ⟨T10, X10, e10, st10⟩ := getS2 X9 hx hZ hown (host := "") (Or.inl (hw _ (List.mem_of_getElem? (i := 26) rfl))) Via.refl e9 (EN.2.2.2.2.1.2.2.2.2.1.ext OL0.2) (g := (mkF m 19 #[.val (.ref (A 6)), .val (.ref sa7), .val (.ref sa7)] [])) rfl (hb hby own_d_jdk_42_method_66_code_19)
  obtain ⟨T11, X11, e11, st11⟩ := getF X10 hx hZ hown (host := "") (Or.inl (hw _ (List.mem_of_getElem? (i := 27) rfl))) Via.refl e10 (EN.2.2.2.2.1.2.2.2.2.2.2.2.1.ext OL0.2) (g := (mkF m 26 #[.val (.ref (A 6)), .val (.ref sa7), .val (.ref sa7)] [(.ref (A 6))])) rfl rfl (hb hby own_d_jdk_42_method_66_code_26)
  obtain ⟨T12, X12, e12, st12⟩ := getF X11 hx hZ hown (host := "") (Or.inl (hw _ (List.mem_of_getElem? (i := 27) rfl))) Via.refl e11 G_F_sa7_java_lang_String_coder (g := (mkF m 30 #[.val (.ref (A 6)), .val (.ref sa7), .val (.ref sa7)] [(.ref sa7), (.int (0 : Int32))])) rfl rfl (hb hby own_d_jdk_42_method_66_code_30)
  obtain ⟨T13, X13, e13, st13⟩ := getF X12 hx hZ hown (host := "") (Or.inl (hw _ (List.mem_of_getElem? (i := 28) rfl))) Via.refl e12 (EN.2.2.2.1.1.ext OL0.2) (g := (mkF m 37 #[.val (.ref (A 6)), .val (.ref sa7), .val (.ref sa7)] [(.ref (A 6))])) rfl rfl (hb hby own_d_jdk_42_method_66_code_37)
  obtain ⟨T14, X14, e14, st14⟩ := getF X13 hx hZ hown (host := "") (Or.inl (hw _ (List.mem_of_getElem? (i := 28) rfl))) Via.refl e13 G_F_sa7_java_lang_String_value (g := (mkF m 41 #[.val (.ref (A 6)), .val (.ref sa7), .val (.ref sa7)] [(.ref sa7), (.ref (A 12))])) rfl rfl (hb hby own_d_jdk_42_method_66_code_41)
  obtain ⟨_, _, ⟨T17, L17, k17, n17⟩, -, X17, ⟨Lc17, hQ17, l17, y17, z17⟩, st17⟩ := Jvm.LawKit.callS X14 hx (y := own_m7) hown (mvT hZ (hw _ (List.mem_of_getElem? (i := 29) rfl))) (mvT hZ (hw _ (List.mem_of_getElem? (i := 30) rfl))) (mvT hZ (hw _ (List.mem_of_getElem? (i := 31) rfl))) (mvT hZ (hw _ (List.mem_of_getElem? (i := 32) rfl))) (by decide) (backOf (W := 0) (rm3 l Z a0 hw [] h0 n0 p1 A K cs sb7 kc7 EN OL0 G_A_sb7) hZ (hw _ (List.mem_of_getElem? (i := 32) rfl)) (hw _ (List.mem_of_getElem? (i := 31) rfl)) (by decide) (by decide)) (g := (mkF m 44 #[.val (.ref (A 6)), .val (.ref sa7), .val (.ref sa7)] [(.ref sb7), (.ref (A 12))])) rfl (by rw [hml]; rfl) (argsL := [(.ref (A 12)), (.ref sb7)]) (rest := []) (lenOf own_pd1 rfl) rfl (by show 2 * 0 + _ ≤ _; exact Nat.le_of_eq rfl) (hb hby own_d_jdk_42_method_66_code_44) (fun _ _ => ⟨rfl, e14, (by decide : 0 + 0 ≤ _), (by decide : 0 + 0 ≤ _)⟩)
  dsimp only [Pt.U, Pt.locs, Pt.cells, Pt.slots] at X17 l17 y17 z17 st17 hQ17
  subst l17 y17 z17
  obtain ⟨rfl, N17q, e17⟩ := hQ17
  have N17 := Fr.app N0 N17q
  obtain ⟨fs, hr, hrun, hended, hW, hsame⟩ := X17.leave (v := some (.int (0 : Int32))) (fun h => by rw [Bd.returns] at h; cases h)
  refine ⟨_, _, pre0 _ ?_, hrun, hended, _, _, rfl, ?_, ⟨_, rfl⟩, hW, hsame.mono (by decide) (by decide)⟩
  · show Steps p.tables e below (s₁.setTop (mkF m 0 #[.val (.ref (A 6)), .val (.ref sa7), .unset] [])) _
    refine XS.aloadN X0.here hx rfl (hb hby own_d_jdk_42_method_66_code_0) rfl rfl ?_
    show Steps p.tables e below (s₁.setTop (mkF m 1 #[.val (.ref (A 6)), .val (.ref sa7), .unset] [(.ref (A 6))])) _
    refine XS.aloadN X0.here hx rfl (hb hby own_d_jdk_42_method_66_code_1) rfl rfl ?_
    show Steps p.tables e below (s₁.setTop (mkF m 2 #[.val (.ref (A 6)), .val (.ref sa7), .unset] [(.ref sa7), (.ref (A 6))])) _
    refine Jvm.RoadKit.acmp (g := (mkF m 2 #[.val (.ref (A 6)), .val (.ref sa7), .unset] [(.ref sa7), (.ref (A 6))])) X0 hx rfl rfl rfl (pc0 := 2) (pc' := 7) (same := false) rfl (hb hby own_d_jdk_42_method_66_code_2) rfl (decide_eq_false fun q => (Fld.ne (EN.2.2.2.1.1.ext OL0.2) G_F_sa7_java_lang_String_value (fun h => arv_ne (EN.2.2.2.1.2.1.ext OL0.2) G_A_sb7 (Or.inl (by decide)) (Value.ref.inj h))) (Value.ref.inj q)) (by decide) (by decide) ?_
    show Steps p.tables e below (s₁.setTop (mkF m 7 #[.val (.ref (A 6)), .val (.ref sa7), .unset] [])) _
    refine XS.aloadN X0.here hx rfl (hb hby own_d_jdk_42_method_66_code_7) rfl rfl ?_
    show Steps p.tables e below (s₁.setTop (mkF m 8 #[.val (.ref (A 6)), .val (.ref sa7), .unset] [(.ref sa7)])) _
    refine st8 _ ?_
    show Steps p.tables e below (T8.setTop (mkF m 11 #[.val (.ref (A 6)), .val (.ref sa7), .unset] [(.int (1 : Int32))])) _
    refine XS.ifNo X8.here hx rfl (hb hby own_d_jdk_42_method_66_code_11) rfl ((if0 _ _).trans (feq (by decide : ¬ ((1 : Int32) = (0 : Int32)))).1) ?_
    show Steps p.tables e below (T8.setTop (mkF m 14 #[.val (.ref (A 6)), .val (.ref sa7), .unset] [])) _
    refine XS.aloadN X8.here hx rfl (hb hby own_d_jdk_42_method_66_code_14) rfl rfl ?_
    show Steps p.tables e below (T8.setTop (mkF m 15 #[.val (.ref (A 6)), .val (.ref sa7), .unset] [(.ref sa7)])) _
    refine st9 _ ?_
    show Steps p.tables e below (T9.setTop (mkF m 18 #[.val (.ref (A 6)), .val (.ref sa7), .unset] [(.ref sa7)])) _
    refine XS.astoreN X9.here hx rfl (hb hby own_d_jdk_42_method_66_code_18) rfl rfl (l' := #[.val (.ref (A 6)), .val (.ref sa7), .val (.ref sa7)]) rfl ?_
    show Steps p.tables e below (T9.setTop (mkF m 19 #[.val (.ref (A 6)), .val (.ref sa7), .val (.ref sa7)] [])) _
    refine st10 _ ?_
    show Steps p.tables e below (T10.setTop (mkF m 22 #[.val (.ref (A 6)), .val (.ref sa7), .val (.ref sa7)] [(.int cs)])) _
    refine XS.ifNo X10.here hx rfl (hb hby own_d_jdk_42_method_66_code_22) rfl ((if0 _ _).trans (feq EN.2.2.2.2.1.2.2.2.2.2.1).1) ?_
    show Steps p.tables e below (T10.setTop (mkF m 25 #[.val (.ref (A 6)), .val (.ref sa7), .val (.ref sa7)] [])) _
    refine XS.aloadN X10.here hx rfl (hb hby own_d_jdk_42_method_66_code_25) rfl rfl ?_
    show Steps p.tables e below (T10.setTop (mkF m 26 #[.val (.ref (A 6)), .val (.ref sa7), .val (.ref sa7)] [(.ref (A 6))])) _
    refine st11 _ ?_
    show Steps p.tables e below (T11.setTop (mkF m 29 #[.val (.ref (A 6)), .val (.ref sa7), .val (.ref sa7)] [(.int (0 : Int32))])) _
    refine XS.aloadN X11.here hx rfl (hb hby own_d_jdk_42_method_66_code_29) rfl rfl ?_
    show Steps p.tables e below (T11.setTop (mkF m 30 #[.val (.ref (A 6)), .val (.ref sa7), .val (.ref sa7)] [(.ref sa7), (.int (0 : Int32))])) _
    refine st12 _ ?_
    show Steps p.tables e below (T12.setTop (mkF m 33 #[.val (.ref (A 6)), .val (.ref sa7), .val (.ref sa7)] [(.int (0 : Int32)), (.int (0 : Int32))])) _
    refine XS.icmpNo X12.here hx rfl (hb hby own_d_jdk_42_method_66_code_33) rfl (teq (by decide : (0 : Int32) = (0 : Int32))).2 ?_
    show Steps p.tables e below (T12.setTop (mkF m 36 #[.val (.ref (A 6)), .val (.ref sa7), .val (.ref sa7)] [])) _
    refine XS.aloadN X12.here hx rfl (hb hby own_d_jdk_42_method_66_code_36) rfl rfl ?_
    show Steps p.tables e below (T12.setTop (mkF m 37 #[.val (.ref (A 6)), .val (.ref sa7), .val (.ref sa7)] [(.ref (A 6))])) _
    refine st13 _ ?_
    show Steps p.tables e below (T13.setTop (mkF m 40 #[.val (.ref (A 6)), .val (.ref sa7), .val (.ref sa7)] [(.ref (A 12))])) _
    refine XS.aloadN X13.here hx rfl (hb hby own_d_jdk_42_method_66_code_40) rfl rfl ?_
    show Steps p.tables e below (T13.setTop (mkF m 41 #[.val (.ref (A 6)), .val (.ref sa7), .val (.ref sa7)] [(.ref sa7), (.ref (A 12))])) _
    refine st14 _ ?_
    show Steps p.tables e below (T14.setTop (mkF m 44 #[.val (.ref (A 6)), .val (.ref sa7), .val (.ref sa7)] [(.ref sb7), (.ref (A 12))])) _
    refine st17 _ ?_
    show Steps p.tables e below (T17.setTop (mkF m 47 #[.val (.ref (A 6)), .val (.ref sa7), .val (.ref sa7)] [(.int (0 : Int32))])) _
    refine XS.ifYes X17.here hx rfl (pc0 := 47) (pc' := 54) rfl (hb hby own_d_jdk_42_method_66_code_47) rfl ((if0 _ _).trans (teq (by decide : (0 : Int32) = (0 : Int32))).1) (by decide) (by decide) ?_
    show Steps p.tables e below (T17.setTop (mkF m 54 #[.val (.ref (A 6)), .val (.ref sa7), .val (.ref sa7)] [])) _
    refine XS.iconst X17.here hx rfl (hb hby own_d_jdk_42_method_66_code_54) ?_
    show Steps p.tables e below (T17.setTop (mkF m 55 #[.val (.ref (A 6)), .val (.ref sa7), .val (.ref sa7)] [(.int (0 : Int32))])) _
    exact retN X17 hx (t := .boolean) Bd.returns (by simp) (hb hby own_d_jdk_42_method_66_code_55) hr
  · show PQ (some (.int (0 : Int32))) h0 n0 _ T17.heap _
    rw [e17]
    exact ⟨rfl, N17, rfl⟩
theorem own_d_jdk_42_method_152_code_0 : decode jdk_42_method_152_code 0 = .ok (.getstatic 38, 3) := by decide +kernel
theorem own_d_jdk_42_method_152_code_3 : decode jdk_42_method_152_code 3 = .ok (.ifCond .eq 10, 3) := by decide +kernel
theorem own_d_jdk_42_method_152_code_6 : decode jdk_42_method_152_code 6 = .ok (.aload_n 0, 1) := by decide +kernel
theorem own_d_jdk_42_method_152_code_7 : decode jdk_42_method_152_code 7 = .ok (.getfield 15, 3) := by decide +kernel
theorem own_d_jdk_42_method_152_code_10 : decode jdk_42_method_152_code 10 = .ok (.goto 4, 3) := by decide +kernel
theorem own_d_jdk_42_method_152_code_14 : decode jdk_42_method_152_code 14 = .ok (.ireturn, 1) := by decide +kernel
theorem own_ef_rm5 (m : MethodId) (p1 : Int32) (A : Nat → Addr) (K : Nat → ClassId) (cs : Int32)  : entryFrame m #[(.ref (A 6))] 1 = mkF m 0 #[.val (.ref (A 6))] [] := by first | (simp [entryFrame, mkF, argsToLocals, Value.category, maxLocals]; done) | rfl
set_option maxRecDepth 65536 in
set_option maxHeartbeats 40000000 in
theorem rm5 (l : Launch) (Z : State) (a0 : Array Value) (hw : ∀ d ∈ tables_1, d.before a0 Z = true) (ws : List Jvm.Cond) (h0 : Heap) (n0 : Nat) (p1 : Int32) (A : Nat → Addr) (K : Nat → ClassId) (cs : Int32)  (EN : own_St Z A K cs) (OL0 : Old Z n0 h0) :
    MetFree l own_m4 (head1 (Jvm.Cond.code own_m4 jdk_42_method_152_code 1 (some .byte) :: ws) ({ frames := 0, cells := 0, slots := 0, locals := 0 } : Room)) (fun a U => a = #[(.ref (A 6))] ∧ Z.Warmed39 U.vm ∧ U.heap = h0) (fun _ _ _ _ _ => True) (fun _ U o U' => ∃ v L, o = .returned v ∧ (PQ (some (.int (0 : Int32))) h0 n0) v U'.heap L ∧ FrameEnd U o U' L ({ frames := 0, cells := 0, slots := 0, locals := 0 } : Room).cells ({ frames := 0, cells := 0, slots := 0, locals := 0 } : Room).slots) := by
  refine MetFree.of_bodySF (plainFor_of_name own_pn2) hisR ?_
  intro p e s m args below meth c s₁ Bd hml0 hP hK
  obtain ⟨rfl, hZ, hh⟩ := hP
  have hx := Bd.exec
  have hby := Bd.bytes
  have hml : c.maxLocals = 1 := hml0
  have hown : s.vm.findClass "java/lang/String" = some m.cls := findClass_of_methodNamed Bd.named
  have hnm := (name_of_methodNamed Bd.named Bd.method).1
  have X0 : Stand p l e ({ frames := 0, cells := 0, slots := 0, locals := 0 } : Room) s m #[(.ref (A 6))] below meth c s₁ [] 0 0 := Stand.of_body Bd
  have e0 : s₁.heap = h0 := by rw [← hh, Bd.state]; rfl
  have N0 := Fr.nil n0
  have pre0 : ∀ t, Steps p.tables e below (s₁.setTop (mkF m 0 #[.val (.ref (A 6))] [])) t → Steps p.tables e below (s₁.setTop (entryFrame m #[(.ref (A 6))] 1)) t := fun t k => castTop (own_ef_rm5 m p1 A K cs ) k
  have KK0 : Keep h0 h0 [] := Keep.refl _ _
  obtain ⟨T21, X21, e21, st21⟩ := getS2 X0 hx hZ hown (host := "") (Or.inl (hw _ (List.mem_of_getElem? (i := 26) rfl))) Via.refl e0 (EN.2.2.2.2.1.2.2.2.2.1.ext OL0.2) (g := (mkF m 0 #[.val (.ref (A 6))] [])) rfl (hb hby own_d_jdk_42_method_152_code_0)
  obtain ⟨T22, X22, e22, st22⟩ := getF X21 hx hZ hown (host := "") (Or.inl (hw _ (List.mem_of_getElem? (i := 27) rfl))) Via.refl e21 (EN.2.2.2.2.1.2.2.2.2.2.2.2.1.ext OL0.2) (g := (mkF m 7 #[.val (.ref (A 6))] [(.ref (A 6))])) rfl rfl (hb hby own_d_jdk_42_method_152_code_7)
  obtain ⟨fs, hr, hrun, hended, hW, hsame⟩ := X22.leave (v := some (.int (0 : Int32))) (fun h => by rw [Bd.returns] at h; cases h)
  refine ⟨_, _, pre0 _ ?_, hrun, hended, _, _, rfl, ?_, ⟨_, rfl⟩, hW, hsame.mono (by decide) (by decide)⟩
  · show Steps p.tables e below (s₁.setTop (mkF m 0 #[.val (.ref (A 6))] [])) _
    refine st21 _ ?_
    show Steps p.tables e below (T21.setTop (mkF m 3 #[.val (.ref (A 6))] [(.int cs)])) _
    refine XS.ifNo X21.here hx rfl (hb hby own_d_jdk_42_method_152_code_3) rfl ((if0 _ _).trans (feq EN.2.2.2.2.1.2.2.2.2.2.1).1) ?_
    show Steps p.tables e below (T21.setTop (mkF m 6 #[.val (.ref (A 6))] [])) _
    refine XS.aloadN X21.here hx rfl (hb hby own_d_jdk_42_method_152_code_6) rfl rfl ?_
    show Steps p.tables e below (T21.setTop (mkF m 7 #[.val (.ref (A 6))] [(.ref (A 6))])) _
    refine st22 _ ?_
    show Steps p.tables e below (T22.setTop (mkF m 10 #[.val (.ref (A 6))] [(.int (0 : Int32))])) _
    refine XS.goto X22.here hx rfl (pc0 := 10) (pc' := 14) rfl (hb hby own_d_jdk_42_method_152_code_10) (by decide) (by decide) ?_
    show Steps p.tables e below (T22.setTop (mkF m 14 #[.val (.ref (A 6))] [(.int (0 : Int32))])) _
    exact retN X22 hx (t := .byte) Bd.returns (by simp) (hb hby own_d_jdk_42_method_152_code_14) hr
  · show PQ (some (.int (0 : Int32))) h0 n0 _ T22.heap _
    rw [e22]
    exact ⟨rfl, N0, rfl⟩
theorem own_d_jdk_42_method_54_code_0 : decode jdk_42_method_54_code 0 = .ok (.aload_n 0, 1) := by decide +kernel
theorem own_d_jdk_42_method_54_code_1 : decode jdk_42_method_54_code 1 = .ok (.getfield 9, 3) := by decide +kernel
theorem own_d_jdk_42_method_54_code_4 : decode jdk_42_method_54_code 4 = .ok (.arraylength, 1) := by decide +kernel
theorem own_d_jdk_42_method_54_code_5 : decode jdk_42_method_54_code 5 = .ok (.aload_n 0, 1) := by decide +kernel
theorem own_d_jdk_42_method_54_code_6 : decode jdk_42_method_54_code 6 = .ok (.invokevirtual 335, 3) := by decide +kernel
theorem own_d_jdk_42_method_54_code_9 : decode jdk_42_method_54_code 9 = .ok (.ishr, 1) := by decide +kernel
theorem own_d_jdk_42_method_54_code_10 : decode jdk_42_method_54_code 10 = .ok (.ireturn, 1) := by decide +kernel
theorem own_ef_rm4 (m : MethodId) (p1 : Int32) (A : Nat → Addr) (K : Nat → ClassId) (cs : Int32)  : entryFrame m #[(.ref (A 6))] 1 = mkF m 0 #[.val (.ref (A 6))] [] := by first | (simp [entryFrame, mkF, argsToLocals, Value.category, maxLocals]; done) | rfl
set_option maxRecDepth 65536 in
set_option maxHeartbeats 40000000 in
theorem rm4 (l : Launch) (Z : State) (a0 : Array Value) (hw : ∀ d ∈ tables_1, d.before a0 Z = true) (ws : List Jvm.Cond) (h0 : Heap) (n0 : Nat) (p1 : Int32) (A : Nat → Addr) (K : Nat → ClassId) (cs : Int32)  (EN : own_St Z A K cs) (OL0 : Old Z n0 h0) :
    MetFree l own_m5 (head1 (Jvm.Cond.code own_m5 jdk_42_method_54_code 1 (some .int) :: ws) ({ frames := 1, cells := 0, slots := 0, locals := 13 } : Room)) (fun a U => a = #[(.ref (A 6))] ∧ Z.Warmed39 U.vm ∧ U.heap = h0) (fun _ _ _ _ _ => True) (fun _ U o U' => ∃ v L, o = .returned v ∧ (PQ (some (.int (1 : Int32))) h0 n0) v U'.heap L ∧ FrameEnd U o U' L ({ frames := 1, cells := 0, slots := 0, locals := 13 } : Room).cells ({ frames := 1, cells := 0, slots := 0, locals := 13 } : Room).slots) := by
  refine MetFree.of_bodySF (plainFor_of_name own_pn2) hisR ?_
  intro p e s m args below meth c s₁ Bd hml0 hP hK
  obtain ⟨rfl, hZ, hh⟩ := hP
  have hx := Bd.exec
  have hby := Bd.bytes
  have hml : c.maxLocals = 1 := hml0
  have hown : s.vm.findClass "java/lang/String" = some m.cls := findClass_of_methodNamed Bd.named
  have hnm := (name_of_methodNamed Bd.named Bd.method).1
  have X0 : Stand p l e ({ frames := 1, cells := 0, slots := 0, locals := 13 } : Room) s m #[(.ref (A 6))] below meth c s₁ [] 0 0 := Stand.of_body Bd
  have e0 : s₁.heap = h0 := by rw [← hh, Bd.state]; rfl
  have N0 := Fr.nil n0
  have pre0 : ∀ t, Steps p.tables e below (s₁.setTop (mkF m 0 #[.val (.ref (A 6))] [])) t → Steps p.tables e below (s₁.setTop (entryFrame m #[(.ref (A 6))] 1)) t := fun t k => castTop (own_ef_rm4 m p1 A K cs ) k
  have KK0 : Keep h0 h0 [] := Keep.refl _ _
  obtain ⟨T19, X19, e19, st19⟩ := getF X0 hx hZ hown (host := "") (Or.inl (hw _ (List.mem_of_getElem? (i := 28) rfl))) Via.refl e0 (EN.2.2.2.1.1.ext OL0.2) (g := (mkF m 1 #[.val (.ref (A 6))] [(.ref (A 6))])) rfl rfl (hb hby own_d_jdk_42_method_54_code_1)
  obtain ⟨cl20, Ar20, -, Sz20, Nn20, -, -⟩ := (id (EN.2.2.2.1.2.1.ext OL0.2))
  obtain ⟨cq23, kq23, q23a, q23b, q23c⟩ := isOf hZ e19 (EN.2.1.2.2.2.2.2.1.ext OL0.2)
  obtain ⟨_, _, ⟨T23, L23, k23, n23⟩, -, X23, ⟨Lc23, hQ23, l23, y23, z23⟩, st23⟩ := X19.virtualBack hx (y := own_m4) (z := own_m4) hown (mvT hZ (hw _ (List.mem_of_getElem? (i := 38) rfl))) (mvT hZ (hw _ (List.mem_of_getElem? (i := 39) rfl))) (notFace_of_selects (args := #[]) (mvT hZ (hw _ (List.mem_of_getElem? (i := 41) rfl)))) (mvT hZ (hw _ (List.mem_of_getElem? (i := 41) rfl))) (mvT hZ (hw _ (List.mem_of_getElem? (i := 40) rfl))) (by decide) (backOf (W := 1) (rm5 l Z a0 hw [] h0 n0 p1 A K cs EN OL0) hZ (hw _ (List.mem_of_getElem? (i := 42) rfl)) (hw _ (List.mem_of_getElem? (i := 12) rfl)) (by decide) (by decide)) q23a q23c (g := (mkF m 6 #[.val (.ref (A 6))] [(.ref (A 6)), (.int (1 : Int32))])) rfl (by rw [hml]; rfl) (Steps.refl _) (argsL := []) (rest := [(.int (1 : Int32))]) (lenOf own_pd3 rfl) rfl (by show 2 * 0 + _ ≤ _; exact Nat.le_of_eq rfl) (hb hby own_d_jdk_42_method_54_code_6) (fun _ _ => ⟨rfl, e19, (by decide : 0 + 0 ≤ _), (by decide : 0 + 0 ≤ _)⟩)
  dsimp only [Pt.U, Pt.locs, Pt.cells, Pt.slots] at X23 l23 y23 z23 st23 hQ23
  subst l23 y23 z23
  obtain ⟨rfl, N23q, e23⟩ := hQ23
  have N23 := Fr.app N0 N23q
  obtain ⟨fs, hr, hrun, hended, hW, hsame⟩ := X23.leave (v := some (.int (1 : Int32))) (fun h => by rw [Bd.returns] at h; cases h)
  refine ⟨_, _, pre0 _ ?_, hrun, hended, _, _, rfl, ?_, ⟨_, rfl⟩, hW, hsame.mono (by decide) (by decide)⟩
  · show Steps p.tables e below (s₁.setTop (mkF m 0 #[.val (.ref (A 6))] [])) _
    refine XS.aloadN X0.here hx rfl (hb hby own_d_jdk_42_method_54_code_0) rfl rfl ?_
    show Steps p.tables e below (s₁.setTop (mkF m 1 #[.val (.ref (A 6))] [(.ref (A 6))])) _
    refine st19 _ ?_
    show Steps p.tables e below (T19.setTop (mkF m 4 #[.val (.ref (A 6))] [(.ref (A 12))])) _
    refine X19.arraylength hx (by rw [e19]; exact Ar20.1) (State.isArrayOf_alike hZ.alike Ar20.2.1) (g := (mkF m 4 #[.val (.ref (A 6))] [(.ref (A 12))])) rfl rfl (hb hby own_d_jdk_42_method_54_code_4) _ ?_
    rw [len_of Sz20 Nn20]
    show Steps p.tables e below (T19.setTop (mkF m 5 #[.val (.ref (A 6))] [(.int (1 : Int32))])) _
    refine XS.aloadN X19.here hx rfl (hb hby own_d_jdk_42_method_54_code_5) rfl rfl ?_
    show Steps p.tables e below (T19.setTop (mkF m 6 #[.val (.ref (A 6))] [(.ref (A 6)), (.int (1 : Int32))])) _
    refine st23.trans ?_
    show Steps p.tables e below (T23.setTop (mkF m 9 #[.val (.ref (A 6))] [(.int (0 : Int32)), (.int (1 : Int32))])) _
    refine XS.ishr X23.here hx rfl (hb hby own_d_jdk_42_method_54_code_9) rfl ?_
    show Steps p.tables e below (T23.setTop (mkF m 10 #[.val (.ref (A 6))] [(.int (1 : Int32))])) _
    exact retI X23 hx Bd.returns (hb hby own_d_jdk_42_method_54_code_10) hr
  · show PQ (some (.int (1 : Int32))) h0 n0 _ T23.heap _
    rw [e23]
    exact ⟨rfl, N23, rfl⟩
theorem own_d_jdk_42_method_154_code_0 : decode jdk_42_method_154_code 0 = .ok (.getstatic 38, 3) := by decide +kernel
theorem own_d_jdk_42_method_154_code_3 : decode jdk_42_method_154_code 3 = .ok (.ifCond .eq 14, 3) := by decide +kernel
theorem own_d_jdk_42_method_154_code_6 : decode jdk_42_method_154_code 6 = .ok (.aload_n 0, 1) := by decide +kernel
theorem own_d_jdk_42_method_154_code_7 : decode jdk_42_method_154_code 7 = .ok (.getfield 15, 3) := by decide +kernel
theorem own_d_jdk_42_method_154_code_10 : decode jdk_42_method_154_code 10 = .ok (.ifCond .ne 7, 3) := by decide +kernel
theorem own_d_jdk_42_method_154_code_13 : decode jdk_42_method_154_code 13 = .ok (.iconst 1, 1) := by decide +kernel
theorem own_d_jdk_42_method_154_code_14 : decode jdk_42_method_154_code 14 = .ok (.goto 4, 3) := by decide +kernel
theorem own_d_jdk_42_method_154_code_18 : decode jdk_42_method_154_code 18 = .ok (.ireturn, 1) := by decide +kernel
theorem own_ef_rm7 (m : MethodId) (p1 : Int32) (A : Nat → Addr) (K : Nat → ClassId) (cs : Int32)  : entryFrame m #[(.ref (A 6))] 1 = mkF m 0 #[.val (.ref (A 6))] [] := by first | (simp [entryFrame, mkF, argsToLocals, Value.category, maxLocals]; done) | rfl
set_option maxRecDepth 65536 in
set_option maxHeartbeats 40000000 in
theorem rm7 (l : Launch) (Z : State) (a0 : Array Value) (hw : ∀ d ∈ tables_1, d.before a0 Z = true) (ws : List Jvm.Cond) (h0 : Heap) (n0 : Nat) (p1 : Int32) (A : Nat → Addr) (K : Nat → ClassId) (cs : Int32)  (EN : own_St Z A K cs) (OL0 : Old Z n0 h0) :
    MetFree l own_m6 (head1 (Jvm.Cond.code own_m6 jdk_42_method_154_code 1 (some .boolean) :: ws) ({ frames := 0, cells := 0, slots := 0, locals := 0 } : Room)) (fun a U => a = #[(.ref (A 6))] ∧ Z.Warmed39 U.vm ∧ U.heap = h0) (fun _ _ _ _ _ => True) (fun _ U o U' => ∃ v L, o = .returned v ∧ (PQ (some (.int (1 : Int32))) h0 n0) v U'.heap L ∧ FrameEnd U o U' L ({ frames := 0, cells := 0, slots := 0, locals := 0 } : Room).cells ({ frames := 0, cells := 0, slots := 0, locals := 0 } : Room).slots) := by
  refine MetFree.of_bodySF (plainFor_of_name own_pn2) hisR ?_
  intro p e s m args below meth c s₁ Bd hml0 hP hK
  obtain ⟨rfl, hZ, hh⟩ := hP
  have hx := Bd.exec
  have hby := Bd.bytes
  have hml : c.maxLocals = 1 := hml0
  have hown : s.vm.findClass "java/lang/String" = some m.cls := findClass_of_methodNamed Bd.named
  have hnm := (name_of_methodNamed Bd.named Bd.method).1
  have X0 : Stand p l e ({ frames := 0, cells := 0, slots := 0, locals := 0 } : Room) s m #[(.ref (A 6))] below meth c s₁ [] 0 0 := Stand.of_body Bd
  have e0 : s₁.heap = h0 := by rw [← hh, Bd.state]; rfl
  have N0 := Fr.nil n0
  have pre0 : ∀ t, Steps p.tables e below (s₁.setTop (mkF m 0 #[.val (.ref (A 6))] [])) t → Steps p.tables e below (s₁.setTop (entryFrame m #[(.ref (A 6))] 1)) t := fun t k => castTop (own_ef_rm7 m p1 A K cs ) k
  have KK0 : Keep h0 h0 [] := Keep.refl _ _
  obtain ⟨T25, X25, e25, st25⟩ := getS2 X0 hx hZ hown (host := "") (Or.inl (hw _ (List.mem_of_getElem? (i := 26) rfl))) Via.refl e0 (EN.2.2.2.2.1.2.2.2.2.1.ext OL0.2) (g := (mkF m 0 #[.val (.ref (A 6))] [])) rfl (hb hby own_d_jdk_42_method_154_code_0)
  obtain ⟨T26, X26, e26, st26⟩ := getF X25 hx hZ hown (host := "") (Or.inl (hw _ (List.mem_of_getElem? (i := 27) rfl))) Via.refl e25 (EN.2.2.2.2.1.2.2.2.2.2.2.2.1.ext OL0.2) (g := (mkF m 7 #[.val (.ref (A 6))] [(.ref (A 6))])) rfl rfl (hb hby own_d_jdk_42_method_154_code_7)
  obtain ⟨fs, hr, hrun, hended, hW, hsame⟩ := X26.leave (v := some (.int (1 : Int32))) (fun h => by rw [Bd.returns] at h; cases h)
  refine ⟨_, _, pre0 _ ?_, hrun, hended, _, _, rfl, ?_, ⟨_, rfl⟩, hW, hsame.mono (by decide) (by decide)⟩
  · show Steps p.tables e below (s₁.setTop (mkF m 0 #[.val (.ref (A 6))] [])) _
    refine st25 _ ?_
    show Steps p.tables e below (T25.setTop (mkF m 3 #[.val (.ref (A 6))] [(.int cs)])) _
    refine XS.ifNo X25.here hx rfl (hb hby own_d_jdk_42_method_154_code_3) rfl ((if0 _ _).trans (feq EN.2.2.2.2.1.2.2.2.2.2.1).1) ?_
    show Steps p.tables e below (T25.setTop (mkF m 6 #[.val (.ref (A 6))] [])) _
    refine XS.aloadN X25.here hx rfl (hb hby own_d_jdk_42_method_154_code_6) rfl rfl ?_
    show Steps p.tables e below (T25.setTop (mkF m 7 #[.val (.ref (A 6))] [(.ref (A 6))])) _
    refine st26 _ ?_
    show Steps p.tables e below (T26.setTop (mkF m 10 #[.val (.ref (A 6))] [(.int (0 : Int32))])) _
    refine XS.ifNo X26.here hx rfl (hb hby own_d_jdk_42_method_154_code_10) rfl ((if0 _ _).trans (teq (by decide : (0 : Int32) = (0 : Int32))).2) ?_
    show Steps p.tables e below (T26.setTop (mkF m 13 #[.val (.ref (A 6))] [])) _
    refine XS.iconst X26.here hx rfl (hb hby own_d_jdk_42_method_154_code_13) ?_
    show Steps p.tables e below (T26.setTop (mkF m 14 #[.val (.ref (A 6))] [(.int (1 : Int32))])) _
    refine XS.goto X26.here hx rfl (pc0 := 14) (pc' := 18) rfl (hb hby own_d_jdk_42_method_154_code_14) (by decide) (by decide) ?_
    show Steps p.tables e below (T26.setTop (mkF m 18 #[.val (.ref (A 6))] [(.int (1 : Int32))])) _
    exact retN X26 hx (t := .boolean) Bd.returns (by simp) (hb hby own_d_jdk_42_method_154_code_18) hr
  · show PQ (some (.int (1 : Int32))) h0 n0 _ T26.heap _
    rw [e26]
    exact ⟨rfl, N0, rfl⟩
theorem own_d_jdk_41_method_11_code_0 : decode jdk_41_method_11_code 0 = .ok (.iload_n 0, 1) := by decide +kernel
theorem own_d_jdk_41_method_11_code_1 : decode jdk_41_method_11_code 1 = .ok (.ifCond .lt 8, 3) := by decide +kernel
theorem own_d_jdk_41_method_11_code_4 : decode jdk_41_method_11_code 4 = .ok (.iload_n 0, 1) := by decide +kernel
theorem own_d_jdk_41_method_11_code_5 : decode jdk_41_method_11_code 5 = .ok (.iload_n 1, 1) := by decide +kernel
theorem own_d_jdk_41_method_11_code_6 : decode jdk_41_method_11_code 6 = .ok (.if_icmp .lt 10, 3) := by decide +kernel
theorem own_d_jdk_41_method_11_code_16 : decode jdk_41_method_11_code 16 = .ok (.iload_n 0, 1) := by decide +kernel
theorem own_d_jdk_41_method_11_code_17 : decode jdk_41_method_11_code 17 = .ok (.ireturn, 1) := by decide +kernel
theorem own_pn3 : plainName "jdk/internal/util/Preconditions" = true := by first | (simp [plainName, overriddenIn]; done) | decide +kernel
theorem own_ef_rm10 (m : MethodId) (p1 : Int32) (A : Nat → Addr) (K : Nat → ClassId) (cs : Int32)  : entryFrame m #[(.int (0 : Int32)), (.int (1 : Int32)), .null] 3 = mkF m 0 #[.val (.int (0 : Int32)), .val (.int (1 : Int32)), .val .null] [] := by first | (simp [entryFrame, mkF, argsToLocals, Value.category, maxLocals]; done) | rfl
set_option maxRecDepth 65536 in
set_option maxHeartbeats 40000000 in
theorem rm10 (l : Launch) (Z : State) (a0 : Array Value) (hw : ∀ d ∈ tables_1, d.before a0 Z = true) (ws : List Jvm.Cond) (h0 : Heap) (n0 : Nat) (p1 : Int32) (A : Nat → Addr) (K : Nat → ClassId) (cs : Int32)  (EN : own_St Z A K cs) (OL0 : Old Z n0 h0) :
    MetFree l own_m9 (head1 (Jvm.Cond.code own_m9 jdk_41_method_11_code 3 (some .int) :: ws) ({ frames := 0, cells := 0, slots := 0, locals := 0 } : Room)) (fun a U => a = #[(.int (0 : Int32)), (.int (1 : Int32)), .null] ∧ Z.Warmed39 U.vm ∧ U.heap = h0) (fun _ _ _ _ _ => True) (fun _ U o U' => ∃ v L, o = .returned v ∧ (PQ (some (.int (0 : Int32))) h0 n0) v U'.heap L ∧ FrameEnd U o U' L ({ frames := 0, cells := 0, slots := 0, locals := 0 } : Room).cells ({ frames := 0, cells := 0, slots := 0, locals := 0 } : Room).slots) := by
  refine MetFree.of_bodySF (plainFor_of_name own_pn3) hisR ?_
  intro p e s m args below meth c s₁ Bd hml0 hP hK
  obtain ⟨rfl, hZ, hh⟩ := hP
  have hx := Bd.exec
  have hby := Bd.bytes
  have hml : c.maxLocals = 3 := hml0
  have hown : s.vm.findClass "jdk/internal/util/Preconditions" = some m.cls := findClass_of_methodNamed Bd.named
  have hnm := (name_of_methodNamed Bd.named Bd.method).1
  have X0 : Stand p l e ({ frames := 0, cells := 0, slots := 0, locals := 0 } : Room) s m #[(.int (0 : Int32)), (.int (1 : Int32)), .null] below meth c s₁ [] 0 0 := Stand.of_body Bd
  have e0 : s₁.heap = h0 := by rw [← hh, Bd.state]; rfl
  have N0 := Fr.nil n0
  have pre0 : ∀ t, Steps p.tables e below (s₁.setTop (mkF m 0 #[.val (.int (0 : Int32)), .val (.int (1 : Int32)), .val .null] [])) t → Steps p.tables e below (s₁.setTop (entryFrame m #[(.int (0 : Int32)), (.int (1 : Int32)), .null] 3)) t := fun t k => castTop (own_ef_rm10 m p1 A K cs ) k
  have KK0 : Keep h0 h0 [] := Keep.refl _ _
  obtain ⟨fs, hr, hrun, hended, hW, hsame⟩ := X0.leave (v := some (.int (0 : Int32))) (fun h => by rw [Bd.returns] at h; cases h)
  refine ⟨_, _, pre0 _ ?_, hrun, hended, _, _, rfl, ?_, ⟨_, rfl⟩, hW, hsame.mono (by decide) (by decide)⟩
  · show Steps p.tables e below (s₁.setTop (mkF m 0 #[.val (.int (0 : Int32)), .val (.int (1 : Int32)), .val .null] [])) _
    refine XS.iloadN X0.here hx rfl (hb hby own_d_jdk_41_method_11_code_0) rfl ?_
    show Steps p.tables e below (s₁.setTop (mkF m 1 #[.val (.int (0 : Int32)), .val (.int (1 : Int32)), .val .null] [(.int (0 : Int32))])) _
    refine XS.ifNo X0.here hx rfl (hb hby own_d_jdk_41_method_11_code_1) rfl ((if0 _ _).trans (flt (by decide : ¬ ((0 : Int32) < (0 : Int32)))).1) ?_
    show Steps p.tables e below (s₁.setTop (mkF m 4 #[.val (.int (0 : Int32)), .val (.int (1 : Int32)), .val .null] [])) _
    refine XS.iloadN X0.here hx rfl (hb hby own_d_jdk_41_method_11_code_4) rfl ?_
    show Steps p.tables e below (s₁.setTop (mkF m 5 #[.val (.int (0 : Int32)), .val (.int (1 : Int32)), .val .null] [(.int (0 : Int32))])) _
    refine XS.iloadN X0.here hx rfl (hb hby own_d_jdk_41_method_11_code_5) rfl ?_
    show Steps p.tables e below (s₁.setTop (mkF m 6 #[.val (.int (0 : Int32)), .val (.int (1 : Int32)), .val .null] [(.int (1 : Int32)), (.int (0 : Int32))])) _
    refine XS.icmpYes X0.here hx rfl (pc0 := 6) (pc' := 16) rfl (hb hby own_d_jdk_41_method_11_code_6) rfl (tlt (by decide : (0 : Int32) < (1 : Int32))).1 (by decide) (by decide) ?_
    show Steps p.tables e below (s₁.setTop (mkF m 16 #[.val (.int (0 : Int32)), .val (.int (1 : Int32)), .val .null] [])) _
    refine XS.iloadN X0.here hx rfl (hb hby own_d_jdk_41_method_11_code_16) rfl ?_
    show Steps p.tables e below (s₁.setTop (mkF m 17 #[.val (.int (0 : Int32)), .val (.int (1 : Int32)), .val .null] [(.int (0 : Int32))])) _
    exact retI X0 hx Bd.returns (hb hby own_d_jdk_41_method_11_code_17) hr
  · show PQ (some (.int (0 : Int32))) h0 n0 _ s₁.heap _
    rw [e0]
    exact ⟨rfl, N0, rfl⟩
theorem own_ef_rm11 (m : MethodId) (p1 : Int32) (A : Nat → Addr) (K : Nat → ClassId) (cs : Int32)  (af31 : Addr) : entryFrame m #[(.int (0 : Int32)), (.int (1 : Int32)), (.ref af31)] 3 = mkF m 0 #[.val (.int (0 : Int32)), .val (.int (1 : Int32)), .val (.ref af31)] [] := by first | (simp [entryFrame, mkF, argsToLocals, Value.category, maxLocals]; done) | rfl
set_option maxRecDepth 65536 in
set_option maxHeartbeats 40000000 in
theorem rm11 (l : Launch) (Z : State) (a0 : Array Value) (hw : ∀ d ∈ tables_1, d.before a0 Z = true) (ws : List Jvm.Cond) (h0 : Heap) (n0 : Nat) (p1 : Int32) (A : Nat → Addr) (K : Nat → ClassId) (cs : Int32)  (af31 : Addr) (EN : own_St Z A K cs) (OL0 : Old Z n0 h0) :
    MetFree l own_m9 (head1 (Jvm.Cond.code own_m9 jdk_41_method_11_code 3 (some .int) :: ws) ({ frames := 0, cells := 0, slots := 0, locals := 0 } : Room)) (fun a U => a = #[(.int (0 : Int32)), (.int (1 : Int32)), (.ref af31)] ∧ Z.Warmed39 U.vm ∧ U.heap = h0) (fun _ _ _ _ _ => True) (fun _ U o U' => ∃ v L, o = .returned v ∧ (PQ (some (.int (0 : Int32))) h0 n0) v U'.heap L ∧ FrameEnd U o U' L ({ frames := 0, cells := 0, slots := 0, locals := 0 } : Room).cells ({ frames := 0, cells := 0, slots := 0, locals := 0 } : Room).slots) := by
  refine MetFree.of_bodySF (plainFor_of_name own_pn3) hisR ?_
  intro p e s m args below meth c s₁ Bd hml0 hP hK
  obtain ⟨rfl, hZ, hh⟩ := hP
  have hx := Bd.exec
  have hby := Bd.bytes
  have hml : c.maxLocals = 3 := hml0
  have hown : s.vm.findClass "jdk/internal/util/Preconditions" = some m.cls := findClass_of_methodNamed Bd.named
  have hnm := (name_of_methodNamed Bd.named Bd.method).1
  have X0 : Stand p l e ({ frames := 0, cells := 0, slots := 0, locals := 0 } : Room) s m #[(.int (0 : Int32)), (.int (1 : Int32)), (.ref af31)] below meth c s₁ [] 0 0 := Stand.of_body Bd
  have e0 : s₁.heap = h0 := by rw [← hh, Bd.state]; rfl
  have N0 := Fr.nil n0
  have pre0 : ∀ t, Steps p.tables e below (s₁.setTop (mkF m 0 #[.val (.int (0 : Int32)), .val (.int (1 : Int32)), .val (.ref af31)] [])) t → Steps p.tables e below (s₁.setTop (entryFrame m #[(.int (0 : Int32)), (.int (1 : Int32)), (.ref af31)] 3)) t := fun t k => castTop (own_ef_rm11 m p1 A K cs af31) k
  have KK0 : Keep h0 h0 [] := Keep.refl _ _
  obtain ⟨fs, hr, hrun, hended, hW, hsame⟩ := X0.leave (v := some (.int (0 : Int32))) (fun h => by rw [Bd.returns] at h; cases h)
  refine ⟨_, _, pre0 _ ?_, hrun, hended, _, _, rfl, ?_, ⟨_, rfl⟩, hW, hsame.mono (by decide) (by decide)⟩
  · show Steps p.tables e below (s₁.setTop (mkF m 0 #[.val (.int (0 : Int32)), .val (.int (1 : Int32)), .val (.ref af31)] [])) _
    refine XS.iloadN X0.here hx rfl (hb hby own_d_jdk_41_method_11_code_0) rfl ?_
    show Steps p.tables e below (s₁.setTop (mkF m 1 #[.val (.int (0 : Int32)), .val (.int (1 : Int32)), .val (.ref af31)] [(.int (0 : Int32))])) _
    refine XS.ifNo X0.here hx rfl (hb hby own_d_jdk_41_method_11_code_1) rfl ((if0 _ _).trans (flt (by decide : ¬ ((0 : Int32) < (0 : Int32)))).1) ?_
    show Steps p.tables e below (s₁.setTop (mkF m 4 #[.val (.int (0 : Int32)), .val (.int (1 : Int32)), .val (.ref af31)] [])) _
    refine XS.iloadN X0.here hx rfl (hb hby own_d_jdk_41_method_11_code_4) rfl ?_
    show Steps p.tables e below (s₁.setTop (mkF m 5 #[.val (.int (0 : Int32)), .val (.int (1 : Int32)), .val (.ref af31)] [(.int (0 : Int32))])) _
    refine XS.iloadN X0.here hx rfl (hb hby own_d_jdk_41_method_11_code_5) rfl ?_
    show Steps p.tables e below (s₁.setTop (mkF m 6 #[.val (.int (0 : Int32)), .val (.int (1 : Int32)), .val (.ref af31)] [(.int (1 : Int32)), (.int (0 : Int32))])) _
    refine XS.icmpYes X0.here hx rfl (pc0 := 6) (pc' := 16) rfl (hb hby own_d_jdk_41_method_11_code_6) rfl (tlt (by decide : (0 : Int32) < (1 : Int32))).1 (by decide) (by decide) ?_
    show Steps p.tables e below (s₁.setTop (mkF m 16 #[.val (.int (0 : Int32)), .val (.int (1 : Int32)), .val (.ref af31)] [])) _
    refine XS.iloadN X0.here hx rfl (hb hby own_d_jdk_41_method_11_code_16) rfl ?_
    show Steps p.tables e below (s₁.setTop (mkF m 17 #[.val (.int (0 : Int32)), .val (.int (1 : Int32)), .val (.ref af31)] [(.int (0 : Int32))])) _
    exact retI X0 hx Bd.returns (hb hby own_d_jdk_41_method_11_code_17) hr
  · show PQ (some (.int (0 : Int32))) h0 n0 _ s₁.heap _
    rw [e0]
    exact ⟨rfl, N0, rfl⟩
theorem own_d_jdk_42_method_155_code_0 : decode jdk_42_method_155_code 0 = .ok (.iload_n 0, 1) := by decide +kernel
theorem own_d_jdk_42_method_155_code_1 : decode jdk_42_method_155_code 1 = .ok (.iload_n 1, 1) := by decide +kernel
theorem own_d_jdk_42_method_155_code_2 : decode jdk_42_method_155_code 2 = .ok (.getstatic 1053, 3) := by decide +kernel
theorem own_d_jdk_42_method_155_code_5 : decode jdk_42_method_155_code 5 = .ok (.invokestatic 1059, 3) := by decide +kernel
theorem own_d_jdk_42_method_155_code_8 : decode jdk_42_method_155_code 8 = .ok (.pop, 1) := by decide +kernel
theorem own_d_jdk_42_method_155_code_9 : decode jdk_42_method_155_code 9 = .ok (.return_, 1) := by decide +kernel
theorem own_ef_rm9 (m : MethodId) (p1 : Int32) (A : Nat → Addr) (K : Nat → ClassId) (cs : Int32)  : entryFrame m #[(.int (0 : Int32)), (.int (1 : Int32))] 2 = mkF m 0 #[.val (.int (0 : Int32)), .val (.int (1 : Int32))] [] := by first | (simp [entryFrame, mkF, argsToLocals, Value.category, maxLocals]; done) | rfl
set_option maxRecDepth 65536 in
set_option maxHeartbeats 40000000 in
theorem rm9 (l : Launch) (Z : State) (a0 : Array Value) (hw : ∀ d ∈ tables_1, d.before a0 Z = true) (ws : List Jvm.Cond) (h0 : Heap) (n0 : Nat) (p1 : Int32) (A : Nat → Addr) (K : Nat → ClassId) (cs : Int32)  (EN : own_St Z A K cs) (OL0 : Old Z n0 h0) :
    MetFree l own_m10 (head1 (Jvm.Cond.code own_m10 jdk_42_method_155_code 2 none :: ws) ({ frames := 1, cells := 0, slots := 0, locals := 14 } : Room)) (fun a U => a = #[(.int (0 : Int32)), (.int (1 : Int32))] ∧ Z.Warmed39 U.vm ∧ U.heap = h0) (fun _ _ _ _ _ => True) (fun _ U o U' => ∃ v L, o = .returned v ∧ (PQ none h0 n0) v U'.heap L ∧ FrameEnd U o U' L ({ frames := 1, cells := 0, slots := 0, locals := 14 } : Room).cells ({ frames := 1, cells := 0, slots := 0, locals := 14 } : Room).slots) := by
  refine MetFree.of_bodySF (plainFor_of_name own_pn2) hisR ?_
  intro p e s m args below meth c s₁ Bd hml0 hP hK
  obtain ⟨rfl, hZ, hh⟩ := hP
  have hx := Bd.exec
  have hby := Bd.bytes
  have hml : c.maxLocals = 2 := hml0
  have hown : s.vm.findClass "java/lang/String" = some m.cls := findClass_of_methodNamed Bd.named
  have hnm := (name_of_methodNamed Bd.named Bd.method).1
  have X0 : Stand p l e ({ frames := 1, cells := 0, slots := 0, locals := 14 } : Room) s m #[(.int (0 : Int32)), (.int (1 : Int32))] below meth c s₁ [] 0 0 := Stand.of_body Bd
  have e0 : s₁.heap = h0 := by rw [← hh, Bd.state]; rfl
  have N0 := Fr.nil n0
  have pre0 : ∀ t, Steps p.tables e below (s₁.setTop (mkF m 0 #[.val (.int (0 : Int32)), .val (.int (1 : Int32))] [])) t → Steps p.tables e below (s₁.setTop (entryFrame m #[(.int (0 : Int32)), (.int (1 : Int32))] 2)) t := fun t k => castTop (own_ef_rm9 m p1 A K cs ) k
  have KK0 : Keep h0 h0 [] := Keep.refl _ _
  have pre30 : ∀ t, Steps p.tables e below (s₁.setTop (mkF m 2 #[.val (.int (0 : Int32)), .val (.int (1 : Int32))] [(.int (1 : Int32)), (.int (0 : Int32))])) t → Steps p.tables e below (s₁.setTop (entryFrame m #[(.int (0 : Int32)), (.int (1 : Int32))] 2)) t := fun t k => pre0 t (by
    show Steps p.tables e below (s₁.setTop (mkF m 0 #[.val (.int (0 : Int32)), .val (.int (1 : Int32))] [])) _
    refine XS.iloadN X0.here hx rfl (hb hby own_d_jdk_42_method_155_code_0) rfl ?_
    show Steps p.tables e below (s₁.setTop (mkF m 1 #[.val (.int (0 : Int32)), .val (.int (1 : Int32))] [(.int (0 : Int32))])) _
    refine XS.iloadN X0.here hx rfl (hb hby own_d_jdk_42_method_155_code_1) rfl ?_
    exact k)
  rcases EN.2.2.2.2.1.2.2.2.2.2.2.1 with SF31 | ⟨af31, SF31⟩
  · obtain ⟨T32, X32, e32, st32⟩ := getS2 X0 hx hZ hown (host := "") (Or.inl (hw _ (List.mem_of_getElem? (i := 59) rfl))) Via.refl e0 (SF31.ext OL0.2) (g := (mkF m 2 #[.val (.int (0 : Int32)), .val (.int (1 : Int32))] [(.int (1 : Int32)), (.int (0 : Int32))])) rfl (hb hby own_d_jdk_42_method_155_code_2)
    obtain ⟨_, _, ⟨T33, L33, k33, n33⟩, -, X33, ⟨Lc33, hQ33, l33, y33, z33⟩, st33⟩ := Jvm.LawKit.callS X32 hx (y := own_m9) hown (mvT hZ (hw _ (List.mem_of_getElem? (i := 61) rfl))) (mvT hZ (hw _ (List.mem_of_getElem? (i := 62) rfl))) (mvT hZ (hw _ (List.mem_of_getElem? (i := 60) rfl))) (mvT hZ (hw _ (List.mem_of_getElem? (i := 63) rfl))) (by decide) (backOf (W := 0) (rm10 l Z a0 hw [] h0 n0 p1 A K cs EN OL0) hZ (hw _ (List.mem_of_getElem? (i := 63) rfl)) (hw _ (List.mem_of_getElem? (i := 60) rfl)) (by decide) (by decide)) (g := (mkF m 5 #[.val (.int (0 : Int32)), .val (.int (1 : Int32))] [.null, (.int (1 : Int32)), (.int (0 : Int32))])) rfl (by rw [hml]; rfl) (argsL := [(.int (0 : Int32)), (.int (1 : Int32)), .null]) (rest := []) (lenOf own_pd6 rfl) rfl (by show 2 * 0 + _ ≤ _; exact Nat.le_of_eq rfl) (hb hby own_d_jdk_42_method_155_code_5) (fun _ _ => ⟨rfl, e32, (by decide : 0 + 0 ≤ _), (by decide : 0 + 0 ≤ _)⟩)
    dsimp only [Pt.U, Pt.locs, Pt.cells, Pt.slots] at X33 l33 y33 z33 st33 hQ33
    subst l33 y33 z33
    obtain ⟨rfl, N33q, e33⟩ := hQ33
    have N33 := Fr.app N0 N33q
    obtain ⟨fs, hr, hrun, hended, hW, hsame⟩ := X33.leave (v := none) (fun _ => rfl)
    refine ⟨_, _, pre30 _ ?_, hrun, hended, _, _, rfl, ?_, ⟨_, rfl⟩, hW, hsame.mono (by decide) (by decide)⟩
    · show Steps p.tables e below (s₁.setTop (mkF m 2 #[.val (.int (0 : Int32)), .val (.int (1 : Int32))] [(.int (1 : Int32)), (.int (0 : Int32))])) _
      refine st32 _ ?_
      show Steps p.tables e below (T32.setTop (mkF m 5 #[.val (.int (0 : Int32)), .val (.int (1 : Int32))] [.null, (.int (1 : Int32)), (.int (0 : Int32))])) _
      refine st33 _ ?_
      show Steps p.tables e below (T33.setTop (mkF m 8 #[.val (.int (0 : Int32)), .val (.int (1 : Int32))] [(.int (0 : Int32))])) _
      refine XS.pop X33.here hx rfl (hb hby own_d_jdk_42_method_155_code_8) rfl rfl ?_
      show Steps p.tables e below (T33.setTop (mkF m 9 #[.val (.int (0 : Int32)), .val (.int (1 : Int32))] [])) _
      exact X33.returnOut hx Bd.returns (hb hby own_d_jdk_42_method_155_code_9) hr
    · show PQ none h0 n0 _ T33.heap _
      rw [e33]
      exact ⟨rfl, N33, rfl⟩
  · obtain ⟨T34, X34, e34, st34⟩ := getS2 X0 hx hZ hown (host := "") (Or.inl (hw _ (List.mem_of_getElem? (i := 59) rfl))) Via.refl e0 (SF31.ext OL0.2) (g := (mkF m 2 #[.val (.int (0 : Int32)), .val (.int (1 : Int32))] [(.int (1 : Int32)), (.int (0 : Int32))])) rfl (hb hby own_d_jdk_42_method_155_code_2)
    obtain ⟨_, _, ⟨T35, L35, k35, n35⟩, -, X35, ⟨Lc35, hQ35, l35, y35, z35⟩, st35⟩ := Jvm.LawKit.callS X34 hx (y := own_m9) hown (mvT hZ (hw _ (List.mem_of_getElem? (i := 61) rfl))) (mvT hZ (hw _ (List.mem_of_getElem? (i := 62) rfl))) (mvT hZ (hw _ (List.mem_of_getElem? (i := 60) rfl))) (mvT hZ (hw _ (List.mem_of_getElem? (i := 63) rfl))) (by decide) (backOf (W := 0) (rm11 l Z a0 hw [] h0 n0 p1 A K cs af31 EN OL0) hZ (hw _ (List.mem_of_getElem? (i := 63) rfl)) (hw _ (List.mem_of_getElem? (i := 60) rfl)) (by decide) (by decide)) (g := (mkF m 5 #[.val (.int (0 : Int32)), .val (.int (1 : Int32))] [(.ref af31), (.int (1 : Int32)), (.int (0 : Int32))])) rfl (by rw [hml]; rfl) (argsL := [(.int (0 : Int32)), (.int (1 : Int32)), (.ref af31)]) (rest := []) (lenOf own_pd6 rfl) rfl (by show 2 * 0 + _ ≤ _; exact Nat.le_of_eq rfl) (hb hby own_d_jdk_42_method_155_code_5) (fun _ _ => ⟨rfl, e34, (by decide : 0 + 0 ≤ _), (by decide : 0 + 0 ≤ _)⟩)
    dsimp only [Pt.U, Pt.locs, Pt.cells, Pt.slots] at X35 l35 y35 z35 st35 hQ35
    subst l35 y35 z35
    obtain ⟨rfl, N35q, e35⟩ := hQ35
    have N35 := Fr.app N0 N35q
    obtain ⟨fs, hr, hrun, hended, hW, hsame⟩ := X35.leave (v := none) (fun _ => rfl)
    refine ⟨_, _, pre30 _ ?_, hrun, hended, _, _, rfl, ?_, ⟨_, rfl⟩, hW, hsame.mono (by decide) (by decide)⟩
    · show Steps p.tables e below (s₁.setTop (mkF m 2 #[.val (.int (0 : Int32)), .val (.int (1 : Int32))] [(.int (1 : Int32)), (.int (0 : Int32))])) _
      refine st34 _ ?_
      show Steps p.tables e below (T34.setTop (mkF m 5 #[.val (.int (0 : Int32)), .val (.int (1 : Int32))] [(.ref af31), (.int (1 : Int32)), (.int (0 : Int32))])) _
      refine st35 _ ?_
      show Steps p.tables e below (T35.setTop (mkF m 8 #[.val (.int (0 : Int32)), .val (.int (1 : Int32))] [(.int (0 : Int32))])) _
      refine XS.pop X35.here hx rfl (hb hby own_d_jdk_42_method_155_code_8) rfl rfl ?_
      show Steps p.tables e below (T35.setTop (mkF m 9 #[.val (.int (0 : Int32)), .val (.int (1 : Int32))] [])) _
      exact X35.returnOut hx Bd.returns (hb hby own_d_jdk_42_method_155_code_9) hr
    · show PQ none h0 n0 _ T35.heap _
      rw [e35]
      exact ⟨rfl, N35, rfl⟩
theorem own_d_jdk_43_method_2_code_0 : decode jdk_43_method_2_code 0 = .ok (.iload_n 1, 1) := by decide +kernel
theorem own_d_jdk_43_method_2_code_1 : decode jdk_43_method_2_code 1 = .ok (.aload_n 0, 1) := by decide +kernel
theorem own_d_jdk_43_method_2_code_2 : decode jdk_43_method_2_code 2 = .ok (.arraylength, 1) := by decide +kernel
theorem own_d_jdk_43_method_2_code_3 : decode jdk_43_method_2_code 3 = .ok (.invokestatic 9, 3) := by decide +kernel
theorem own_d_jdk_43_method_2_code_6 : decode jdk_43_method_2_code 6 = .ok (.aload_n 0, 1) := by decide +kernel
theorem own_d_jdk_43_method_2_code_7 : decode jdk_43_method_2_code 7 = .ok (.iload_n 1, 1) := by decide +kernel
theorem own_d_jdk_43_method_2_code_8 : decode jdk_43_method_2_code 8 = .ok (.baload, 1) := by decide +kernel
theorem own_d_jdk_43_method_2_code_9 : decode jdk_43_method_2_code 9 = .ok (.sipush 255, 3) := by decide +kernel
theorem own_d_jdk_43_method_2_code_12 : decode jdk_43_method_2_code 12 = .ok (.iand, 1) := by decide +kernel
theorem own_d_jdk_43_method_2_code_13 : decode jdk_43_method_2_code 13 = .ok (.i2c, 1) := by decide +kernel
theorem own_d_jdk_43_method_2_code_14 : decode jdk_43_method_2_code 14 = .ok (.ireturn, 1) := by decide +kernel
theorem own_ef_rm8 (m : MethodId) (p1 : Int32) (A : Nat → Addr) (K : Nat → ClassId) (cs : Int32)  : entryFrame m #[(.ref (A 12)), (.int (0 : Int32))] 2 = mkF m 0 #[.val (.ref (A 12)), .val (.int (0 : Int32))] [] := by first | (simp [entryFrame, mkF, argsToLocals, Value.category, maxLocals]; done) | rfl
set_option maxRecDepth 65536 in
set_option maxHeartbeats 40000000 in
theorem rm8 (l : Launch) (Z : State) (a0 : Array Value) (hw : ∀ d ∈ tables_1, d.before a0 Z = true) (ws : List Jvm.Cond) (h0 : Heap) (n0 : Nat) (p1 : Int32) (A : Nat → Addr) (K : Nat → ClassId) (cs : Int32)  (EN : own_St Z A K cs) (OL0 : Old Z n0 h0) :
    MetFree l own_m8 (head1 (Jvm.Cond.code own_m8 jdk_43_method_2_code 2 (some .char) :: ws) ({ frames := 2, cells := 0, slots := 0, locals := 27 } : Room)) (fun a U => a = #[(.ref (A 12)), (.int (0 : Int32))] ∧ Z.Warmed39 U.vm ∧ U.heap = h0) (fun _ _ _ _ _ => True) (fun _ U o U' => ∃ v L, o = .returned v ∧ (PQ (some (.int (61 : Int32))) h0 n0) v U'.heap L ∧ FrameEnd U o U' L ({ frames := 2, cells := 0, slots := 0, locals := 27 } : Room).cells ({ frames := 2, cells := 0, slots := 0, locals := 27 } : Room).slots) := by
  refine MetFree.of_bodySF (plainFor_of_name own_pn1) hisR ?_
  intro p e s m args below meth c s₁ Bd hml0 hP hK
  obtain ⟨rfl, hZ, hh⟩ := hP
  have hx := Bd.exec
  have hby := Bd.bytes
  have hml : c.maxLocals = 2 := hml0
  have hown : s.vm.findClass "java/lang/StringLatin1" = some m.cls := findClass_of_methodNamed Bd.named
  have hnm := (name_of_methodNamed Bd.named Bd.method).1
  have X0 : Stand p l e ({ frames := 2, cells := 0, slots := 0, locals := 27 } : Room) s m #[(.ref (A 12)), (.int (0 : Int32))] below meth c s₁ [] 0 0 := Stand.of_body Bd
  have e0 : s₁.heap = h0 := by rw [← hh, Bd.state]; rfl
  have N0 := Fr.nil n0
  have pre0 : ∀ t, Steps p.tables e below (s₁.setTop (mkF m 0 #[.val (.ref (A 12)), .val (.int (0 : Int32))] [])) t → Steps p.tables e below (s₁.setTop (entryFrame m #[(.ref (A 12)), (.int (0 : Int32))] 2)) t := fun t k => castTop (own_ef_rm8 m p1 A K cs ) k
  have KK0 : Keep h0 h0 [] := Keep.refl _ _
  obtain ⟨cl29, Ar29, -, Sz29, Nn29, -, -⟩ := (id (EN.2.2.2.1.2.1.ext OL0.2))
  obtain ⟨_, _, ⟨T36, L36, k36, n36⟩, -, X36, ⟨Lc36, hQ36, l36, y36, z36⟩, st36⟩ := Jvm.LawKit.callS X0 hx (y := own_m10) hown (mvT hZ (hw _ (List.mem_of_getElem? (i := 56) rfl))) (mvT hZ (hw _ (List.mem_of_getElem? (i := 57) rfl))) (mvT hZ (hw _ (List.mem_of_getElem? (i := 12) rfl))) (mvT hZ (hw _ (List.mem_of_getElem? (i := 58) rfl))) (by decide) (backOf (W := 0) (rm9 l Z a0 hw [] h0 n0 p1 A K cs EN OL0) hZ (hw _ (List.mem_of_getElem? (i := 58) rfl)) (hw _ (List.mem_of_getElem? (i := 12) rfl)) (by decide) (by decide)) (g := (mkF m 3 #[.val (.ref (A 12)), .val (.int (0 : Int32))] [(.int (1 : Int32)), (.int (0 : Int32))])) rfl (by rw [hml]; rfl) (argsL := [(.int (0 : Int32)), (.int (1 : Int32))]) (rest := []) (lenOf own_pd7 rfl) rfl (by show 2 * 0 + _ ≤ _; exact Nat.le_of_eq rfl) (hb hby own_d_jdk_43_method_2_code_3) (fun _ _ => ⟨rfl, e0, (by decide : 0 + 0 ≤ _), (by decide : 0 + 0 ≤ _)⟩)
  dsimp only [Pt.U, Pt.locs, Pt.cells, Pt.slots] at X36 l36 y36 z36 st36 hQ36
  subst l36 y36 z36
  obtain ⟨rfl, N36q, e36⟩ := hQ36
  have N36 := Fr.app N0 N36q
  obtain ⟨cl37, Ar37, q37, Sz37, Nn37, Hh37, Gg37⟩ := (id (EN.2.2.2.1.2.1.ext OL0.2))
  have hin37 : ¬ ((0 : Int32) < 0 ∨ cl37.slots.size ≤ ((0 : Int32)).toNatClampNeg) := inb_of Sz37 ⟨by decide, by decide⟩
  have hat37 : cl37.slots[((0 : Int32)).toNatClampNeg]? = some (.int (61 : Int32)) := Has.at Hh37 hin37 rfl
  obtain ⟨fs, hr, hrun, hended, hW, hsame⟩ := X36.leave (v := some (.int (61 : Int32))) (fun h => by rw [Bd.returns] at h; cases h)
  refine ⟨_, _, pre0 _ ?_, hrun, hended, _, _, rfl, ?_, ⟨_, rfl⟩, hW, hsame.mono (by decide) (by decide)⟩
  · show Steps p.tables e below (s₁.setTop (mkF m 0 #[.val (.ref (A 12)), .val (.int (0 : Int32))] [])) _
    refine XS.iloadN X0.here hx rfl (hb hby own_d_jdk_43_method_2_code_0) rfl ?_
    show Steps p.tables e below (s₁.setTop (mkF m 1 #[.val (.ref (A 12)), .val (.int (0 : Int32))] [(.int (0 : Int32))])) _
    refine XS.aloadN X0.here hx rfl (hb hby own_d_jdk_43_method_2_code_1) rfl rfl ?_
    show Steps p.tables e below (s₁.setTop (mkF m 2 #[.val (.ref (A 12)), .val (.int (0 : Int32))] [(.ref (A 12)), (.int (0 : Int32))])) _
    refine X0.arraylength hx (by rw [e0]; exact Ar29.1) (State.isArrayOf_alike hZ.alike Ar29.2.1) (g := (mkF m 2 #[.val (.ref (A 12)), .val (.int (0 : Int32))] [(.ref (A 12)), (.int (0 : Int32))])) rfl rfl (hb hby own_d_jdk_43_method_2_code_2) _ ?_
    rw [len_of Sz29 Nn29]
    show Steps p.tables e below (s₁.setTop (mkF m 3 #[.val (.ref (A 12)), .val (.int (0 : Int32))] [(.int (1 : Int32)), (.int (0 : Int32))])) _
    refine st36 _ ?_
    show Steps p.tables e below (T36.setTop (mkF m 6 #[.val (.ref (A 12)), .val (.int (0 : Int32))] [])) _
    refine XS.aloadN X36.here hx rfl (hb hby own_d_jdk_43_method_2_code_6) rfl rfl ?_
    show Steps p.tables e below (T36.setTop (mkF m 7 #[.val (.ref (A 12)), .val (.int (0 : Int32))] [(.ref (A 12))])) _
    refine XS.iloadN X36.here hx rfl (hb hby own_d_jdk_43_method_2_code_7) rfl ?_
    show Steps p.tables e below (T36.setTop (mkF m 8 #[.val (.ref (A 12)), .val (.int (0 : Int32))] [(.int (0 : Int32)), (.ref (A 12))])) _
    refine X36.baloadBytes hx (j := (0 : Int32)) (v := (.int (61 : Int32))) (by rw [e36]; exact Ar37.1) (State.isArrayOf_alike hZ.alike Ar37.2.1) Ar37.2.2 hin37 hat37 (g := (mkF m 8 #[.val (.ref (A 12)), .val (.int (0 : Int32))] [(.int (0 : Int32)), (.ref (A 12))])) rfl rfl (hb hby own_d_jdk_43_method_2_code_8) _ ?_
    show Steps p.tables e below (T36.setTop (mkF m 9 #[.val (.ref (A 12)), .val (.int (0 : Int32))] [(.int (61 : Int32))])) _
    refine XS.sipush X36.here hx rfl (hb hby own_d_jdk_43_method_2_code_9) ?_
    show Steps p.tables e below (T36.setTop (mkF m 12 #[.val (.ref (A 12)), .val (.int (0 : Int32))] [(.int (255 : Int32)), (.int (61 : Int32))])) _
    refine XS.iand X36.here hx rfl (hb hby own_d_jdk_43_method_2_code_12) rfl ?_
    show Steps p.tables e below (T36.setTop (mkF m 13 #[.val (.ref (A 12)), .val (.int (0 : Int32))] [(.int (61 : Int32))])) _
    refine XS.i2c X36.here hx rfl (hb hby own_d_jdk_43_method_2_code_13) rfl ?_
    show Steps p.tables e below (T36.setTop (mkF m 14 #[.val (.ref (A 12)), .val (.int (0 : Int32))] [(.int (61 : Int32))])) _
    exact retN X36 hx (t := .char) Bd.returns (by simp) (hb hby own_d_jdk_43_method_2_code_14) hr
  · show PQ (some (.int (61 : Int32))) h0 n0 _ T36.heap _
    rw [e36]
    exact ⟨rfl, N36, rfl⟩
theorem own_d_jdk_42_method_56_code_0 : decode jdk_42_method_56_code 0 = .ok (.aload_n 0, 1) := by decide +kernel
theorem own_d_jdk_42_method_56_code_1 : decode jdk_42_method_56_code 1 = .ok (.invokevirtual 492, 3) := by decide +kernel
theorem own_d_jdk_42_method_56_code_4 : decode jdk_42_method_56_code 4 = .ok (.ifCond .eq 12, 3) := by decide +kernel
theorem own_d_jdk_42_method_56_code_7 : decode jdk_42_method_56_code 7 = .ok (.aload_n 0, 1) := by decide +kernel
theorem own_d_jdk_42_method_56_code_8 : decode jdk_42_method_56_code 8 = .ok (.getfield 9, 3) := by decide +kernel
theorem own_d_jdk_42_method_56_code_11 : decode jdk_42_method_56_code 11 = .ok (.iload_n 1, 1) := by decide +kernel
theorem own_d_jdk_42_method_56_code_12 : decode jdk_42_method_56_code 12 = .ok (.invokestatic 495, 3) := by decide +kernel
theorem own_d_jdk_42_method_56_code_15 : decode jdk_42_method_56_code 15 = .ok (.ireturn, 1) := by decide +kernel
theorem own_ef_rm6 (m : MethodId) (p1 : Int32) (A : Nat → Addr) (K : Nat → ClassId) (cs : Int32)  : entryFrame m #[(.ref (A 6)), (.int (0 : Int32))] 2 = mkF m 0 #[.val (.ref (A 6)), .val (.int (0 : Int32))] [] := by first | (simp [entryFrame, mkF, argsToLocals, Value.category, maxLocals]; done) | rfl
set_option maxRecDepth 65536 in
set_option maxHeartbeats 40000000 in
theorem rm6 (l : Launch) (Z : State) (a0 : Array Value) (hw : ∀ d ∈ tables_1, d.before a0 Z = true) (ws : List Jvm.Cond) (h0 : Heap) (n0 : Nat) (p1 : Int32) (A : Nat → Addr) (K : Nat → ClassId) (cs : Int32)  (EN : own_St Z A K cs) (OL0 : Old Z n0 h0) :
    MetFree l own_m0 (head1 (Jvm.Cond.code own_m0 jdk_42_method_56_code 2 (some .char) :: ws) ({ frames := 3, cells := 0, slots := 0, locals := 40 } : Room)) (fun a U => a = #[(.ref (A 6)), (.int (0 : Int32))] ∧ Z.Warmed39 U.vm ∧ U.heap = h0) (fun _ _ _ _ _ => True) (fun _ U o U' => ∃ v L, o = .returned v ∧ (PQ (some (.int (61 : Int32))) h0 n0) v U'.heap L ∧ FrameEnd U o U' L ({ frames := 3, cells := 0, slots := 0, locals := 40 } : Room).cells ({ frames := 3, cells := 0, slots := 0, locals := 40 } : Room).slots) := by
  refine MetFree.of_bodySF (plainFor_of_name own_pn2) hisR ?_
  intro p e s m args below meth c s₁ Bd hml0 hP hK
  obtain ⟨rfl, hZ, hh⟩ := hP
  have hx := Bd.exec
  have hby := Bd.bytes
  have hml : c.maxLocals = 2 := hml0
  have hown : s.vm.findClass "java/lang/String" = some m.cls := findClass_of_methodNamed Bd.named
  have hnm := (name_of_methodNamed Bd.named Bd.method).1
  have X0 : Stand p l e ({ frames := 3, cells := 0, slots := 0, locals := 40 } : Room) s m #[(.ref (A 6)), (.int (0 : Int32))] below meth c s₁ [] 0 0 := Stand.of_body Bd
  have e0 : s₁.heap = h0 := by rw [← hh, Bd.state]; rfl
  have N0 := Fr.nil n0
  have pre0 : ∀ t, Steps p.tables e below (s₁.setTop (mkF m 0 #[.val (.ref (A 6)), .val (.int (0 : Int32))] [])) t → Steps p.tables e below (s₁.setTop (entryFrame m #[(.ref (A 6)), (.int (0 : Int32))] 2)) t := fun t k => castTop (own_ef_rm6 m p1 A K cs ) k
  have KK0 : Keep h0 h0 [] := Keep.refl _ _
  obtain ⟨cq27, kq27, q27a, q27b, q27c⟩ := isOf hZ e0 (EN.2.1.2.2.2.2.2.1.ext OL0.2)
  obtain ⟨_, _, ⟨T27, L27, k27, n27⟩, -, X27, ⟨Lc27, hQ27, l27, y27, z27⟩, st27⟩ := X0.virtualBack hx (y := own_m6) (z := own_m6) hown (mvT hZ (hw _ (List.mem_of_getElem? (i := 48) rfl))) (mvT hZ (hw _ (List.mem_of_getElem? (i := 49) rfl))) (notFace_of_selects (args := #[]) (mvT hZ (hw _ (List.mem_of_getElem? (i := 51) rfl)))) (mvT hZ (hw _ (List.mem_of_getElem? (i := 51) rfl))) (mvT hZ (hw _ (List.mem_of_getElem? (i := 50) rfl))) (by decide) (backOf (W := 0) (rm7 l Z a0 hw [] h0 n0 p1 A K cs EN OL0) hZ (hw _ (List.mem_of_getElem? (i := 52) rfl)) (hw _ (List.mem_of_getElem? (i := 12) rfl)) (by decide) (by decide)) q27a q27c (g := (mkF m 1 #[.val (.ref (A 6)), .val (.int (0 : Int32))] [(.ref (A 6))])) rfl (by rw [hml]; rfl) (Steps.refl _) (argsL := []) (rest := []) (lenOf own_pd5 rfl) rfl (by show 2 * 0 + _ ≤ _; exact Nat.le_of_eq rfl) (hb hby own_d_jdk_42_method_56_code_1) (fun _ _ => ⟨rfl, e0, (by decide : 0 + 0 ≤ _), (by decide : 0 + 0 ≤ _)⟩)
  dsimp only [Pt.U, Pt.locs, Pt.cells, Pt.slots] at X27 l27 y27 z27 st27 hQ27
  subst l27 y27 z27
  obtain ⟨rfl, N27q, e27⟩ := hQ27
  have N27 := Fr.app N0 N27q
  obtain ⟨T28, X28, e28, st28⟩ := getF X27 hx hZ hown (host := "") (Or.inl (hw _ (List.mem_of_getElem? (i := 28) rfl))) Via.refl e27 (EN.2.2.2.1.1.ext OL0.2) (g := (mkF m 8 #[.val (.ref (A 6)), .val (.int (0 : Int32))] [(.ref (A 6))])) rfl rfl (hb hby own_d_jdk_42_method_56_code_8)
  obtain ⟨_, _, ⟨T38, L38, k38, n38⟩, -, X38, ⟨Lc38, hQ38, l38, y38, z38⟩, st38⟩ := Jvm.LawKit.callS X28 hx (y := own_m8) hown (mvT hZ (hw _ (List.mem_of_getElem? (i := 53) rfl))) (mvT hZ (hw _ (List.mem_of_getElem? (i := 54) rfl))) (mvT hZ (hw _ (List.mem_of_getElem? (i := 31) rfl))) (mvT hZ (hw _ (List.mem_of_getElem? (i := 55) rfl))) (by decide) (backOf (W := 0) (rm8 l Z a0 hw [] h0 n0 p1 A K cs EN OL0) hZ (hw _ (List.mem_of_getElem? (i := 55) rfl)) (hw _ (List.mem_of_getElem? (i := 31) rfl)) (by decide) (by decide)) (g := (mkF m 12 #[.val (.ref (A 6)), .val (.int (0 : Int32))] [(.int (0 : Int32)), (.ref (A 12))])) rfl (by rw [hml]; rfl) (argsL := [(.ref (A 12)), (.int (0 : Int32))]) (rest := []) (lenOf own_pd8 rfl) rfl (by show 2 * 0 + _ ≤ _; exact Nat.le_of_eq rfl) (hb hby own_d_jdk_42_method_56_code_12) (fun _ _ => ⟨rfl, e28, (by decide : 0 + 0 ≤ _), (by decide : 0 + 0 ≤ _)⟩)
  dsimp only [Pt.U, Pt.locs, Pt.cells, Pt.slots] at X38 l38 y38 z38 st38 hQ38
  subst l38 y38 z38
  obtain ⟨rfl, N38q, e38⟩ := hQ38
  have N38 := Fr.app N27 N38q
  obtain ⟨fs, hr, hrun, hended, hW, hsame⟩ := X38.leave (v := some (.int (61 : Int32))) (fun h => by rw [Bd.returns] at h; cases h)
  refine ⟨_, _, pre0 _ ?_, hrun, hended, _, _, rfl, ?_, ⟨_, rfl⟩, hW, hsame.mono (by decide) (by decide)⟩
  · show Steps p.tables e below (s₁.setTop (mkF m 0 #[.val (.ref (A 6)), .val (.int (0 : Int32))] [])) _
    refine XS.aloadN X0.here hx rfl (hb hby own_d_jdk_42_method_56_code_0) rfl rfl ?_
    show Steps p.tables e below (s₁.setTop (mkF m 1 #[.val (.ref (A 6)), .val (.int (0 : Int32))] [(.ref (A 6))])) _
    refine st27.trans ?_
    show Steps p.tables e below (T27.setTop (mkF m 4 #[.val (.ref (A 6)), .val (.int (0 : Int32))] [(.int (1 : Int32))])) _
    refine XS.ifNo X27.here hx rfl (hb hby own_d_jdk_42_method_56_code_4) rfl ((if0 _ _).trans (feq (by decide : ¬ ((1 : Int32) = (0 : Int32)))).1) ?_
    show Steps p.tables e below (T27.setTop (mkF m 7 #[.val (.ref (A 6)), .val (.int (0 : Int32))] [])) _
    refine XS.aloadN X27.here hx rfl (hb hby own_d_jdk_42_method_56_code_7) rfl rfl ?_
    show Steps p.tables e below (T27.setTop (mkF m 8 #[.val (.ref (A 6)), .val (.int (0 : Int32))] [(.ref (A 6))])) _
    refine st28 _ ?_
    show Steps p.tables e below (T28.setTop (mkF m 11 #[.val (.ref (A 6)), .val (.int (0 : Int32))] [(.ref (A 12))])) _
    refine XS.iloadN X28.here hx rfl (hb hby own_d_jdk_42_method_56_code_11) rfl ?_
    show Steps p.tables e below (T28.setTop (mkF m 12 #[.val (.ref (A 6)), .val (.int (0 : Int32))] [(.int (0 : Int32)), (.ref (A 12))])) _
    refine st38 _ ?_
    show Steps p.tables e below (T38.setTop (mkF m 15 #[.val (.ref (A 6)), .val (.int (0 : Int32))] [(.int (61 : Int32))])) _
    exact retN X38 hx (t := .char) Bd.returns (by simp) (hb hby own_d_jdk_42_method_56_code_15) hr
  · show PQ (some (.int (61 : Int32))) h0 n0 _ T38.heap _
    rw [e38]
    exact ⟨rfl, N38, rfl⟩
theorem own_d_prog_57_method_5_code_0 : decode prog_57_method_5_code 0 = .ok (.aload_n 0, 1) := by decide +kernel
theorem own_d_prog_57_method_5_code_1 : decode prog_57_method_5_code 1 = .ok (.getstatic 3, 3) := by decide +kernel
theorem own_d_prog_57_method_5_code_4 : decode prog_57_method_5_code 4 = .ok (.if_acmp .eq 14, 3) := by decide +kernel
theorem own_d_prog_57_method_5_code_18 : decode prog_57_method_5_code 18 = .ok (.iconst 0, 1) := by decide +kernel
theorem own_d_prog_57_method_5_code_19 : decode prog_57_method_5_code 19 = .ok (.ireturn, 1) := by decide +kernel
theorem own_ef_rm12 (m : MethodId) (p1 : Int32) (A : Nat → Addr) (K : Nat → ClassId) (cs : Int32)  : entryFrame m #[(.ref (A 0))] 1 = mkF m 0 #[.val (.ref (A 0))] [] := by first | (simp [entryFrame, mkF, argsToLocals, Value.category, maxLocals]; done) | rfl
set_option maxRecDepth 65536 in
set_option maxHeartbeats 40000000 in
theorem rm12 (l : Launch) (Z : State) (a0 : Array Value) (hw : ∀ d ∈ tables_1, d.before a0 Z = true) (ws : List Jvm.Cond) (h0 : Heap) (n0 : Nat) (p1 : Int32) (A : Nat → Addr) (K : Nat → ClassId) (cs : Int32)  (EN : own_St Z A K cs) (OL0 : Old Z n0 h0) :
    MetFree l own_m3 (head1 (Jvm.Cond.code own_m3 prog_57_method_5_code 1 (some .boolean) :: ws) ({ frames := 0, cells := 0, slots := 0, locals := 0 } : Room)) (fun a U => a = #[(.ref (A 0))] ∧ Z.Warmed39 U.vm ∧ U.heap = h0) (fun _ _ _ _ _ => True) (fun _ U o U' => ∃ v L, o = .returned v ∧ (PQ (some (.int (0 : Int32))) h0 n0) v U'.heap L ∧ FrameEnd U o U' L ({ frames := 0, cells := 0, slots := 0, locals := 0 } : Room).cells ({ frames := 0, cells := 0, slots := 0, locals := 0 } : Room).slots) := by
  refine MetFree.of_bodySF (plainFor_of_name own_pn0) hisR ?_
  intro p e s m args below meth c s₁ Bd hml0 hP hK
  obtain ⟨rfl, hZ, hh⟩ := hP
  have hx := Bd.exec
  have hby := Bd.bytes
  have hml : c.maxLocals = 1 := hml0
  have hown : s.vm.findClass "com/example/cargoweft/cargoweft/core/FlexibleSearch$Operator" = some m.cls := findClass_of_methodNamed Bd.named
  have hnm := (name_of_methodNamed Bd.named Bd.method).1
  have X0 : Stand p l e ({ frames := 0, cells := 0, slots := 0, locals := 0 } : Room) s m #[(.ref (A 0))] below meth c s₁ [] 0 0 := Stand.of_body Bd
  have e0 : s₁.heap = h0 := by rw [← hh, Bd.state]; rfl
  have N0 := Fr.nil n0
  have pre0 : ∀ t, Steps p.tables e below (s₁.setTop (mkF m 0 #[.val (.ref (A 0))] [])) t → Steps p.tables e below (s₁.setTop (entryFrame m #[(.ref (A 0))] 1)) t := fun t k => castTop (own_ef_rm12 m p1 A K cs ) k
  have KK0 : Keep h0 h0 [] := Keep.refl _ _
  obtain ⟨T41, X41, e41, st41⟩ := getS2 X0 hx hZ hown (host := "") (Or.inl (hw _ (List.mem_of_getElem? (i := 69) rfl))) Via.refl e0 (EN.1.1.ext OL0.2) (g := (mkF m 1 #[.val (.ref (A 0))] [(.ref (A 0))])) rfl (hb hby own_d_prog_57_method_5_code_1)
  obtain ⟨fs, hr, hrun, hended, hW, hsame⟩ := X41.leave (v := some (.int (0 : Int32))) (fun h => by rw [Bd.returns] at h; cases h)
  refine ⟨_, _, pre0 _ ?_, hrun, hended, _, _, rfl, ?_, ⟨_, rfl⟩, hW, hsame.mono (by decide) (by decide)⟩
  · show Steps p.tables e below (s₁.setTop (mkF m 0 #[.val (.ref (A 0))] [])) _
    refine XS.aloadN X0.here hx rfl (hb hby own_d_prog_57_method_5_code_0) rfl rfl ?_
    show Steps p.tables e below (s₁.setTop (mkF m 1 #[.val (.ref (A 0))] [(.ref (A 0))])) _
    refine st41 _ ?_
    show Steps p.tables e below (T41.setTop (mkF m 4 #[.val (.ref (A 0))] [(.ref (A 0)), (.ref (A 0))])) _
    refine Jvm.RoadKit.acmp (g := (mkF m 4 #[.val (.ref (A 0))] [(.ref (A 0)), (.ref (A 0))])) X41 hx rfl rfl rfl (pc0 := 4) (pc' := 18) (same := true) rfl (hb hby own_d_prog_57_method_5_code_4) rfl (decide_eq_true rfl) (by decide) (by decide) ?_
    show Steps p.tables e below (T41.setTop (mkF m 18 #[.val (.ref (A 0))] [])) _
    refine XS.iconst X41.here hx rfl (hb hby own_d_prog_57_method_5_code_18) ?_
    show Steps p.tables e below (T41.setTop (mkF m 19 #[.val (.ref (A 0))] [(.int (0 : Int32))])) _
    exact retN X41 hx (t := .boolean) Bd.returns (by simp) (hb hby own_d_prog_57_method_5_code_19) hr
  · show PQ (some (.int (0 : Int32))) h0 n0 _ T41.heap _
    rw [e41]
    exact ⟨rfl, N0, rfl⟩
theorem own_ef_rm13 (m : MethodId) (p1 : Int32) (A : Nat → Addr) (K : Nat → ClassId) (cs : Int32)  : entryFrame m #[(.ref (A 1))] 1 = mkF m 0 #[.val (.ref (A 1))] [] := by first | (simp [entryFrame, mkF, argsToLocals, Value.category, maxLocals]; done) | rfl
set_option maxRecDepth 65536 in
set_option maxHeartbeats 40000000 in
theorem rm13 (l : Launch) (Z : State) (a0 : Array Value) (hw : ∀ d ∈ tables_1, d.before a0 Z = true) (ws : List Jvm.Cond) (h0 : Heap) (n0 : Nat) (p1 : Int32) (A : Nat → Addr) (K : Nat → ClassId) (cs : Int32)  (EN : own_St Z A K cs) (OL0 : Old Z n0 h0) :
    MetFree l own_m1 (head1 (Jvm.Cond.code own_m1 prog_57_method_4_code 1 (some (.object "java/lang/String")) :: ws) ({ frames := 0, cells := 0, slots := 0, locals := 0 } : Room)) (fun a U => a = #[(.ref (A 1))] ∧ Z.Warmed39 U.vm ∧ U.heap = h0) (fun _ _ _ _ _ => True) (fun _ U o U' => ∃ v L, o = .returned v ∧ (PQ (some (.ref (A 9))) h0 n0) v U'.heap L ∧ FrameEnd U o U' L ({ frames := 0, cells := 0, slots := 0, locals := 0 } : Room).cells ({ frames := 0, cells := 0, slots := 0, locals := 0 } : Room).slots) := by
  refine MetFree.of_bodySF (plainFor_of_name own_pn0) hisR ?_
  intro p e s m args below meth c s₁ Bd hml0 hP hK
  obtain ⟨rfl, hZ, hh⟩ := hP
  have hx := Bd.exec
  have hby := Bd.bytes
  have hml : c.maxLocals = 1 := hml0
  have hown : s.vm.findClass "com/example/cargoweft/cargoweft/core/FlexibleSearch$Operator" = some m.cls := findClass_of_methodNamed Bd.named
  have hnm := (name_of_methodNamed Bd.named Bd.method).1
  have X0 : Stand p l e ({ frames := 0, cells := 0, slots := 0, locals := 0 } : Room) s m #[(.ref (A 1))] below meth c s₁ [] 0 0 := Stand.of_body Bd
  have e0 : s₁.heap = h0 := by rw [← hh, Bd.state]; rfl
  have N0 := Fr.nil n0
  have pre0 : ∀ t, Steps p.tables e below (s₁.setTop (mkF m 0 #[.val (.ref (A 1))] [])) t → Steps p.tables e below (s₁.setTop (entryFrame m #[(.ref (A 1))] 1)) t := fun t k => castTop (own_ef_rm13 m p1 A K cs ) k
  have KK0 : Keep h0 h0 [] := Keep.refl _ _
  obtain ⟨T44, X44, e44, st44⟩ := getF X0 hx hZ hown (host := "") (Or.inl (hw _ (List.mem_of_getElem? (i := 9) rfl))) Via.refl e0 (EN.2.2.1.2.2.1.ext OL0.2) (g := (mkF m 1 #[.val (.ref (A 1))] [(.ref (A 1))])) rfl rfl (hb hby own_d_prog_57_method_4_code_1)
  obtain ⟨fs, hr, hrun, hended, hW, hsame⟩ := X44.leave (v := some (.ref (A 9))) (fun h => by rw [Bd.returns] at h; cases h)
  refine ⟨_, _, pre0 _ ?_, hrun, hended, _, _, rfl, ?_, ⟨_, rfl⟩, hW, hsame.mono (by decide) (by decide)⟩
  · show Steps p.tables e below (s₁.setTop (mkF m 0 #[.val (.ref (A 1))] [])) _
    refine XS.aloadN X0.here hx rfl (hb hby own_d_prog_57_method_4_code_0) rfl rfl ?_
    show Steps p.tables e below (s₁.setTop (mkF m 1 #[.val (.ref (A 1))] [(.ref (A 1))])) _
    refine st44 _ ?_
    show Steps p.tables e below (T44.setTop (mkF m 4 #[.val (.ref (A 1))] [(.ref (A 9))])) _
    exact retOut X44 hx Bd.returns rfl (Or.inr (Or.inr (Or.inr (Or.inr ⟨rfl, rfl, rfl⟩)))) (hb hby own_d_prog_57_method_4_code_4) hr
  · show PQ (some (.ref (A 9))) h0 n0 _ T44.heap _
    rw [e44]
    exact ⟨rfl, N0, rfl⟩
theorem own_d_jdk_43_method_13_code_7 : decode jdk_43_method_13_code 7 = .ok (.iconst 0, 1) := by decide +kernel
theorem own_d_jdk_43_method_13_code_8 : decode jdk_43_method_13_code 8 = .ok (.istore_n 2, 1) := by decide +kernel
theorem own_d_jdk_43_method_13_code_9 : decode jdk_43_method_13_code 9 = .ok (.iload_n 2, 1) := by decide +kernel
theorem own_d_jdk_43_method_13_code_10 : decode jdk_43_method_13_code 10 = .ok (.aload_n 0, 1) := by decide +kernel
theorem own_d_jdk_43_method_13_code_11 : decode jdk_43_method_13_code 11 = .ok (.arraylength, 1) := by decide +kernel
theorem own_d_jdk_43_method_13_code_12 : decode jdk_43_method_13_code 12 = .ok (.if_icmp .ge 20, 3) := by decide +kernel
theorem own_d_jdk_43_method_13_code_15 : decode jdk_43_method_13_code 15 = .ok (.aload_n 0, 1) := by decide +kernel
theorem own_d_jdk_43_method_13_code_16 : decode jdk_43_method_13_code 16 = .ok (.iload_n 2, 1) := by decide +kernel
theorem own_d_jdk_43_method_13_code_17 : decode jdk_43_method_13_code 17 = .ok (.baload, 1) := by decide +kernel
theorem own_d_jdk_43_method_13_code_18 : decode jdk_43_method_13_code 18 = .ok (.aload_n 1, 1) := by decide +kernel
theorem own_d_jdk_43_method_13_code_19 : decode jdk_43_method_13_code 19 = .ok (.iload_n 2, 1) := by decide +kernel
theorem own_d_jdk_43_method_13_code_20 : decode jdk_43_method_13_code 20 = .ok (.baload, 1) := by decide +kernel
theorem own_d_jdk_43_method_13_code_21 : decode jdk_43_method_13_code 21 = .ok (.if_icmp .eq 5, 3) := by decide +kernel
theorem own_d_jdk_43_method_13_code_26 : decode jdk_43_method_13_code 26 = .ok (.iinc 2 1, 3) := by decide +kernel
theorem own_d_jdk_43_method_13_code_29 : decode jdk_43_method_13_code 29 = .ok (.goto (-20), 3) := by decide +kernel
theorem own_d_jdk_43_method_13_code_32 : decode jdk_43_method_13_code 32 = .ok (.iconst 1, 1) := by decide +kernel
theorem own_d_jdk_43_method_13_code_33 : decode jdk_43_method_13_code 33 = .ok (.ireturn, 1) := by decide +kernel
theorem own_ef_rm15 (m : MethodId) (p1 : Int32) (A : Nat → Addr) (K : Nat → ClassId) (cs : Int32)  (sb47 : Addr) (kc47 : ClassId) : entryFrame m #[(.ref (A 15)), (.ref sb47)] 3 = mkF m 0 #[.val (.ref (A 15)), .val (.ref sb47), .unset] [] := by first | (simp [entryFrame, mkF, argsToLocals, Value.category, maxLocals]; done) | rfl
set_option maxRecDepth 65536 in
set_option maxHeartbeats 40000000 in
theorem rm15 (l : Launch) (Z : State) (a0 : Array Value) (hw : ∀ d ∈ tables_1, d.before a0 Z = true) (ws : List Jvm.Cond) (h0 : Heap) (n0 : Nat) (p1 : Int32) (A : Nat → Addr) (K : Nat → ClassId) (cs : Int32)  (sb47 : Addr) (kc47 : ClassId) (EN : own_St Z A K cs) (OL0 : Old Z n0 h0) (G_A_sb47 : Arv Z h0 sb47 kc47 .byte (2 : Int32) [(.int (60 : Int32)), (.int (62 : Int32))] (.int (0 : Int32))) :
    MetFree l own_m7 (head1 (Jvm.Cond.code own_m7 jdk_43_method_13_code 3 (some .boolean) :: ws) ({ frames := 0, cells := 0, slots := 0, locals := 0 } : Room)) (fun a U => a = #[(.ref (A 15)), (.ref sb47)] ∧ Z.Warmed39 U.vm ∧ U.heap = h0) (fun _ _ _ _ _ => True) (fun _ U o U' => ∃ v L, o = .returned v ∧ (PQ (some (.int (1 : Int32))) h0 n0) v U'.heap L ∧ FrameEnd U o U' L ({ frames := 0, cells := 0, slots := 0, locals := 0 } : Room).cells ({ frames := 0, cells := 0, slots := 0, locals := 0 } : Room).slots) := by
  refine MetFree.of_bodySF (plainFor_of_name own_pn1) hisR ?_
  intro p e s m args below meth c s₁ Bd hml0 hP hK
  obtain ⟨rfl, hZ, hh⟩ := hP
  have hx := Bd.exec
  have hby := Bd.bytes
  have hml : c.maxLocals = 3 := hml0
  have hown : s.vm.findClass "java/lang/StringLatin1" = some m.cls := findClass_of_methodNamed Bd.named
  have hnm := (name_of_methodNamed Bd.named Bd.method).1
  have X0 : Stand p l e ({ frames := 0, cells := 0, slots := 0, locals := 0 } : Room) s m #[(.ref (A 15)), (.ref sb47)] below meth c s₁ [] 0 0 := Stand.of_body Bd
  have e0 : s₁.heap = h0 := by rw [← hh, Bd.state]; rfl
  have N0 := Fr.nil n0
  have pre0 : ∀ t, Steps p.tables e below (s₁.setTop (mkF m 0 #[.val (.ref (A 15)), .val (.ref sb47), .unset] [])) t → Steps p.tables e below (s₁.setTop (entryFrame m #[(.ref (A 15)), (.ref sb47)] 3)) t := fun t k => castTop (own_ef_rm15 m p1 A K cs sb47 kc47) k
  have KK0 : Keep h0 h0 [] := Keep.refl _ _
  obtain ⟨cl57, Ar57, -, Sz57, Nn57, -, -⟩ := (id (EN.2.2.2.1.2.2.2.2.2.2.2.1.ext OL0.2))
  obtain ⟨cl58, Ar58, -, Sz58, Nn58, -, -⟩ := (id G_A_sb47)
  obtain ⟨cl59, Ar59, -, Sz59, Nn59, -, -⟩ := (id (EN.2.2.2.1.2.2.2.2.2.2.2.1.ext OL0.2))
  obtain ⟨cl60, Ar60, q60, Sz60, Nn60, Hh60, Gg60⟩ := (id (EN.2.2.2.1.2.2.2.2.2.2.2.1.ext OL0.2))
  have hin60 : ¬ ((0 : Int32) < 0 ∨ cl60.slots.size ≤ ((0 : Int32)).toNatClampNeg) := inb_of Sz60 ⟨by decide, by decide⟩
  have hat60 : cl60.slots[((0 : Int32)).toNatClampNeg]? = some (.int (60 : Int32)) := Has.at Hh60 hin60 rfl
  obtain ⟨cl61, Ar61, q61, Sz61, Nn61, Hh61, Gg61⟩ := (id G_A_sb47)
  have hin61 : ¬ ((0 : Int32) < 0 ∨ cl61.slots.size ≤ ((0 : Int32)).toNatClampNeg) := inb_of Sz61 ⟨by decide, by decide⟩
  have hat61 : cl61.slots[((0 : Int32)).toNatClampNeg]? = some (.int (60 : Int32)) := Has.at Hh61 hin61 rfl
  obtain ⟨cl62, Ar62, -, Sz62, Nn62, -, -⟩ := (id (EN.2.2.2.1.2.2.2.2.2.2.2.1.ext OL0.2))
  obtain ⟨cl63, Ar63, q63, Sz63, Nn63, Hh63, Gg63⟩ := (id (EN.2.2.2.1.2.2.2.2.2.2.2.1.ext OL0.2))
  have hin63 : ¬ ((1 : Int32) < 0 ∨ cl63.slots.size ≤ ((1 : Int32)).toNatClampNeg) := inb_of Sz63 ⟨by decide, by decide⟩
  have hat63 : cl63.slots[((1 : Int32)).toNatClampNeg]? = some (.int (62 : Int32)) := Has.at Hh63 hin63 rfl
  obtain ⟨cl64, Ar64, q64, Sz64, Nn64, Hh64, Gg64⟩ := (id G_A_sb47)
  have hin64 : ¬ ((1 : Int32) < 0 ∨ cl64.slots.size ≤ ((1 : Int32)).toNatClampNeg) := inb_of Sz64 ⟨by decide, by decide⟩
  have hat64 : cl64.slots[((1 : Int32)).toNatClampNeg]? = some (.int (62 : Int32)) := Has.at Hh64 hin64 rfl
  obtain ⟨cl65, Ar65, -, Sz65, Nn65, -, -⟩ := (id (EN.2.2.2.1.2.2.2.2.2.2.2.1.ext OL0.2))
  obtain ⟨fs, hr, hrun, hended, hW, hsame⟩ := X0.leave (v := some (.int (1 : Int32))) (fun h => by rw [Bd.returns] at h; cases h)
  refine ⟨_, _, pre0 _ ?_, hrun, hended, _, _, rfl, ?_, ⟨_, rfl⟩, hW, hsame.mono (by decide) (by decide)⟩
  · show Steps p.tables e below (s₁.setTop (mkF m 0 #[.val (.ref (A 15)), .val (.ref sb47), .unset] [])) _
    refine XS.aloadN X0.here hx rfl (hb hby own_d_jdk_43_method_13_code_0) rfl rfl ?_
    show Steps p.tables e below (s₁.setTop (mkF m 1 #[.val (.ref (A 15)), .val (.ref sb47), .unset] [(.ref (A 15))])) _
    refine X0.arraylength hx (by rw [e0]; exact Ar57.1) (State.isArrayOf_alike hZ.alike Ar57.2.1) (g := (mkF m 1 #[.val (.ref (A 15)), .val (.ref sb47), .unset] [(.ref (A 15))])) rfl rfl (hb hby own_d_jdk_43_method_13_code_1) _ ?_
    rw [len_of Sz57 Nn57]
    show Steps p.tables e below (s₁.setTop (mkF m 2 #[.val (.ref (A 15)), .val (.ref sb47), .unset] [(.int (2 : Int32))])) _
    refine XS.aloadN X0.here hx rfl (hb hby own_d_jdk_43_method_13_code_2) rfl rfl ?_
    show Steps p.tables e below (s₁.setTop (mkF m 3 #[.val (.ref (A 15)), .val (.ref sb47), .unset] [(.ref sb47), (.int (2 : Int32))])) _
    refine X0.arraylength hx (by rw [e0]; exact Ar58.1) (State.isArrayOf_alike hZ.alike Ar58.2.1) (g := (mkF m 3 #[.val (.ref (A 15)), .val (.ref sb47), .unset] [(.ref sb47), (.int (2 : Int32))])) rfl rfl (hb hby own_d_jdk_43_method_13_code_3) _ ?_
    rw [len_of Sz58 Nn58]
    show Steps p.tables e below (s₁.setTop (mkF m 4 #[.val (.ref (A 15)), .val (.ref sb47), .unset] [(.int (2 : Int32)), (.int (2 : Int32))])) _
    refine XS.icmpNo X0.here hx rfl (hb hby own_d_jdk_43_method_13_code_4) rfl (teq (by decide : (2 : Int32) = (2 : Int32))).2 ?_
    show Steps p.tables e below (s₁.setTop (mkF m 7 #[.val (.ref (A 15)), .val (.ref sb47), .unset] [])) _
    refine XS.iconst X0.here hx rfl (hb hby own_d_jdk_43_method_13_code_7) ?_
    show Steps p.tables e below (s₁.setTop (mkF m 8 #[.val (.ref (A 15)), .val (.ref sb47), .unset] [(.int (0 : Int32))])) _
    refine XS.istoreN X0.here hx rfl (hb hby own_d_jdk_43_method_13_code_8) rfl (l' := #[.val (.ref (A 15)), .val (.ref sb47), .val (.int (0 : Int32))]) rfl ?_
    show Steps p.tables e below (s₁.setTop (mkF m 9 #[.val (.ref (A 15)), .val (.ref sb47), .val (.int (0 : Int32))] [])) _
    refine XS.iloadN X0.here hx rfl (hb hby own_d_jdk_43_method_13_code_9) rfl ?_
    show Steps p.tables e below (s₁.setTop (mkF m 10 #[.val (.ref (A 15)), .val (.ref sb47), .val (.int (0 : Int32))] [(.int (0 : Int32))])) _
    refine XS.aloadN X0.here hx rfl (hb hby own_d_jdk_43_method_13_code_10) rfl rfl ?_
    show Steps p.tables e below (s₁.setTop (mkF m 11 #[.val (.ref (A 15)), .val (.ref sb47), .val (.int (0 : Int32))] [(.ref (A 15)), (.int (0 : Int32))])) _
    refine X0.arraylength hx (by rw [e0]; exact Ar59.1) (State.isArrayOf_alike hZ.alike Ar59.2.1) (g := (mkF m 11 #[.val (.ref (A 15)), .val (.ref sb47), .val (.int (0 : Int32))] [(.ref (A 15)), (.int (0 : Int32))])) rfl rfl (hb hby own_d_jdk_43_method_13_code_11) _ ?_
    rw [len_of Sz59 Nn59]
    show Steps p.tables e below (s₁.setTop (mkF m 12 #[.val (.ref (A 15)), .val (.ref sb47), .val (.int (0 : Int32))] [(.int (2 : Int32)), (.int (0 : Int32))])) _
    refine XS.icmpNo X0.here hx rfl (hb hby own_d_jdk_43_method_13_code_12) rfl (tlt (by decide : (0 : Int32) < (2 : Int32))).2.1 ?_
    show Steps p.tables e below (s₁.setTop (mkF m 15 #[.val (.ref (A 15)), .val (.ref sb47), .val (.int (0 : Int32))] [])) _
    refine XS.aloadN X0.here hx rfl (hb hby own_d_jdk_43_method_13_code_15) rfl rfl ?_
    show Steps p.tables e below (s₁.setTop (mkF m 16 #[.val (.ref (A 15)), .val (.ref sb47), .val (.int (0 : Int32))] [(.ref (A 15))])) _
    refine XS.iloadN X0.here hx rfl (hb hby own_d_jdk_43_method_13_code_16) rfl ?_
    show Steps p.tables e below (s₁.setTop (mkF m 17 #[.val (.ref (A 15)), .val (.ref sb47), .val (.int (0 : Int32))] [(.int (0 : Int32)), (.ref (A 15))])) _
    refine X0.baloadBytes hx (j := (0 : Int32)) (v := (.int (60 : Int32))) (by rw [e0]; exact Ar60.1) (State.isArrayOf_alike hZ.alike Ar60.2.1) Ar60.2.2 hin60 hat60 (g := (mkF m 17 #[.val (.ref (A 15)), .val (.ref sb47), .val (.int (0 : Int32))] [(.int (0 : Int32)), (.ref (A 15))])) rfl rfl (hb hby own_d_jdk_43_method_13_code_17) _ ?_
    show Steps p.tables e below (s₁.setTop (mkF m 18 #[.val (.ref (A 15)), .val (.ref sb47), .val (.int (0 : Int32))] [(.int (60 : Int32))])) _
    refine XS.aloadN X0.here hx rfl (hb hby own_d_jdk_43_method_13_code_18) rfl rfl ?_
    show Steps p.tables e below (s₁.setTop (mkF m 19 #[.val (.ref (A 15)), .val (.ref sb47), .val (.int (0 : Int32))] [(.ref sb47), (.int (60 : Int32))])) _
    refine XS.iloadN X0.here hx rfl (hb hby own_d_jdk_43_method_13_code_19) rfl ?_
    show Steps p.tables e below (s₁.setTop (mkF m 20 #[.val (.ref (A 15)), .val (.ref sb47), .val (.int (0 : Int32))] [(.int (0 : Int32)), (.ref sb47), (.int (60 : Int32))])) _
    refine X0.baloadBytes hx (j := (0 : Int32)) (v := (.int (60 : Int32))) (by rw [e0]; exact Ar61.1) (State.isArrayOf_alike hZ.alike Ar61.2.1) Ar61.2.2 hin61 hat61 (g := (mkF m 20 #[.val (.ref (A 15)), .val (.ref sb47), .val (.int (0 : Int32))] [(.int (0 : Int32)), (.ref sb47), (.int (60 : Int32))])) rfl rfl (hb hby own_d_jdk_43_method_13_code_20) _ ?_
    show Steps p.tables e below (s₁.setTop (mkF m 21 #[.val (.ref (A 15)), .val (.ref sb47), .val (.int (0 : Int32))] [(.int (60 : Int32)), (.int (60 : Int32))])) _
    refine XS.icmpYes X0.here hx rfl (pc0 := 21) (pc' := 26) rfl (hb hby own_d_jdk_43_method_13_code_21) rfl (teq (by decide : (60 : Int32) = (60 : Int32))).1 (by decide) (by decide) ?_
    show Steps p.tables e below (s₁.setTop (mkF m 26 #[.val (.ref (A 15)), .val (.ref sb47), .val (.int (0 : Int32))] [])) _
    refine XS.iinc X0.here hx rfl (hb hby own_d_jdk_43_method_13_code_26) rfl (l' := #[.val (.ref (A 15)), .val (.ref sb47), .val (.int (1 : Int32))]) rfl ?_
    show Steps p.tables e below (s₁.setTop (mkF m 29 #[.val (.ref (A 15)), .val (.ref sb47), .val (.int (1 : Int32))] [])) _
    refine XS.goto X0.here hx rfl (pc0 := 29) (pc' := 9) rfl (hb hby own_d_jdk_43_method_13_code_29) (by decide) (by decide) ?_
    show Steps p.tables e below (s₁.setTop (mkF m 9 #[.val (.ref (A 15)), .val (.ref sb47), .val (.int (1 : Int32))] [])) _
    refine XS.iloadN X0.here hx rfl (hb hby own_d_jdk_43_method_13_code_9) rfl ?_
    show Steps p.tables e below (s₁.setTop (mkF m 10 #[.val (.ref (A 15)), .val (.ref sb47), .val (.int (1 : Int32))] [(.int (1 : Int32))])) _
    refine XS.aloadN X0.here hx rfl (hb hby own_d_jdk_43_method_13_code_10) rfl rfl ?_
    show Steps p.tables e below (s₁.setTop (mkF m 11 #[.val (.ref (A 15)), .val (.ref sb47), .val (.int (1 : Int32))] [(.ref (A 15)), (.int (1 : Int32))])) _
    refine X0.arraylength hx (by rw [e0]; exact Ar62.1) (State.isArrayOf_alike hZ.alike Ar62.2.1) (g := (mkF m 11 #[.val (.ref (A 15)), .val (.ref sb47), .val (.int (1 : Int32))] [(.ref (A 15)), (.int (1 : Int32))])) rfl rfl (hb hby own_d_jdk_43_method_13_code_11) _ ?_
    rw [len_of Sz62 Nn62]
    show Steps p.tables e below (s₁.setTop (mkF m 12 #[.val (.ref (A 15)), .val (.ref sb47), .val (.int (1 : Int32))] [(.int (2 : Int32)), (.int (1 : Int32))])) _
    refine XS.icmpNo X0.here hx rfl (hb hby own_d_jdk_43_method_13_code_12) rfl (tlt (by decide : (1 : Int32) < (2 : Int32))).2.1 ?_
    show Steps p.tables e below (s₁.setTop (mkF m 15 #[.val (.ref (A 15)), .val (.ref sb47), .val (.int (1 : Int32))] [])) _
    refine XS.aloadN X0.here hx rfl (hb hby own_d_jdk_43_method_13_code_15) rfl rfl ?_
    show Steps p.tables e below (s₁.setTop (mkF m 16 #[.val (.ref (A 15)), .val (.ref sb47), .val (.int (1 : Int32))] [(.ref (A 15))])) _
    refine XS.iloadN X0.here hx rfl (hb hby own_d_jdk_43_method_13_code_16) rfl ?_
    show Steps p.tables e below (s₁.setTop (mkF m 17 #[.val (.ref (A 15)), .val (.ref sb47), .val (.int (1 : Int32))] [(.int (1 : Int32)), (.ref (A 15))])) _
    refine X0.baloadBytes hx (j := (1 : Int32)) (v := (.int (62 : Int32))) (by rw [e0]; exact Ar63.1) (State.isArrayOf_alike hZ.alike Ar63.2.1) Ar63.2.2 hin63 hat63 (g := (mkF m 17 #[.val (.ref (A 15)), .val (.ref sb47), .val (.int (1 : Int32))] [(.int (1 : Int32)), (.ref (A 15))])) rfl rfl (hb hby own_d_jdk_43_method_13_code_17) _ ?_
    show Steps p.tables e below (s₁.setTop (mkF m 18 #[.val (.ref (A 15)), .val (.ref sb47), .val (.int (1 : Int32))] [(.int (62 : Int32))])) _
    refine XS.aloadN X0.here hx rfl (hb hby own_d_jdk_43_method_13_code_18) rfl rfl ?_
    show Steps p.tables e below (s₁.setTop (mkF m 19 #[.val (.ref (A 15)), .val (.ref sb47), .val (.int (1 : Int32))] [(.ref sb47), (.int (62 : Int32))])) _
    refine XS.iloadN X0.here hx rfl (hb hby own_d_jdk_43_method_13_code_19) rfl ?_
    show Steps p.tables e below (s₁.setTop (mkF m 20 #[.val (.ref (A 15)), .val (.ref sb47), .val (.int (1 : Int32))] [(.int (1 : Int32)), (.ref sb47), (.int (62 : Int32))])) _
    refine X0.baloadBytes hx (j := (1 : Int32)) (v := (.int (62 : Int32))) (by rw [e0]; exact Ar64.1) (State.isArrayOf_alike hZ.alike Ar64.2.1) Ar64.2.2 hin64 hat64 (g := (mkF m 20 #[.val (.ref (A 15)), .val (.ref sb47), .val (.int (1 : Int32))] [(.int (1 : Int32)), (.ref sb47), (.int (62 : Int32))])) rfl rfl (hb hby own_d_jdk_43_method_13_code_20) _ ?_
    show Steps p.tables e below (s₁.setTop (mkF m 21 #[.val (.ref (A 15)), .val (.ref sb47), .val (.int (1 : Int32))] [(.int (62 : Int32)), (.int (62 : Int32))])) _
    refine XS.icmpYes X0.here hx rfl (pc0 := 21) (pc' := 26) rfl (hb hby own_d_jdk_43_method_13_code_21) rfl (teq (by decide : (62 : Int32) = (62 : Int32))).1 (by decide) (by decide) ?_
    show Steps p.tables e below (s₁.setTop (mkF m 26 #[.val (.ref (A 15)), .val (.ref sb47), .val (.int (1 : Int32))] [])) _
    refine XS.iinc X0.here hx rfl (hb hby own_d_jdk_43_method_13_code_26) rfl (l' := #[.val (.ref (A 15)), .val (.ref sb47), .val (.int (2 : Int32))]) rfl ?_
    show Steps p.tables e below (s₁.setTop (mkF m 29 #[.val (.ref (A 15)), .val (.ref sb47), .val (.int (2 : Int32))] [])) _
    refine XS.goto X0.here hx rfl (pc0 := 29) (pc' := 9) rfl (hb hby own_d_jdk_43_method_13_code_29) (by decide) (by decide) ?_
    show Steps p.tables e below (s₁.setTop (mkF m 9 #[.val (.ref (A 15)), .val (.ref sb47), .val (.int (2 : Int32))] [])) _
    refine XS.iloadN X0.here hx rfl (hb hby own_d_jdk_43_method_13_code_9) rfl ?_
    show Steps p.tables e below (s₁.setTop (mkF m 10 #[.val (.ref (A 15)), .val (.ref sb47), .val (.int (2 : Int32))] [(.int (2 : Int32))])) _
    refine XS.aloadN X0.here hx rfl (hb hby own_d_jdk_43_method_13_code_10) rfl rfl ?_
    show Steps p.tables e below (s₁.setTop (mkF m 11 #[.val (.ref (A 15)), .val (.ref sb47), .val (.int (2 : Int32))] [(.ref (A 15)), (.int (2 : Int32))])) _
    refine X0.arraylength hx (by rw [e0]; exact Ar65.1) (State.isArrayOf_alike hZ.alike Ar65.2.1) (g := (mkF m 11 #[.val (.ref (A 15)), .val (.ref sb47), .val (.int (2 : Int32))] [(.ref (A 15)), (.int (2 : Int32))])) rfl rfl (hb hby own_d_jdk_43_method_13_code_11) _ ?_
    rw [len_of Sz65 Nn65]
    show Steps p.tables e below (s₁.setTop (mkF m 12 #[.val (.ref (A 15)), .val (.ref sb47), .val (.int (2 : Int32))] [(.int (2 : Int32)), (.int (2 : Int32))])) _
    refine XS.icmpYes X0.here hx rfl (pc0 := 12) (pc' := 32) rfl (hb hby own_d_jdk_43_method_13_code_12) rfl (flt (by decide : ¬ ((2 : Int32) < (2 : Int32)))).2.1 (by decide) (by decide) ?_
    show Steps p.tables e below (s₁.setTop (mkF m 32 #[.val (.ref (A 15)), .val (.ref sb47), .val (.int (2 : Int32))] [])) _
    refine XS.iconst X0.here hx rfl (hb hby own_d_jdk_43_method_13_code_32) ?_
    show Steps p.tables e below (s₁.setTop (mkF m 33 #[.val (.ref (A 15)), .val (.ref sb47), .val (.int (2 : Int32))] [(.int (1 : Int32))])) _
    exact retN X0 hx (t := .boolean) Bd.returns (by simp) (hb hby own_d_jdk_43_method_13_code_33) hr
  · show PQ (some (.int (1 : Int32))) h0 n0 _ s₁.heap _
    rw [e0]
    exact ⟨rfl, N0, rfl⟩
theorem own_d_jdk_42_method_66_code_5 : decode jdk_42_method_66_code 5 = .ok (.iconst 1, 1) := by decide +kernel
theorem own_d_jdk_42_method_66_code_6 : decode jdk_42_method_66_code 6 = .ok (.ireturn, 1) := by decide +kernel
theorem own_d_jdk_42_method_66_code_50 : decode jdk_42_method_66_code 50 = .ok (.iconst 1, 1) := by decide +kernel
theorem own_d_jdk_42_method_66_code_51 : decode jdk_42_method_66_code 51 = .ok (.goto 4, 3) := by decide +kernel
theorem own_ef_rm14 (m : MethodId) (p1 : Int32) (A : Nat → Addr) (K : Nat → ClassId) (cs : Int32)  (sb47 : Addr) (sa47 : Addr) (kc47 : ClassId) : entryFrame m #[(.ref (A 9)), (.ref sa47)] 3 = mkF m 0 #[.val (.ref (A 9)), .val (.ref sa47), .unset] [] := by first | (simp [entryFrame, mkF, argsToLocals, Value.category, maxLocals]; done) | rfl
set_option maxRecDepth 65536 in
set_option maxHeartbeats 40000000 in
theorem rm14 (l : Launch) (Z : State) (a0 : Array Value) (hw : ∀ d ∈ tables_1, d.before a0 Z = true) (ws : List Jvm.Cond) (h0 : Heap) (n0 : Nat) (p1 : Int32) (A : Nat → Addr) (K : Nat → ClassId) (cs : Int32)  (sb47 : Addr) (sa47 : Addr) (kc47 : ClassId) (EN : own_St Z A K cs) (OL0 : Old Z n0 h0) (G_F_sa47_java_lang_String_value : Fld Z h0 sa47 "java/lang/String" "value" "[B" (.ref sb47)) (G_A_sb47 : Arv Z h0 sb47 kc47 .byte (2 : Int32) [(.int (60 : Int32)), (.int (62 : Int32))] (.int (0 : Int32))) (G_E_sa47 : Exa Z h0 sa47 "java/lang/String") (G_F_sa47_java_lang_String_coder : Fld Z h0 sa47 "java/lang/String" "coder" "B" (.int (0 : Int32))) :
    MetFree l own_m2 (head1 (Jvm.Cond.code own_m2 jdk_42_method_66_code 3 (some .boolean) :: ws) ({ frames := 1, cells := 0, slots := 0, locals := 14 } : Room)) (fun a U => a = #[(.ref (A 9)), (.ref sa47)] ∧ Z.Warmed39 U.vm ∧ U.heap = h0) (fun _ _ _ _ _ => True) (fun _ U o U' => ∃ v L, o = .returned v ∧ (PQ (some (.int (1 : Int32))) h0 n0) v U'.heap L ∧ FrameEnd U o U' L ({ frames := 1, cells := 0, slots := 0, locals := 14 } : Room).cells ({ frames := 1, cells := 0, slots := 0, locals := 14 } : Room).slots) := by
  refine MetFree.of_bodySF (plainFor_of_name own_pn2) hisR ?_
  intro p e s m args below meth c s₁ Bd hml0 hP hK
  obtain ⟨rfl, hZ, hh⟩ := hP
  have hx := Bd.exec
  have hby := Bd.bytes
  have hml : c.maxLocals = 3 := hml0
  have hown : s.vm.findClass "java/lang/String" = some m.cls := findClass_of_methodNamed Bd.named
  have hnm := (name_of_methodNamed Bd.named Bd.method).1
  have X0 : Stand p l e ({ frames := 1, cells := 0, slots := 0, locals := 14 } : Room) s m #[(.ref (A 9)), (.ref sa47)] below meth c s₁ [] 0 0 := Stand.of_body Bd
  have e0 : s₁.heap = h0 := by rw [← hh, Bd.state]; rfl
  have N0 := Fr.nil n0
  have pre0 : ∀ t, Steps p.tables e below (s₁.setTop (mkF m 0 #[.val (.ref (A 9)), .val (.ref sa47), .unset] [])) t → Steps p.tables e below (s₁.setTop (entryFrame m #[(.ref (A 9)), (.ref sa47)] 3)) t := fun t k => castTop (own_ef_rm14 m p1 A K cs sb47 sa47 kc47) k
  have KK0 : Keep h0 h0 [] := Keep.refl _ _
  have pre48 : ∀ t, Steps p.tables e below (s₁.setTop (mkF m 2 #[.val (.ref (A 9)), .val (.ref sa47), .unset] [(.ref sa47), (.ref (A 9))])) t → Steps p.tables e below (s₁.setTop (entryFrame m #[(.ref (A 9)), (.ref sa47)] 3)) t := fun t k => pre0 t (by
    show Steps p.tables e below (s₁.setTop (mkF m 0 #[.val (.ref (A 9)), .val (.ref sa47), .unset] [])) _
    refine XS.aloadN X0.here hx rfl (hb hby own_d_jdk_42_method_66_code_0) rfl rfl ?_
    show Steps p.tables e below (s₁.setTop (mkF m 1 #[.val (.ref (A 9)), .val (.ref sa47), .unset] [(.ref (A 9))])) _
    refine XS.aloadN X0.here hx rfl (hb hby own_d_jdk_42_method_66_code_1) rfl rfl ?_
    exact k)
  by_cases ha2_49 : (A 9) = sa47
  · obtain ⟨fs, hr, hrun, hended, hW, hsame⟩ := X0.leave (v := some (.int (1 : Int32))) (fun h => by rw [Bd.returns] at h; cases h)
    refine ⟨_, _, pre48 _ ?_, hrun, hended, _, _, rfl, ?_, ⟨_, rfl⟩, hW, hsame.mono (by decide) (by decide)⟩
    · show Steps p.tables e below (s₁.setTop (mkF m 2 #[.val (.ref (A 9)), .val (.ref sa47), .unset] [(.ref sa47), (.ref (A 9))])) _
      refine Jvm.RoadKit.acmp (g := (mkF m 2 #[.val (.ref (A 9)), .val (.ref sa47), .unset] [(.ref sa47), (.ref (A 9))])) X0 hx rfl rfl rfl (pc0 := 2) (pc' := 5) (same := true) rfl (hb hby own_d_jdk_42_method_66_code_2) rfl (decide_eq_true (congrArg Value.ref ha2_49)) (by decide) (by decide) ?_
      show Steps p.tables e below (s₁.setTop (mkF m 5 #[.val (.ref (A 9)), .val (.ref sa47), .unset] [])) _
      refine XS.iconst X0.here hx rfl (hb hby own_d_jdk_42_method_66_code_5) ?_
      show Steps p.tables e below (s₁.setTop (mkF m 6 #[.val (.ref (A 9)), .val (.ref sa47), .unset] [(.int (1 : Int32))])) _
      exact retN X0 hx (t := .boolean) Bd.returns (by simp) (hb hby own_d_jdk_42_method_66_code_6) hr
    · show PQ (some (.int (1 : Int32))) h0 n0 _ s₁.heap _
      rw [e0]
      exact ⟨rfl, N0, rfl⟩
  · obtain ⟨T50, X50, e50, st50⟩ := instY X0 hx hZ hown (hw _ (List.mem_of_getElem? (i := 24) rfl)) e0 (Ins.self G_E_sa47) (g := (mkF m 8 #[.val (.ref (A 9)), .val (.ref sa47), .unset] [(.ref sa47)])) rfl rfl (hb hby own_d_jdk_42_method_66_code_8)
    obtain ⟨T51, X51, e51, st51⟩ := castY X50 hx hZ hown (hw _ (List.mem_of_getElem? (i := 24) rfl)) e50 (Ins.self G_E_sa47) (g := (mkF m 15 #[.val (.ref (A 9)), .val (.ref sa47), .unset] [(.ref sa47)])) rfl rfl (hb hby own_d_jdk_42_method_66_code_15)
    obtain ⟨T52, X52, e52, st52⟩ := getS2 X51 hx hZ hown (host := "") (Or.inl (hw _ (List.mem_of_getElem? (i := 26) rfl))) Via.refl e51 (EN.2.2.2.2.1.2.2.2.2.1.ext OL0.2) (g := (mkF m 19 #[.val (.ref (A 9)), .val (.ref sa47), .val (.ref sa47)] [])) rfl (hb hby own_d_jdk_42_method_66_code_19)
    obtain ⟨T53, X53, e53, st53⟩ := getF X52 hx hZ hown (host := "") (Or.inl (hw _ (List.mem_of_getElem? (i := 27) rfl))) Via.refl e52 (EN.2.2.2.2.2.1.2.2.2.2.2.2.1.ext OL0.2) (g := (mkF m 26 #[.val (.ref (A 9)), .val (.ref sa47), .val (.ref sa47)] [(.ref (A 9))])) rfl rfl (hb hby own_d_jdk_42_method_66_code_26)
    obtain ⟨T54, X54, e54, st54⟩ := getF X53 hx hZ hown (host := "") (Or.inl (hw _ (List.mem_of_getElem? (i := 27) rfl))) Via.refl e53 G_F_sa47_java_lang_String_coder (g := (mkF m 30 #[.val (.ref (A 9)), .val (.ref sa47), .val (.ref sa47)] [(.ref sa47), (.int (0 : Int32))])) rfl rfl (hb hby own_d_jdk_42_method_66_code_30)
    obtain ⟨T55, X55, e55, st55⟩ := getF X54 hx hZ hown (host := "") (Or.inl (hw _ (List.mem_of_getElem? (i := 28) rfl))) Via.refl e54 (EN.2.2.2.1.2.2.2.2.2.2.1.ext OL0.2) (g := (mkF m 37 #[.val (.ref (A 9)), .val (.ref sa47), .val (.ref sa47)] [(.ref (A 9))])) rfl rfl (hb hby own_d_jdk_42_method_66_code_37)
    obtain ⟨T56, X56, e56, st56⟩ := getF X55 hx hZ hown (host := "") (Or.inl (hw _ (List.mem_of_getElem? (i := 28) rfl))) Via.refl e55 G_F_sa47_java_lang_String_value (g := (mkF m 41 #[.val (.ref (A 9)), .val (.ref sa47), .val (.ref sa47)] [(.ref sa47), (.ref (A 15))])) rfl rfl (hb hby own_d_jdk_42_method_66_code_41)
    obtain ⟨_, _, ⟨T66, L66, k66, n66⟩, -, X66, ⟨Lc66, hQ66, l66, y66, z66⟩, st66⟩ := Jvm.LawKit.callS X56 hx (y := own_m7) hown (mvT hZ (hw _ (List.mem_of_getElem? (i := 29) rfl))) (mvT hZ (hw _ (List.mem_of_getElem? (i := 30) rfl))) (mvT hZ (hw _ (List.mem_of_getElem? (i := 31) rfl))) (mvT hZ (hw _ (List.mem_of_getElem? (i := 32) rfl))) (by decide) (backOf (W := 0) (rm15 l Z a0 hw [] h0 n0 p1 A K cs sb47 kc47 EN OL0 G_A_sb47) hZ (hw _ (List.mem_of_getElem? (i := 32) rfl)) (hw _ (List.mem_of_getElem? (i := 31) rfl)) (by decide) (by decide)) (g := (mkF m 44 #[.val (.ref (A 9)), .val (.ref sa47), .val (.ref sa47)] [(.ref sb47), (.ref (A 15))])) rfl (by rw [hml]; rfl) (argsL := [(.ref (A 15)), (.ref sb47)]) (rest := []) (lenOf own_pd1 rfl) rfl (by show 2 * 0 + _ ≤ _; exact Nat.le_of_eq rfl) (hb hby own_d_jdk_42_method_66_code_44) (fun _ _ => ⟨rfl, e56, (by decide : 0 + 0 ≤ _), (by decide : 0 + 0 ≤ _)⟩)
    dsimp only [Pt.U, Pt.locs, Pt.cells, Pt.slots] at X66 l66 y66 z66 st66 hQ66
    subst l66 y66 z66
    obtain ⟨rfl, N66q, e66⟩ := hQ66
    have N66 := Fr.app N0 N66q
    obtain ⟨fs, hr, hrun, hended, hW, hsame⟩ := X66.leave (v := some (.int (1 : Int32))) (fun h => by rw [Bd.returns] at h; cases h)
    refine ⟨_, _, pre48 _ ?_, hrun, hended, _, _, rfl, ?_, ⟨_, rfl⟩, hW, hsame.mono (by decide) (by decide)⟩
    · show Steps p.tables e below (s₁.setTop (mkF m 2 #[.val (.ref (A 9)), .val (.ref sa47), .unset] [(.ref sa47), (.ref (A 9))])) _
      refine Jvm.RoadKit.acmp (g := (mkF m 2 #[.val (.ref (A 9)), .val (.ref sa47), .unset] [(.ref sa47), (.ref (A 9))])) X0 hx rfl rfl rfl (pc0 := 2) (pc' := 7) (same := false) rfl (hb hby own_d_jdk_42_method_66_code_2) rfl (decide_eq_false fun q => ha2_49 (Value.ref.inj q)) (by decide) (by decide) ?_
      show Steps p.tables e below (s₁.setTop (mkF m 7 #[.val (.ref (A 9)), .val (.ref sa47), .unset] [])) _
      refine XS.aloadN X0.here hx rfl (hb hby own_d_jdk_42_method_66_code_7) rfl rfl ?_
      show Steps p.tables e below (s₁.setTop (mkF m 8 #[.val (.ref (A 9)), .val (.ref sa47), .unset] [(.ref sa47)])) _
      refine st50 _ ?_
      show Steps p.tables e below (T50.setTop (mkF m 11 #[.val (.ref (A 9)), .val (.ref sa47), .unset] [(.int (1 : Int32))])) _
      refine XS.ifNo X50.here hx rfl (hb hby own_d_jdk_42_method_66_code_11) rfl ((if0 _ _).trans (feq (by decide : ¬ ((1 : Int32) = (0 : Int32)))).1) ?_
      show Steps p.tables e below (T50.setTop (mkF m 14 #[.val (.ref (A 9)), .val (.ref sa47), .unset] [])) _
      refine XS.aloadN X50.here hx rfl (hb hby own_d_jdk_42_method_66_code_14) rfl rfl ?_
      show Steps p.tables e below (T50.setTop (mkF m 15 #[.val (.ref (A 9)), .val (.ref sa47), .unset] [(.ref sa47)])) _
      refine st51 _ ?_
      show Steps p.tables e below (T51.setTop (mkF m 18 #[.val (.ref (A 9)), .val (.ref sa47), .unset] [(.ref sa47)])) _
      refine XS.astoreN X51.here hx rfl (hb hby own_d_jdk_42_method_66_code_18) rfl rfl (l' := #[.val (.ref (A 9)), .val (.ref sa47), .val (.ref sa47)]) rfl ?_
      show Steps p.tables e below (T51.setTop (mkF m 19 #[.val (.ref (A 9)), .val (.ref sa47), .val (.ref sa47)] [])) _
      refine st52 _ ?_
      show Steps p.tables e below (T52.setTop (mkF m 22 #[.val (.ref (A 9)), .val (.ref sa47), .val (.ref sa47)] [(.int cs)])) _
      refine XS.ifNo X52.here hx rfl (hb hby own_d_jdk_42_method_66_code_22) rfl ((if0 _ _).trans (feq EN.2.2.2.2.1.2.2.2.2.2.1).1) ?_
      show Steps p.tables e below (T52.setTop (mkF m 25 #[.val (.ref (A 9)), .val (.ref sa47), .val (.ref sa47)] [])) _
      refine XS.aloadN X52.here hx rfl (hb hby own_d_jdk_42_method_66_code_25) rfl rfl ?_
      show Steps p.tables e below (T52.setTop (mkF m 26 #[.val (.ref (A 9)), .val (.ref sa47), .val (.ref sa47)] [(.ref (A 9))])) _
      refine st53 _ ?_
      show Steps p.tables e below (T53.setTop (mkF m 29 #[.val (.ref (A 9)), .val (.ref sa47), .val (.ref sa47)] [(.int (0 : Int32))])) _
      refine XS.aloadN X53.here hx rfl (hb hby own_d_jdk_42_method_66_code_29) rfl rfl ?_
      show Steps p.tables e below (T53.setTop (mkF m 30 #[.val (.ref (A 9)), .val (.ref sa47), .val (.ref sa47)] [(.ref sa47), (.int (0 : Int32))])) _
      refine st54 _ ?_
      show Steps p.tables e below (T54.setTop (mkF m 33 #[.val (.ref (A 9)), .val (.ref sa47), .val (.ref sa47)] [(.int (0 : Int32)), (.int (0 : Int32))])) _
      refine XS.icmpNo X54.here hx rfl (hb hby own_d_jdk_42_method_66_code_33) rfl (teq (by decide : (0 : Int32) = (0 : Int32))).2 ?_
      show Steps p.tables e below (T54.setTop (mkF m 36 #[.val (.ref (A 9)), .val (.ref sa47), .val (.ref sa47)] [])) _
      refine XS.aloadN X54.here hx rfl (hb hby own_d_jdk_42_method_66_code_36) rfl rfl ?_
      show Steps p.tables e below (T54.setTop (mkF m 37 #[.val (.ref (A 9)), .val (.ref sa47), .val (.ref sa47)] [(.ref (A 9))])) _
      refine st55 _ ?_
      show Steps p.tables e below (T55.setTop (mkF m 40 #[.val (.ref (A 9)), .val (.ref sa47), .val (.ref sa47)] [(.ref (A 15))])) _
      refine XS.aloadN X55.here hx rfl (hb hby own_d_jdk_42_method_66_code_40) rfl rfl ?_
      show Steps p.tables e below (T55.setTop (mkF m 41 #[.val (.ref (A 9)), .val (.ref sa47), .val (.ref sa47)] [(.ref sa47), (.ref (A 15))])) _
      refine st56 _ ?_
      show Steps p.tables e below (T56.setTop (mkF m 44 #[.val (.ref (A 9)), .val (.ref sa47), .val (.ref sa47)] [(.ref sb47), (.ref (A 15))])) _
      refine st66 _ ?_
      show Steps p.tables e below (T66.setTop (mkF m 47 #[.val (.ref (A 9)), .val (.ref sa47), .val (.ref sa47)] [(.int (1 : Int32))])) _
      refine XS.ifNo X66.here hx rfl (hb hby own_d_jdk_42_method_66_code_47) rfl ((if0 _ _).trans (feq (by decide : ¬ ((1 : Int32) = (0 : Int32)))).1) ?_
      show Steps p.tables e below (T66.setTop (mkF m 50 #[.val (.ref (A 9)), .val (.ref sa47), .val (.ref sa47)] [])) _
      refine XS.iconst X66.here hx rfl (hb hby own_d_jdk_42_method_66_code_50) ?_
      show Steps p.tables e below (T66.setTop (mkF m 51 #[.val (.ref (A 9)), .val (.ref sa47), .val (.ref sa47)] [(.int (1 : Int32))])) _
      refine XS.goto X66.here hx rfl (pc0 := 51) (pc' := 55) rfl (hb hby own_d_jdk_42_method_66_code_51) (by decide) (by decide) ?_
      show Steps p.tables e below (T66.setTop (mkF m 55 #[.val (.ref (A 9)), .val (.ref sa47), .val (.ref sa47)] [(.int (1 : Int32))])) _
      exact retN X66 hx (t := .boolean) Bd.returns (by simp) (hb hby own_d_jdk_42_method_66_code_55) hr
    · show PQ (some (.int (1 : Int32))) h0 n0 _ T66.heap _
      rw [e66]
      exact ⟨rfl, N66, rfl⟩
theorem own_d_prog_57_method_5_code_7 : decode prog_57_method_5_code 7 = .ok (.aload_n 0, 1) := by decide +kernel
theorem own_d_prog_57_method_5_code_8 : decode prog_57_method_5_code 8 = .ok (.getstatic 7, 3) := by decide +kernel
theorem own_d_prog_57_method_5_code_11 : decode prog_57_method_5_code 11 = .ok (.if_acmp .eq 7, 3) := by decide +kernel
theorem own_ef_rm16 (m : MethodId) (p1 : Int32) (A : Nat → Addr) (K : Nat → ClassId) (cs : Int32)  : entryFrame m #[(.ref (A 1))] 1 = mkF m 0 #[.val (.ref (A 1))] [] := by first | (simp [entryFrame, mkF, argsToLocals, Value.category, maxLocals]; done) | rfl
set_option maxRecDepth 65536 in
set_option maxHeartbeats 40000000 in
theorem rm16 (l : Launch) (Z : State) (a0 : Array Value) (hw : ∀ d ∈ tables_1, d.before a0 Z = true) (ws : List Jvm.Cond) (h0 : Heap) (n0 : Nat) (p1 : Int32) (A : Nat → Addr) (K : Nat → ClassId) (cs : Int32)  (EN : own_St Z A K cs) (OL0 : Old Z n0 h0) :
    MetFree l own_m3 (head1 (Jvm.Cond.code own_m3 prog_57_method_5_code 1 (some .boolean) :: ws) ({ frames := 0, cells := 0, slots := 0, locals := 0 } : Room)) (fun a U => a = #[(.ref (A 1))] ∧ Z.Warmed39 U.vm ∧ U.heap = h0) (fun _ _ _ _ _ => True) (fun _ U o U' => ∃ v L, o = .returned v ∧ (PQ (some (.int (0 : Int32))) h0 n0) v U'.heap L ∧ FrameEnd U o U' L ({ frames := 0, cells := 0, slots := 0, locals := 0 } : Room).cells ({ frames := 0, cells := 0, slots := 0, locals := 0 } : Room).slots) := by
  refine MetFree.of_bodySF (plainFor_of_name own_pn0) hisR ?_
  intro p e s m args below meth c s₁ Bd hml0 hP hK
  obtain ⟨rfl, hZ, hh⟩ := hP
  have hx := Bd.exec
  have hby := Bd.bytes
  have hml : c.maxLocals = 1 := hml0
  have hown : s.vm.findClass "com/example/cargoweft/cargoweft/core/FlexibleSearch$Operator" = some m.cls := findClass_of_methodNamed Bd.named
  have hnm := (name_of_methodNamed Bd.named Bd.method).1
  have X0 : Stand p l e ({ frames := 0, cells := 0, slots := 0, locals := 0 } : Room) s m #[(.ref (A 1))] below meth c s₁ [] 0 0 := Stand.of_body Bd
  have e0 : s₁.heap = h0 := by rw [← hh, Bd.state]; rfl
  have N0 := Fr.nil n0
  have pre0 : ∀ t, Steps p.tables e below (s₁.setTop (mkF m 0 #[.val (.ref (A 1))] [])) t → Steps p.tables e below (s₁.setTop (entryFrame m #[(.ref (A 1))] 1)) t := fun t k => castTop (own_ef_rm16 m p1 A K cs ) k
  have KK0 : Keep h0 h0 [] := Keep.refl _ _
  obtain ⟨T68, X68, e68, st68⟩ := getS2 X0 hx hZ hown (host := "") (Or.inl (hw _ (List.mem_of_getElem? (i := 69) rfl))) Via.refl e0 (EN.1.1.ext OL0.2) (g := (mkF m 1 #[.val (.ref (A 1))] [(.ref (A 1))])) rfl (hb hby own_d_prog_57_method_5_code_1)
  obtain ⟨T69, X69, e69, st69⟩ := getS2 X68 hx hZ hown (host := "") (Or.inl (hw _ (List.mem_of_getElem? (i := 72) rfl))) Via.refl e68 (EN.1.2.2.1.ext OL0.2) (g := (mkF m 8 #[.val (.ref (A 1))] [(.ref (A 1))])) rfl (hb hby own_d_prog_57_method_5_code_8)
  obtain ⟨fs, hr, hrun, hended, hW, hsame⟩ := X69.leave (v := some (.int (0 : Int32))) (fun h => by rw [Bd.returns] at h; cases h)
  refine ⟨_, _, pre0 _ ?_, hrun, hended, _, _, rfl, ?_, ⟨_, rfl⟩, hW, hsame.mono (by decide) (by decide)⟩
  · show Steps p.tables e below (s₁.setTop (mkF m 0 #[.val (.ref (A 1))] [])) _
    refine XS.aloadN X0.here hx rfl (hb hby own_d_prog_57_method_5_code_0) rfl rfl ?_
    show Steps p.tables e below (s₁.setTop (mkF m 1 #[.val (.ref (A 1))] [(.ref (A 1))])) _
    refine st68 _ ?_
    show Steps p.tables e below (T68.setTop (mkF m 4 #[.val (.ref (A 1))] [(.ref (A 0)), (.ref (A 1))])) _
    refine Jvm.RoadKit.acmp (g := (mkF m 4 #[.val (.ref (A 1))] [(.ref (A 0)), (.ref (A 1))])) X68 hx rfl rfl rfl (pc0 := 4) (pc' := 7) (same := false) rfl (hb hby own_d_prog_57_method_5_code_4) rfl (decide_eq_false fun q => (Fld.ne EN.2.2.2.2.2.1.2.2.2.1 EN.2.2.2.2.2.1.2.2.1 (fun h => by injection h with h; exact absurd h (by decide))) (Value.ref.inj q)) (by decide) (by decide) ?_
    show Steps p.tables e below (T68.setTop (mkF m 7 #[.val (.ref (A 1))] [])) _
    refine XS.aloadN X68.here hx rfl (hb hby own_d_prog_57_method_5_code_7) rfl rfl ?_
    show Steps p.tables e below (T68.setTop (mkF m 8 #[.val (.ref (A 1))] [(.ref (A 1))])) _
    refine st69 _ ?_
    show Steps p.tables e below (T69.setTop (mkF m 11 #[.val (.ref (A 1))] [(.ref (A 1)), (.ref (A 1))])) _
    refine Jvm.RoadKit.acmp (g := (mkF m 11 #[.val (.ref (A 1))] [(.ref (A 1)), (.ref (A 1))])) X69 hx rfl rfl rfl (pc0 := 11) (pc' := 18) (same := true) rfl (hb hby own_d_prog_57_method_5_code_11) rfl (decide_eq_true rfl) (by decide) (by decide) ?_
    show Steps p.tables e below (T69.setTop (mkF m 18 #[.val (.ref (A 1))] [])) _
    refine XS.iconst X69.here hx rfl (hb hby own_d_prog_57_method_5_code_18) ?_
    show Steps p.tables e below (T69.setTop (mkF m 19 #[.val (.ref (A 1))] [(.int (0 : Int32))])) _
    exact retN X69 hx (t := .boolean) Bd.returns (by simp) (hb hby own_d_prog_57_method_5_code_19) hr
  · show PQ (some (.int (0 : Int32))) h0 n0 _ T69.heap _
    rw [e69]
    exact ⟨rfl, N0, rfl⟩
theorem own_ef_rm17 (m : MethodId) (p1 : Int32) (A : Nat → Addr) (K : Nat → ClassId) (cs : Int32)  : entryFrame m #[(.ref (A 2))] 1 = mkF m 0 #[.val (.ref (A 2))] [] := by first | (simp [entryFrame, mkF, argsToLocals, Value.category, maxLocals]; done) | rfl
set_option maxRecDepth 65536 in
set_option maxHeartbeats 40000000 in
theorem rm17 (l : Launch) (Z : State) (a0 : Array Value) (hw : ∀ d ∈ tables_1, d.before a0 Z = true) (ws : List Jvm.Cond) (h0 : Heap) (n0 : Nat) (p1 : Int32) (A : Nat → Addr) (K : Nat → ClassId) (cs : Int32)  (EN : own_St Z A K cs) (OL0 : Old Z n0 h0) :
    MetFree l own_m1 (head1 (Jvm.Cond.code own_m1 prog_57_method_4_code 1 (some (.object "java/lang/String")) :: ws) ({ frames := 0, cells := 0, slots := 0, locals := 0 } : Room)) (fun a U => a = #[(.ref (A 2))] ∧ Z.Warmed39 U.vm ∧ U.heap = h0) (fun _ _ _ _ _ => True) (fun _ U o U' => ∃ v L, o = .returned v ∧ (PQ (some (.ref (A 8))) h0 n0) v U'.heap L ∧ FrameEnd U o U' L ({ frames := 0, cells := 0, slots := 0, locals := 0 } : Room).cells ({ frames := 0, cells := 0, slots := 0, locals := 0 } : Room).slots) := by
  refine MetFree.of_bodySF (plainFor_of_name own_pn0) hisR ?_
  intro p e s m args below meth c s₁ Bd hml0 hP hK
  obtain ⟨rfl, hZ, hh⟩ := hP
  have hx := Bd.exec
  have hby := Bd.bytes
  have hml : c.maxLocals = 1 := hml0
  have hown : s.vm.findClass "com/example/cargoweft/cargoweft/core/FlexibleSearch$Operator" = some m.cls := findClass_of_methodNamed Bd.named
  have hnm := (name_of_methodNamed Bd.named Bd.method).1
  have X0 : Stand p l e ({ frames := 0, cells := 0, slots := 0, locals := 0 } : Room) s m #[(.ref (A 2))] below meth c s₁ [] 0 0 := Stand.of_body Bd
  have e0 : s₁.heap = h0 := by rw [← hh, Bd.state]; rfl
  have N0 := Fr.nil n0
  have pre0 : ∀ t, Steps p.tables e below (s₁.setTop (mkF m 0 #[.val (.ref (A 2))] [])) t → Steps p.tables e below (s₁.setTop (entryFrame m #[(.ref (A 2))] 1)) t := fun t k => castTop (own_ef_rm17 m p1 A K cs ) k
  have KK0 : Keep h0 h0 [] := Keep.refl _ _
  obtain ⟨T72, X72, e72, st72⟩ := getF X0 hx hZ hown (host := "") (Or.inl (hw _ (List.mem_of_getElem? (i := 9) rfl))) Via.refl e0 (EN.2.2.1.1.ext OL0.2) (g := (mkF m 1 #[.val (.ref (A 2))] [(.ref (A 2))])) rfl rfl (hb hby own_d_prog_57_method_4_code_1)
  obtain ⟨fs, hr, hrun, hended, hW, hsame⟩ := X72.leave (v := some (.ref (A 8))) (fun h => by rw [Bd.returns] at h; cases h)
  refine ⟨_, _, pre0 _ ?_, hrun, hended, _, _, rfl, ?_, ⟨_, rfl⟩, hW, hsame.mono (by decide) (by decide)⟩
  · show Steps p.tables e below (s₁.setTop (mkF m 0 #[.val (.ref (A 2))] [])) _
    refine XS.aloadN X0.here hx rfl (hb hby own_d_prog_57_method_4_code_0) rfl rfl ?_
    show Steps p.tables e below (s₁.setTop (mkF m 1 #[.val (.ref (A 2))] [(.ref (A 2))])) _
    refine st72 _ ?_
    show Steps p.tables e below (T72.setTop (mkF m 4 #[.val (.ref (A 2))] [(.ref (A 8))])) _
    exact retOut X72 hx Bd.returns rfl (Or.inr (Or.inr (Or.inr (Or.inr ⟨rfl, rfl, rfl⟩)))) (hb hby own_d_prog_57_method_4_code_4) hr
  · show PQ (some (.ref (A 8))) h0 n0 _ T72.heap _
    rw [e72]
    exact ⟨rfl, N0, rfl⟩
theorem own_ef_rm19 (m : MethodId) (p1 : Int32) (A : Nat → Addr) (K : Nat → ClassId) (cs : Int32)  (sb75 : Addr) (kc75 : ClassId) : entryFrame m #[(.ref (A 14)), (.ref sb75)] 3 = mkF m 0 #[.val (.ref (A 14)), .val (.ref sb75), .unset] [] := by first | (simp [entryFrame, mkF, argsToLocals, Value.category, maxLocals]; done) | rfl
set_option maxRecDepth 65536 in
set_option maxHeartbeats 40000000 in
theorem rm19 (l : Launch) (Z : State) (a0 : Array Value) (hw : ∀ d ∈ tables_1, d.before a0 Z = true) (ws : List Jvm.Cond) (h0 : Heap) (n0 : Nat) (p1 : Int32) (A : Nat → Addr) (K : Nat → ClassId) (cs : Int32)  (sb75 : Addr) (kc75 : ClassId) (EN : own_St Z A K cs) (OL0 : Old Z n0 h0) (G_A_sb75 : Arv Z h0 sb75 kc75 .byte (2 : Int32) [(.int (60 : Int32)), (.int (62 : Int32))] (.int (0 : Int32))) :
    MetFree l own_m7 (head1 (Jvm.Cond.code own_m7 jdk_43_method_13_code 3 (some .boolean) :: ws) ({ frames := 0, cells := 0, slots := 0, locals := 0 } : Room)) (fun a U => a = #[(.ref (A 14)), (.ref sb75)] ∧ Z.Warmed39 U.vm ∧ U.heap = h0) (fun _ _ _ _ _ => True) (fun _ U o U' => ∃ v L, o = .returned v ∧ (PQ (some (.int (0 : Int32))) h0 n0) v U'.heap L ∧ FrameEnd U o U' L ({ frames := 0, cells := 0, slots := 0, locals := 0 } : Room).cells ({ frames := 0, cells := 0, slots := 0, locals := 0 } : Room).slots) := by
  refine MetFree.of_bodySF (plainFor_of_name own_pn1) hisR ?_
  intro p e s m args below meth c s₁ Bd hml0 hP hK
  obtain ⟨rfl, hZ, hh⟩ := hP
  have hx := Bd.exec
  have hby := Bd.bytes
  have hml : c.maxLocals = 3 := hml0
  have hown : s.vm.findClass "java/lang/StringLatin1" = some m.cls := findClass_of_methodNamed Bd.named
  have hnm := (name_of_methodNamed Bd.named Bd.method).1
  have X0 : Stand p l e ({ frames := 0, cells := 0, slots := 0, locals := 0 } : Room) s m #[(.ref (A 14)), (.ref sb75)] below meth c s₁ [] 0 0 := Stand.of_body Bd
  have e0 : s₁.heap = h0 := by rw [← hh, Bd.state]; rfl
  have N0 := Fr.nil n0
  have pre0 : ∀ t, Steps p.tables e below (s₁.setTop (mkF m 0 #[.val (.ref (A 14)), .val (.ref sb75), .unset] [])) t → Steps p.tables e below (s₁.setTop (entryFrame m #[(.ref (A 14)), (.ref sb75)] 3)) t := fun t k => castTop (own_ef_rm19 m p1 A K cs sb75 kc75) k
  have KK0 : Keep h0 h0 [] := Keep.refl _ _
  obtain ⟨cl83, Ar83, -, Sz83, Nn83, -, -⟩ := (id (EN.2.2.2.1.2.2.2.2.2.1.ext OL0.2))
  obtain ⟨cl84, Ar84, -, Sz84, Nn84, -, -⟩ := (id G_A_sb75)
  obtain ⟨fs, hr, hrun, hended, hW, hsame⟩ := X0.leave (v := some (.int (0 : Int32))) (fun h => by rw [Bd.returns] at h; cases h)
  refine ⟨_, _, pre0 _ ?_, hrun, hended, _, _, rfl, ?_, ⟨_, rfl⟩, hW, hsame.mono (by decide) (by decide)⟩
  · show Steps p.tables e below (s₁.setTop (mkF m 0 #[.val (.ref (A 14)), .val (.ref sb75), .unset] [])) _
    refine XS.aloadN X0.here hx rfl (hb hby own_d_jdk_43_method_13_code_0) rfl rfl ?_
    show Steps p.tables e below (s₁.setTop (mkF m 1 #[.val (.ref (A 14)), .val (.ref sb75), .unset] [(.ref (A 14))])) _
    refine X0.arraylength hx (by rw [e0]; exact Ar83.1) (State.isArrayOf_alike hZ.alike Ar83.2.1) (g := (mkF m 1 #[.val (.ref (A 14)), .val (.ref sb75), .unset] [(.ref (A 14))])) rfl rfl (hb hby own_d_jdk_43_method_13_code_1) _ ?_
    rw [len_of Sz83 Nn83]
    show Steps p.tables e below (s₁.setTop (mkF m 2 #[.val (.ref (A 14)), .val (.ref sb75), .unset] [(.int (1 : Int32))])) _
    refine XS.aloadN X0.here hx rfl (hb hby own_d_jdk_43_method_13_code_2) rfl rfl ?_
    show Steps p.tables e below (s₁.setTop (mkF m 3 #[.val (.ref (A 14)), .val (.ref sb75), .unset] [(.ref sb75), (.int (1 : Int32))])) _
    refine X0.arraylength hx (by rw [e0]; exact Ar84.1) (State.isArrayOf_alike hZ.alike Ar84.2.1) (g := (mkF m 3 #[.val (.ref (A 14)), .val (.ref sb75), .unset] [(.ref sb75), (.int (1 : Int32))])) rfl rfl (hb hby own_d_jdk_43_method_13_code_3) _ ?_
    rw [len_of Sz84 Nn84]
    show Steps p.tables e below (s₁.setTop (mkF m 4 #[.val (.ref (A 14)), .val (.ref sb75), .unset] [(.int (2 : Int32)), (.int (1 : Int32))])) _
    refine XS.icmpYes X0.here hx rfl (pc0 := 4) (pc' := 34) rfl (hb hby own_d_jdk_43_method_13_code_4) rfl (feq (by decide : ¬ ((1 : Int32) = (2 : Int32)))).2 (by decide) (by decide) ?_
    show Steps p.tables e below (s₁.setTop (mkF m 34 #[.val (.ref (A 14)), .val (.ref sb75), .unset] [])) _
    refine XS.iconst X0.here hx rfl (hb hby own_d_jdk_43_method_13_code_34) ?_
    show Steps p.tables e below (s₁.setTop (mkF m 35 #[.val (.ref (A 14)), .val (.ref sb75), .unset] [(.int (0 : Int32))])) _
    exact retN X0 hx (t := .boolean) Bd.returns (by simp) (hb hby own_d_jdk_43_method_13_code_35) hr
  · show PQ (some (.int (0 : Int32))) h0 n0 _ s₁.heap _
    rw [e0]
    exact ⟨rfl, N0, rfl⟩
theorem own_ef_rm18 (m : MethodId) (p1 : Int32) (A : Nat → Addr) (K : Nat → ClassId) (cs : Int32)  (sb75 : Addr) (sa75 : Addr) (kc75 : ClassId) : entryFrame m #[(.ref (A 8)), (.ref sa75)] 3 = mkF m 0 #[.val (.ref (A 8)), .val (.ref sa75), .unset] [] := by first | (simp [entryFrame, mkF, argsToLocals, Value.category, maxLocals]; done) | rfl
set_option maxRecDepth 65536 in
set_option maxHeartbeats 40000000 in
theorem rm18 (l : Launch) (Z : State) (a0 : Array Value) (hw : ∀ d ∈ tables_1, d.before a0 Z = true) (ws : List Jvm.Cond) (h0 : Heap) (n0 : Nat) (p1 : Int32) (A : Nat → Addr) (K : Nat → ClassId) (cs : Int32)  (sb75 : Addr) (sa75 : Addr) (kc75 : ClassId) (EN : own_St Z A K cs) (OL0 : Old Z n0 h0) (G_F_sa75_java_lang_String_value : Fld Z h0 sa75 "java/lang/String" "value" "[B" (.ref sb75)) (G_A_sb75 : Arv Z h0 sb75 kc75 .byte (2 : Int32) [(.int (60 : Int32)), (.int (62 : Int32))] (.int (0 : Int32))) (G_E_sa75 : Exa Z h0 sa75 "java/lang/String") (G_F_sa75_java_lang_String_coder : Fld Z h0 sa75 "java/lang/String" "coder" "B" (.int (0 : Int32))) :
    MetFree l own_m2 (head1 (Jvm.Cond.code own_m2 jdk_42_method_66_code 3 (some .boolean) :: ws) ({ frames := 1, cells := 0, slots := 0, locals := 14 } : Room)) (fun a U => a = #[(.ref (A 8)), (.ref sa75)] ∧ Z.Warmed39 U.vm ∧ U.heap = h0) (fun _ _ _ _ _ => True) (fun _ U o U' => ∃ v L, o = .returned v ∧ (PQ (some (.int (0 : Int32))) h0 n0) v U'.heap L ∧ FrameEnd U o U' L ({ frames := 1, cells := 0, slots := 0, locals := 14 } : Room).cells ({ frames := 1, cells := 0, slots := 0, locals := 14 } : Room).slots) := by
  refine MetFree.of_bodySF (plainFor_of_name own_pn2) hisR ?_
  intro p e s m args below meth c s₁ Bd hml0 hP hK
  obtain ⟨rfl, hZ, hh⟩ := hP
  have hx := Bd.exec
  have hby := Bd.bytes
  have hml : c.maxLocals = 3 := hml0
  have hown : s.vm.findClass "java/lang/String" = some m.cls := findClass_of_methodNamed Bd.named
  have hnm := (name_of_methodNamed Bd.named Bd.method).1
  have X0 : Stand p l e ({ frames := 1, cells := 0, slots := 0, locals := 14 } : Room) s m #[(.ref (A 8)), (.ref sa75)] below meth c s₁ [] 0 0 := Stand.of_body Bd
  have e0 : s₁.heap = h0 := by rw [← hh, Bd.state]; rfl
  have N0 := Fr.nil n0
  have pre0 : ∀ t, Steps p.tables e below (s₁.setTop (mkF m 0 #[.val (.ref (A 8)), .val (.ref sa75), .unset] [])) t → Steps p.tables e below (s₁.setTop (entryFrame m #[(.ref (A 8)), (.ref sa75)] 3)) t := fun t k => castTop (own_ef_rm18 m p1 A K cs sb75 sa75 kc75) k
  have KK0 : Keep h0 h0 [] := Keep.refl _ _
  obtain ⟨T76, X76, e76, st76⟩ := instY X0 hx hZ hown (hw _ (List.mem_of_getElem? (i := 24) rfl)) e0 (Ins.self G_E_sa75) (g := (mkF m 8 #[.val (.ref (A 8)), .val (.ref sa75), .unset] [(.ref sa75)])) rfl rfl (hb hby own_d_jdk_42_method_66_code_8)
  obtain ⟨T77, X77, e77, st77⟩ := castY X76 hx hZ hown (hw _ (List.mem_of_getElem? (i := 24) rfl)) e76 (Ins.self G_E_sa75) (g := (mkF m 15 #[.val (.ref (A 8)), .val (.ref sa75), .unset] [(.ref sa75)])) rfl rfl (hb hby own_d_jdk_42_method_66_code_15)
  obtain ⟨T78, X78, e78, st78⟩ := getS2 X77 hx hZ hown (host := "") (Or.inl (hw _ (List.mem_of_getElem? (i := 26) rfl))) Via.refl e77 (EN.2.2.2.2.1.2.2.2.2.1.ext OL0.2) (g := (mkF m 19 #[.val (.ref (A 8)), .val (.ref sa75), .val (.ref sa75)] [])) rfl (hb hby own_d_jdk_42_method_66_code_19)
  obtain ⟨T79, X79, e79, st79⟩ := getF X78 hx hZ hown (host := "") (Or.inl (hw _ (List.mem_of_getElem? (i := 27) rfl))) Via.refl e78 (EN.2.2.2.2.2.1.2.2.2.2.1.ext OL0.2) (g := (mkF m 26 #[.val (.ref (A 8)), .val (.ref sa75), .val (.ref sa75)] [(.ref (A 8))])) rfl rfl (hb hby own_d_jdk_42_method_66_code_26)
  obtain ⟨T80, X80, e80, st80⟩ := getF X79 hx hZ hown (host := "") (Or.inl (hw _ (List.mem_of_getElem? (i := 27) rfl))) Via.refl e79 G_F_sa75_java_lang_String_coder (g := (mkF m 30 #[.val (.ref (A 8)), .val (.ref sa75), .val (.ref sa75)] [(.ref sa75), (.int (0 : Int32))])) rfl rfl (hb hby own_d_jdk_42_method_66_code_30)
  obtain ⟨T81, X81, e81, st81⟩ := getF X80 hx hZ hown (host := "") (Or.inl (hw _ (List.mem_of_getElem? (i := 28) rfl))) Via.refl e80 (EN.2.2.2.1.2.2.2.2.1.ext OL0.2) (g := (mkF m 37 #[.val (.ref (A 8)), .val (.ref sa75), .val (.ref sa75)] [(.ref (A 8))])) rfl rfl (hb hby own_d_jdk_42_method_66_code_37)
  obtain ⟨T82, X82, e82, st82⟩ := getF X81 hx hZ hown (host := "") (Or.inl (hw _ (List.mem_of_getElem? (i := 28) rfl))) Via.refl e81 G_F_sa75_java_lang_String_value (g := (mkF m 41 #[.val (.ref (A 8)), .val (.ref sa75), .val (.ref sa75)] [(.ref sa75), (.ref (A 14))])) rfl rfl (hb hby own_d_jdk_42_method_66_code_41)
  obtain ⟨_, _, ⟨T85, L85, k85, n85⟩, -, X85, ⟨Lc85, hQ85, l85, y85, z85⟩, st85⟩ := Jvm.LawKit.callS X82 hx (y := own_m7) hown (mvT hZ (hw _ (List.mem_of_getElem? (i := 29) rfl))) (mvT hZ (hw _ (List.mem_of_getElem? (i := 30) rfl))) (mvT hZ (hw _ (List.mem_of_getElem? (i := 31) rfl))) (mvT hZ (hw _ (List.mem_of_getElem? (i := 32) rfl))) (by decide) (backOf (W := 0) (rm19 l Z a0 hw [] h0 n0 p1 A K cs sb75 kc75 EN OL0 G_A_sb75) hZ (hw _ (List.mem_of_getElem? (i := 32) rfl)) (hw _ (List.mem_of_getElem? (i := 31) rfl)) (by decide) (by decide)) (g := (mkF m 44 #[.val (.ref (A 8)), .val (.ref sa75), .val (.ref sa75)] [(.ref sb75), (.ref (A 14))])) rfl (by rw [hml]; rfl) (argsL := [(.ref (A 14)), (.ref sb75)]) (rest := []) (lenOf own_pd1 rfl) rfl (by show 2 * 0 + _ ≤ _; exact Nat.le_of_eq rfl) (hb hby own_d_jdk_42_method_66_code_44) (fun _ _ => ⟨rfl, e82, (by decide : 0 + 0 ≤ _), (by decide : 0 + 0 ≤ _)⟩)
  dsimp only [Pt.U, Pt.locs, Pt.cells, Pt.slots] at X85 l85 y85 z85 st85 hQ85
  subst l85 y85 z85
  obtain ⟨rfl, N85q, e85⟩ := hQ85
  have N85 := Fr.app N0 N85q
  obtain ⟨fs, hr, hrun, hended, hW, hsame⟩ := X85.leave (v := some (.int (0 : Int32))) (fun h => by rw [Bd.returns] at h; cases h)
  refine ⟨_, _, pre0 _ ?_, hrun, hended, _, _, rfl, ?_, ⟨_, rfl⟩, hW, hsame.mono (by decide) (by decide)⟩
  · show Steps p.tables e below (s₁.setTop (mkF m 0 #[.val (.ref (A 8)), .val (.ref sa75), .unset] [])) _
    refine XS.aloadN X0.here hx rfl (hb hby own_d_jdk_42_method_66_code_0) rfl rfl ?_
    show Steps p.tables e below (s₁.setTop (mkF m 1 #[.val (.ref (A 8)), .val (.ref sa75), .unset] [(.ref (A 8))])) _
    refine XS.aloadN X0.here hx rfl (hb hby own_d_jdk_42_method_66_code_1) rfl rfl ?_
    show Steps p.tables e below (s₁.setTop (mkF m 2 #[.val (.ref (A 8)), .val (.ref sa75), .unset] [(.ref sa75), (.ref (A 8))])) _
    refine Jvm.RoadKit.acmp (g := (mkF m 2 #[.val (.ref (A 8)), .val (.ref sa75), .unset] [(.ref sa75), (.ref (A 8))])) X0 hx rfl rfl rfl (pc0 := 2) (pc' := 7) (same := false) rfl (hb hby own_d_jdk_42_method_66_code_2) rfl (decide_eq_false fun q => (Fld.ne (EN.2.2.2.1.2.2.2.2.1.ext OL0.2) G_F_sa75_java_lang_String_value (fun h => arv_ne (EN.2.2.2.1.2.2.2.2.2.1.ext OL0.2) G_A_sb75 (Or.inl (by decide)) (Value.ref.inj h))) (Value.ref.inj q)) (by decide) (by decide) ?_
    show Steps p.tables e below (s₁.setTop (mkF m 7 #[.val (.ref (A 8)), .val (.ref sa75), .unset] [])) _
    refine XS.aloadN X0.here hx rfl (hb hby own_d_jdk_42_method_66_code_7) rfl rfl ?_
    show Steps p.tables e below (s₁.setTop (mkF m 8 #[.val (.ref (A 8)), .val (.ref sa75), .unset] [(.ref sa75)])) _
    refine st76 _ ?_
    show Steps p.tables e below (T76.setTop (mkF m 11 #[.val (.ref (A 8)), .val (.ref sa75), .unset] [(.int (1 : Int32))])) _
    refine XS.ifNo X76.here hx rfl (hb hby own_d_jdk_42_method_66_code_11) rfl ((if0 _ _).trans (feq (by decide : ¬ ((1 : Int32) = (0 : Int32)))).1) ?_
    show Steps p.tables e below (T76.setTop (mkF m 14 #[.val (.ref (A 8)), .val (.ref sa75), .unset] [])) _
    refine XS.aloadN X76.here hx rfl (hb hby own_d_jdk_42_method_66_code_14) rfl rfl ?_
    show Steps p.tables e below (T76.setTop (mkF m 15 #[.val (.ref (A 8)), .val (.ref sa75), .unset] [(.ref sa75)])) _
    refine st77 _ ?_
    show Steps p.tables e below (T77.setTop (mkF m 18 #[.val (.ref (A 8)), .val (.ref sa75), .unset] [(.ref sa75)])) _
    refine XS.astoreN X77.here hx rfl (hb hby own_d_jdk_42_method_66_code_18) rfl rfl (l' := #[.val (.ref (A 8)), .val (.ref sa75), .val (.ref sa75)]) rfl ?_
    show Steps p.tables e below (T77.setTop (mkF m 19 #[.val (.ref (A 8)), .val (.ref sa75), .val (.ref sa75)] [])) _
    refine st78 _ ?_
    show Steps p.tables e below (T78.setTop (mkF m 22 #[.val (.ref (A 8)), .val (.ref sa75), .val (.ref sa75)] [(.int cs)])) _
    refine XS.ifNo X78.here hx rfl (hb hby own_d_jdk_42_method_66_code_22) rfl ((if0 _ _).trans (feq EN.2.2.2.2.1.2.2.2.2.2.1).1) ?_
    show Steps p.tables e below (T78.setTop (mkF m 25 #[.val (.ref (A 8)), .val (.ref sa75), .val (.ref sa75)] [])) _
    refine XS.aloadN X78.here hx rfl (hb hby own_d_jdk_42_method_66_code_25) rfl rfl ?_
    show Steps p.tables e below (T78.setTop (mkF m 26 #[.val (.ref (A 8)), .val (.ref sa75), .val (.ref sa75)] [(.ref (A 8))])) _
    refine st79 _ ?_
    show Steps p.tables e below (T79.setTop (mkF m 29 #[.val (.ref (A 8)), .val (.ref sa75), .val (.ref sa75)] [(.int (0 : Int32))])) _
    refine XS.aloadN X79.here hx rfl (hb hby own_d_jdk_42_method_66_code_29) rfl rfl ?_
    show Steps p.tables e below (T79.setTop (mkF m 30 #[.val (.ref (A 8)), .val (.ref sa75), .val (.ref sa75)] [(.ref sa75), (.int (0 : Int32))])) _
    refine st80 _ ?_
    show Steps p.tables e below (T80.setTop (mkF m 33 #[.val (.ref (A 8)), .val (.ref sa75), .val (.ref sa75)] [(.int (0 : Int32)), (.int (0 : Int32))])) _
    refine XS.icmpNo X80.here hx rfl (hb hby own_d_jdk_42_method_66_code_33) rfl (teq (by decide : (0 : Int32) = (0 : Int32))).2 ?_
    show Steps p.tables e below (T80.setTop (mkF m 36 #[.val (.ref (A 8)), .val (.ref sa75), .val (.ref sa75)] [])) _
    refine XS.aloadN X80.here hx rfl (hb hby own_d_jdk_42_method_66_code_36) rfl rfl ?_
    show Steps p.tables e below (T80.setTop (mkF m 37 #[.val (.ref (A 8)), .val (.ref sa75), .val (.ref sa75)] [(.ref (A 8))])) _
    refine st81 _ ?_
    show Steps p.tables e below (T81.setTop (mkF m 40 #[.val (.ref (A 8)), .val (.ref sa75), .val (.ref sa75)] [(.ref (A 14))])) _
    refine XS.aloadN X81.here hx rfl (hb hby own_d_jdk_42_method_66_code_40) rfl rfl ?_
    show Steps p.tables e below (T81.setTop (mkF m 41 #[.val (.ref (A 8)), .val (.ref sa75), .val (.ref sa75)] [(.ref sa75), (.ref (A 14))])) _
    refine st82 _ ?_
    show Steps p.tables e below (T82.setTop (mkF m 44 #[.val (.ref (A 8)), .val (.ref sa75), .val (.ref sa75)] [(.ref sb75), (.ref (A 14))])) _
    refine st85 _ ?_
    show Steps p.tables e below (T85.setTop (mkF m 47 #[.val (.ref (A 8)), .val (.ref sa75), .val (.ref sa75)] [(.int (0 : Int32))])) _
    refine XS.ifYes X85.here hx rfl (pc0 := 47) (pc' := 54) rfl (hb hby own_d_jdk_42_method_66_code_47) rfl ((if0 _ _).trans (teq (by decide : (0 : Int32) = (0 : Int32))).1) (by decide) (by decide) ?_
    show Steps p.tables e below (T85.setTop (mkF m 54 #[.val (.ref (A 8)), .val (.ref sa75), .val (.ref sa75)] [])) _
    refine XS.iconst X85.here hx rfl (hb hby own_d_jdk_42_method_66_code_54) ?_
    show Steps p.tables e below (T85.setTop (mkF m 55 #[.val (.ref (A 8)), .val (.ref sa75), .val (.ref sa75)] [(.int (0 : Int32))])) _
    exact retN X85 hx (t := .boolean) Bd.returns (by simp) (hb hby own_d_jdk_42_method_66_code_55) hr
  · show PQ (some (.int (0 : Int32))) h0 n0 _ T85.heap _
    rw [e85]
    exact ⟨rfl, N85, rfl⟩
theorem own_ef_rm21 (m : MethodId) (p1 : Int32) (A : Nat → Addr) (K : Nat → ClassId) (cs : Int32)  : entryFrame m #[(.ref (A 8))] 1 = mkF m 0 #[.val (.ref (A 8))] [] := by first | (simp [entryFrame, mkF, argsToLocals, Value.category, maxLocals]; done) | rfl
set_option maxRecDepth 65536 in
set_option maxHeartbeats 40000000 in
theorem rm21 (l : Launch) (Z : State) (a0 : Array Value) (hw : ∀ d ∈ tables_1, d.before a0 Z = true) (ws : List Jvm.Cond) (h0 : Heap) (n0 : Nat) (p1 : Int32) (A : Nat → Addr) (K : Nat → ClassId) (cs : Int32)  (EN : own_St Z A K cs) (OL0 : Old Z n0 h0) :
    MetFree l own_m4 (head1 (Jvm.Cond.code own_m4 jdk_42_method_152_code 1 (some .byte) :: ws) ({ frames := 0, cells := 0, slots := 0, locals := 0 } : Room)) (fun a U => a = #[(.ref (A 8))] ∧ Z.Warmed39 U.vm ∧ U.heap = h0) (fun _ _ _ _ _ => True) (fun _ U o U' => ∃ v L, o = .returned v ∧ (PQ (some (.int (0 : Int32))) h0 n0) v U'.heap L ∧ FrameEnd U o U' L ({ frames := 0, cells := 0, slots := 0, locals := 0 } : Room).cells ({ frames := 0, cells := 0, slots := 0, locals := 0 } : Room).slots) := by
  refine MetFree.of_bodySF (plainFor_of_name own_pn2) hisR ?_
  intro p e s m args below meth c s₁ Bd hml0 hP hK
  obtain ⟨rfl, hZ, hh⟩ := hP
  have hx := Bd.exec
  have hby := Bd.bytes
  have hml : c.maxLocals = 1 := hml0
  have hown : s.vm.findClass "java/lang/String" = some m.cls := findClass_of_methodNamed Bd.named
  have hnm := (name_of_methodNamed Bd.named Bd.method).1
  have X0 : Stand p l e ({ frames := 0, cells := 0, slots := 0, locals := 0 } : Room) s m #[(.ref (A 8))] below meth c s₁ [] 0 0 := Stand.of_body Bd
  have e0 : s₁.heap = h0 := by rw [← hh, Bd.state]; rfl
  have N0 := Fr.nil n0
  have pre0 : ∀ t, Steps p.tables e below (s₁.setTop (mkF m 0 #[.val (.ref (A 8))] [])) t → Steps p.tables e below (s₁.setTop (entryFrame m #[(.ref (A 8))] 1)) t := fun t k => castTop (own_ef_rm21 m p1 A K cs ) k
  have KK0 : Keep h0 h0 [] := Keep.refl _ _
  obtain ⟨T89, X89, e89, st89⟩ := getS2 X0 hx hZ hown (host := "") (Or.inl (hw _ (List.mem_of_getElem? (i := 26) rfl))) Via.refl e0 (EN.2.2.2.2.1.2.2.2.2.1.ext OL0.2) (g := (mkF m 0 #[.val (.ref (A 8))] [])) rfl (hb hby own_d_jdk_42_method_152_code_0)
  obtain ⟨T90, X90, e90, st90⟩ := getF X89 hx hZ hown (host := "") (Or.inl (hw _ (List.mem_of_getElem? (i := 27) rfl))) Via.refl e89 (EN.2.2.2.2.2.1.2.2.2.2.1.ext OL0.2) (g := (mkF m 7 #[.val (.ref (A 8))] [(.ref (A 8))])) rfl rfl (hb hby own_d_jdk_42_method_152_code_7)
  obtain ⟨fs, hr, hrun, hended, hW, hsame⟩ := X90.leave (v := some (.int (0 : Int32))) (fun h => by rw [Bd.returns] at h; cases h)
  refine ⟨_, _, pre0 _ ?_, hrun, hended, _, _, rfl, ?_, ⟨_, rfl⟩, hW, hsame.mono (by decide) (by decide)⟩
  · show Steps p.tables e below (s₁.setTop (mkF m 0 #[.val (.ref (A 8))] [])) _
    refine st89 _ ?_
    show Steps p.tables e below (T89.setTop (mkF m 3 #[.val (.ref (A 8))] [(.int cs)])) _
    refine XS.ifNo X89.here hx rfl (hb hby own_d_jdk_42_method_152_code_3) rfl ((if0 _ _).trans (feq EN.2.2.2.2.1.2.2.2.2.2.1).1) ?_
    show Steps p.tables e below (T89.setTop (mkF m 6 #[.val (.ref (A 8))] [])) _
    refine XS.aloadN X89.here hx rfl (hb hby own_d_jdk_42_method_152_code_6) rfl rfl ?_
    show Steps p.tables e below (T89.setTop (mkF m 7 #[.val (.ref (A 8))] [(.ref (A 8))])) _
    refine st90 _ ?_
    show Steps p.tables e below (T90.setTop (mkF m 10 #[.val (.ref (A 8))] [(.int (0 : Int32))])) _
    refine XS.goto X90.here hx rfl (pc0 := 10) (pc' := 14) rfl (hb hby own_d_jdk_42_method_152_code_10) (by decide) (by decide) ?_
    show Steps p.tables e below (T90.setTop (mkF m 14 #[.val (.ref (A 8))] [(.int (0 : Int32))])) _
    exact retN X90 hx (t := .byte) Bd.returns (by simp) (hb hby own_d_jdk_42_method_152_code_14) hr
  · show PQ (some (.int (0 : Int32))) h0 n0 _ T90.heap _
    rw [e90]
    exact ⟨rfl, N0, rfl⟩
theorem own_ef_rm20 (m : MethodId) (p1 : Int32) (A : Nat → Addr) (K : Nat → ClassId) (cs : Int32)  : entryFrame m #[(.ref (A 8))] 1 = mkF m 0 #[.val (.ref (A 8))] [] := by first | (simp [entryFrame, mkF, argsToLocals, Value.category, maxLocals]; done) | rfl
set_option maxRecDepth 65536 in
set_option maxHeartbeats 40000000 in
theorem rm20 (l : Launch) (Z : State) (a0 : Array Value) (hw : ∀ d ∈ tables_1, d.before a0 Z = true) (ws : List Jvm.Cond) (h0 : Heap) (n0 : Nat) (p1 : Int32) (A : Nat → Addr) (K : Nat → ClassId) (cs : Int32)  (EN : own_St Z A K cs) (OL0 : Old Z n0 h0) :
    MetFree l own_m5 (head1 (Jvm.Cond.code own_m5 jdk_42_method_54_code 1 (some .int) :: ws) ({ frames := 1, cells := 0, slots := 0, locals := 13 } : Room)) (fun a U => a = #[(.ref (A 8))] ∧ Z.Warmed39 U.vm ∧ U.heap = h0) (fun _ _ _ _ _ => True) (fun _ U o U' => ∃ v L, o = .returned v ∧ (PQ (some (.int (1 : Int32))) h0 n0) v U'.heap L ∧ FrameEnd U o U' L ({ frames := 1, cells := 0, slots := 0, locals := 13 } : Room).cells ({ frames := 1, cells := 0, slots := 0, locals := 13 } : Room).slots) := by
  refine MetFree.of_bodySF (plainFor_of_name own_pn2) hisR ?_
  intro p e s m args below meth c s₁ Bd hml0 hP hK
  obtain ⟨rfl, hZ, hh⟩ := hP
  have hx := Bd.exec
  have hby := Bd.bytes
  have hml : c.maxLocals = 1 := hml0
  have hown : s.vm.findClass "java/lang/String" = some m.cls := findClass_of_methodNamed Bd.named
  have hnm := (name_of_methodNamed Bd.named Bd.method).1
  have X0 : Stand p l e ({ frames := 1, cells := 0, slots := 0, locals := 13 } : Room) s m #[(.ref (A 8))] below meth c s₁ [] 0 0 := Stand.of_body Bd
  have e0 : s₁.heap = h0 := by rw [← hh, Bd.state]; rfl
  have N0 := Fr.nil n0
  have pre0 : ∀ t, Steps p.tables e below (s₁.setTop (mkF m 0 #[.val (.ref (A 8))] [])) t → Steps p.tables e below (s₁.setTop (entryFrame m #[(.ref (A 8))] 1)) t := fun t k => castTop (own_ef_rm20 m p1 A K cs ) k
  have KK0 : Keep h0 h0 [] := Keep.refl _ _
  obtain ⟨T87, X87, e87, st87⟩ := getF X0 hx hZ hown (host := "") (Or.inl (hw _ (List.mem_of_getElem? (i := 28) rfl))) Via.refl e0 (EN.2.2.2.1.2.2.2.2.1.ext OL0.2) (g := (mkF m 1 #[.val (.ref (A 8))] [(.ref (A 8))])) rfl rfl (hb hby own_d_jdk_42_method_54_code_1)
  obtain ⟨cl88, Ar88, -, Sz88, Nn88, -, -⟩ := (id (EN.2.2.2.1.2.2.2.2.2.1.ext OL0.2))
  obtain ⟨cq91, kq91, q91a, q91b, q91c⟩ := isOf hZ e87 (EN.2.2.1.2.1.ext OL0.2)
  obtain ⟨_, _, ⟨T91, L91, k91, n91⟩, -, X91, ⟨Lc91, hQ91, l91, y91, z91⟩, st91⟩ := X87.virtualBack hx (y := own_m4) (z := own_m4) hown (mvT hZ (hw _ (List.mem_of_getElem? (i := 38) rfl))) (mvT hZ (hw _ (List.mem_of_getElem? (i := 39) rfl))) (notFace_of_selects (args := #[]) (mvT hZ (hw _ (List.mem_of_getElem? (i := 41) rfl)))) (mvT hZ (hw _ (List.mem_of_getElem? (i := 41) rfl))) (mvT hZ (hw _ (List.mem_of_getElem? (i := 40) rfl))) (by decide) (backOf (W := 1) (rm21 l Z a0 hw [] h0 n0 p1 A K cs EN OL0) hZ (hw _ (List.mem_of_getElem? (i := 42) rfl)) (hw _ (List.mem_of_getElem? (i := 12) rfl)) (by decide) (by decide)) q91a q91c (g := (mkF m 6 #[.val (.ref (A 8))] [(.ref (A 8)), (.int (1 : Int32))])) rfl (by rw [hml]; rfl) (Steps.refl _) (argsL := []) (rest := [(.int (1 : Int32))]) (lenOf own_pd3 rfl) rfl (by show 2 * 0 + _ ≤ _; exact Nat.le_of_eq rfl) (hb hby own_d_jdk_42_method_54_code_6) (fun _ _ => ⟨rfl, e87, (by decide : 0 + 0 ≤ _), (by decide : 0 + 0 ≤ _)⟩)
  dsimp only [Pt.U, Pt.locs, Pt.cells, Pt.slots] at X91 l91 y91 z91 st91 hQ91
  subst l91 y91 z91
  obtain ⟨rfl, N91q, e91⟩ := hQ91
  have N91 := Fr.app N0 N91q
  obtain ⟨fs, hr, hrun, hended, hW, hsame⟩ := X91.leave (v := some (.int (1 : Int32))) (fun h => by rw [Bd.returns] at h; cases h)
  refine ⟨_, _, pre0 _ ?_, hrun, hended, _, _, rfl, ?_, ⟨_, rfl⟩, hW, hsame.mono (by decide) (by decide)⟩
  · show Steps p.tables e below (s₁.setTop (mkF m 0 #[.val (.ref (A 8))] [])) _
    refine XS.aloadN X0.here hx rfl (hb hby own_d_jdk_42_method_54_code_0) rfl rfl ?_
    show Steps p.tables e below (s₁.setTop (mkF m 1 #[.val (.ref (A 8))] [(.ref (A 8))])) _
    refine st87 _ ?_
    show Steps p.tables e below (T87.setTop (mkF m 4 #[.val (.ref (A 8))] [(.ref (A 14))])) _
    refine X87.arraylength hx (by rw [e87]; exact Ar88.1) (State.isArrayOf_alike hZ.alike Ar88.2.1) (g := (mkF m 4 #[.val (.ref (A 8))] [(.ref (A 14))])) rfl rfl (hb hby own_d_jdk_42_method_54_code_4) _ ?_
    rw [len_of Sz88 Nn88]
    show Steps p.tables e below (T87.setTop (mkF m 5 #[.val (.ref (A 8))] [(.int (1 : Int32))])) _
    refine XS.aloadN X87.here hx rfl (hb hby own_d_jdk_42_method_54_code_5) rfl rfl ?_
    show Steps p.tables e below (T87.setTop (mkF m 6 #[.val (.ref (A 8))] [(.ref (A 8)), (.int (1 : Int32))])) _
    refine st91.trans ?_
    show Steps p.tables e below (T91.setTop (mkF m 9 #[.val (.ref (A 8))] [(.int (0 : Int32)), (.int (1 : Int32))])) _
    refine XS.ishr X91.here hx rfl (hb hby own_d_jdk_42_method_54_code_9) rfl ?_
    show Steps p.tables e below (T91.setTop (mkF m 10 #[.val (.ref (A 8))] [(.int (1 : Int32))])) _
    exact retI X91 hx Bd.returns (hb hby own_d_jdk_42_method_54_code_10) hr
  · show PQ (some (.int (1 : Int32))) h0 n0 _ T91.heap _
    rw [e91]
    exact ⟨rfl, N91, rfl⟩
theorem own_ef_rm23 (m : MethodId) (p1 : Int32) (A : Nat → Addr) (K : Nat → ClassId) (cs : Int32)  : entryFrame m #[(.ref (A 8))] 1 = mkF m 0 #[.val (.ref (A 8))] [] := by first | (simp [entryFrame, mkF, argsToLocals, Value.category, maxLocals]; done) | rfl
set_option maxRecDepth 65536 in
set_option maxHeartbeats 40000000 in
theorem rm23 (l : Launch) (Z : State) (a0 : Array Value) (hw : ∀ d ∈ tables_1, d.before a0 Z = true) (ws : List Jvm.Cond) (h0 : Heap) (n0 : Nat) (p1 : Int32) (A : Nat → Addr) (K : Nat → ClassId) (cs : Int32)  (EN : own_St Z A K cs) (OL0 : Old Z n0 h0) :
    MetFree l own_m6 (head1 (Jvm.Cond.code own_m6 jdk_42_method_154_code 1 (some .boolean) :: ws) ({ frames := 0, cells := 0, slots := 0, locals := 0 } : Room)) (fun a U => a = #[(.ref (A 8))] ∧ Z.Warmed39 U.vm ∧ U.heap = h0) (fun _ _ _ _ _ => True) (fun _ U o U' => ∃ v L, o = .returned v ∧ (PQ (some (.int (1 : Int32))) h0 n0) v U'.heap L ∧ FrameEnd U o U' L ({ frames := 0, cells := 0, slots := 0, locals := 0 } : Room).cells ({ frames := 0, cells := 0, slots := 0, locals := 0 } : Room).slots) := by
  refine MetFree.of_bodySF (plainFor_of_name own_pn2) hisR ?_
  intro p e s m args below meth c s₁ Bd hml0 hP hK
  obtain ⟨rfl, hZ, hh⟩ := hP
  have hx := Bd.exec
  have hby := Bd.bytes
  have hml : c.maxLocals = 1 := hml0
  have hown : s.vm.findClass "java/lang/String" = some m.cls := findClass_of_methodNamed Bd.named
  have hnm := (name_of_methodNamed Bd.named Bd.method).1
  have X0 : Stand p l e ({ frames := 0, cells := 0, slots := 0, locals := 0 } : Room) s m #[(.ref (A 8))] below meth c s₁ [] 0 0 := Stand.of_body Bd
  have e0 : s₁.heap = h0 := by rw [← hh, Bd.state]; rfl
  have N0 := Fr.nil n0
  have pre0 : ∀ t, Steps p.tables e below (s₁.setTop (mkF m 0 #[.val (.ref (A 8))] [])) t → Steps p.tables e below (s₁.setTop (entryFrame m #[(.ref (A 8))] 1)) t := fun t k => castTop (own_ef_rm23 m p1 A K cs ) k
  have KK0 : Keep h0 h0 [] := Keep.refl _ _
  obtain ⟨T93, X93, e93, st93⟩ := getS2 X0 hx hZ hown (host := "") (Or.inl (hw _ (List.mem_of_getElem? (i := 26) rfl))) Via.refl e0 (EN.2.2.2.2.1.2.2.2.2.1.ext OL0.2) (g := (mkF m 0 #[.val (.ref (A 8))] [])) rfl (hb hby own_d_jdk_42_method_154_code_0)
  obtain ⟨T94, X94, e94, st94⟩ := getF X93 hx hZ hown (host := "") (Or.inl (hw _ (List.mem_of_getElem? (i := 27) rfl))) Via.refl e93 (EN.2.2.2.2.2.1.2.2.2.2.1.ext OL0.2) (g := (mkF m 7 #[.val (.ref (A 8))] [(.ref (A 8))])) rfl rfl (hb hby own_d_jdk_42_method_154_code_7)
  obtain ⟨fs, hr, hrun, hended, hW, hsame⟩ := X94.leave (v := some (.int (1 : Int32))) (fun h => by rw [Bd.returns] at h; cases h)
  refine ⟨_, _, pre0 _ ?_, hrun, hended, _, _, rfl, ?_, ⟨_, rfl⟩, hW, hsame.mono (by decide) (by decide)⟩
  · show Steps p.tables e below (s₁.setTop (mkF m 0 #[.val (.ref (A 8))] [])) _
    refine st93 _ ?_
    show Steps p.tables e below (T93.setTop (mkF m 3 #[.val (.ref (A 8))] [(.int cs)])) _
    refine XS.ifNo X93.here hx rfl (hb hby own_d_jdk_42_method_154_code_3) rfl ((if0 _ _).trans (feq EN.2.2.2.2.1.2.2.2.2.2.1).1) ?_
    show Steps p.tables e below (T93.setTop (mkF m 6 #[.val (.ref (A 8))] [])) _
    refine XS.aloadN X93.here hx rfl (hb hby own_d_jdk_42_method_154_code_6) rfl rfl ?_
    show Steps p.tables e below (T93.setTop (mkF m 7 #[.val (.ref (A 8))] [(.ref (A 8))])) _
    refine st94 _ ?_
    show Steps p.tables e below (T94.setTop (mkF m 10 #[.val (.ref (A 8))] [(.int (0 : Int32))])) _
    refine XS.ifNo X94.here hx rfl (hb hby own_d_jdk_42_method_154_code_10) rfl ((if0 _ _).trans (teq (by decide : (0 : Int32) = (0 : Int32))).2) ?_
    show Steps p.tables e below (T94.setTop (mkF m 13 #[.val (.ref (A 8))] [])) _
    refine XS.iconst X94.here hx rfl (hb hby own_d_jdk_42_method_154_code_13) ?_
    show Steps p.tables e below (T94.setTop (mkF m 14 #[.val (.ref (A 8))] [(.int (1 : Int32))])) _
    refine XS.goto X94.here hx rfl (pc0 := 14) (pc' := 18) rfl (hb hby own_d_jdk_42_method_154_code_14) (by decide) (by decide) ?_
    show Steps p.tables e below (T94.setTop (mkF m 18 #[.val (.ref (A 8))] [(.int (1 : Int32))])) _
    exact retN X94 hx (t := .boolean) Bd.returns (by simp) (hb hby own_d_jdk_42_method_154_code_18) hr
  · show PQ (some (.int (1 : Int32))) h0 n0 _ T94.heap _
    rw [e94]
    exact ⟨rfl, N0, rfl⟩
theorem own_ef_rm24 (m : MethodId) (p1 : Int32) (A : Nat → Addr) (K : Nat → ClassId) (cs : Int32)  : entryFrame m #[(.ref (A 14)), (.int (0 : Int32))] 2 = mkF m 0 #[.val (.ref (A 14)), .val (.int (0 : Int32))] [] := by first | (simp [entryFrame, mkF, argsToLocals, Value.category, maxLocals]; done) | rfl
set_option maxRecDepth 65536 in
set_option maxHeartbeats 40000000 in
theorem rm24 (l : Launch) (Z : State) (a0 : Array Value) (hw : ∀ d ∈ tables_1, d.before a0 Z = true) (ws : List Jvm.Cond) (h0 : Heap) (n0 : Nat) (p1 : Int32) (A : Nat → Addr) (K : Nat → ClassId) (cs : Int32)  (EN : own_St Z A K cs) (OL0 : Old Z n0 h0) :
    MetFree l own_m8 (head1 (Jvm.Cond.code own_m8 jdk_43_method_2_code 2 (some .char) :: ws) ({ frames := 2, cells := 0, slots := 0, locals := 27 } : Room)) (fun a U => a = #[(.ref (A 14)), (.int (0 : Int32))] ∧ Z.Warmed39 U.vm ∧ U.heap = h0) (fun _ _ _ _ _ => True) (fun _ U o U' => ∃ v L, o = .returned v ∧ (PQ (some (.int (60 : Int32))) h0 n0) v U'.heap L ∧ FrameEnd U o U' L ({ frames := 2, cells := 0, slots := 0, locals := 27 } : Room).cells ({ frames := 2, cells := 0, slots := 0, locals := 27 } : Room).slots) := by
  refine MetFree.of_bodySF (plainFor_of_name own_pn1) hisR ?_
  intro p e s m args below meth c s₁ Bd hml0 hP hK
  obtain ⟨rfl, hZ, hh⟩ := hP
  have hx := Bd.exec
  have hby := Bd.bytes
  have hml : c.maxLocals = 2 := hml0
  have hown : s.vm.findClass "java/lang/StringLatin1" = some m.cls := findClass_of_methodNamed Bd.named
  have hnm := (name_of_methodNamed Bd.named Bd.method).1
  have X0 : Stand p l e ({ frames := 2, cells := 0, slots := 0, locals := 27 } : Room) s m #[(.ref (A 14)), (.int (0 : Int32))] below meth c s₁ [] 0 0 := Stand.of_body Bd
  have e0 : s₁.heap = h0 := by rw [← hh, Bd.state]; rfl
  have N0 := Fr.nil n0
  have pre0 : ∀ t, Steps p.tables e below (s₁.setTop (mkF m 0 #[.val (.ref (A 14)), .val (.int (0 : Int32))] [])) t → Steps p.tables e below (s₁.setTop (entryFrame m #[(.ref (A 14)), (.int (0 : Int32))] 2)) t := fun t k => castTop (own_ef_rm24 m p1 A K cs ) k
  have KK0 : Keep h0 h0 [] := Keep.refl _ _
  obtain ⟨cl97, Ar97, -, Sz97, Nn97, -, -⟩ := (id (EN.2.2.2.1.2.2.2.2.2.1.ext OL0.2))
  obtain ⟨_, _, ⟨T98, L98, k98, n98⟩, -, X98, ⟨Lc98, hQ98, l98, y98, z98⟩, st98⟩ := Jvm.LawKit.callS X0 hx (y := own_m10) hown (mvT hZ (hw _ (List.mem_of_getElem? (i := 56) rfl))) (mvT hZ (hw _ (List.mem_of_getElem? (i := 57) rfl))) (mvT hZ (hw _ (List.mem_of_getElem? (i := 12) rfl))) (mvT hZ (hw _ (List.mem_of_getElem? (i := 58) rfl))) (by decide) (backOf (W := 0) (rm9 l Z a0 hw [] h0 n0 p1 A K cs EN OL0) hZ (hw _ (List.mem_of_getElem? (i := 58) rfl)) (hw _ (List.mem_of_getElem? (i := 12) rfl)) (by decide) (by decide)) (g := (mkF m 3 #[.val (.ref (A 14)), .val (.int (0 : Int32))] [(.int (1 : Int32)), (.int (0 : Int32))])) rfl (by rw [hml]; rfl) (argsL := [(.int (0 : Int32)), (.int (1 : Int32))]) (rest := []) (lenOf own_pd7 rfl) rfl (by show 2 * 0 + _ ≤ _; exact Nat.le_of_eq rfl) (hb hby own_d_jdk_43_method_2_code_3) (fun _ _ => ⟨rfl, e0, (by decide : 0 + 0 ≤ _), (by decide : 0 + 0 ≤ _)⟩)
  dsimp only [Pt.U, Pt.locs, Pt.cells, Pt.slots] at X98 l98 y98 z98 st98 hQ98
  subst l98 y98 z98
  obtain ⟨rfl, N98q, e98⟩ := hQ98
  have N98 := Fr.app N0 N98q
  obtain ⟨cl99, Ar99, q99, Sz99, Nn99, Hh99, Gg99⟩ := (id (EN.2.2.2.1.2.2.2.2.2.1.ext OL0.2))
  have hin99 : ¬ ((0 : Int32) < 0 ∨ cl99.slots.size ≤ ((0 : Int32)).toNatClampNeg) := inb_of Sz99 ⟨by decide, by decide⟩
  have hat99 : cl99.slots[((0 : Int32)).toNatClampNeg]? = some (.int (60 : Int32)) := Has.at Hh99 hin99 rfl
  obtain ⟨fs, hr, hrun, hended, hW, hsame⟩ := X98.leave (v := some (.int (60 : Int32))) (fun h => by rw [Bd.returns] at h; cases h)
  refine ⟨_, _, pre0 _ ?_, hrun, hended, _, _, rfl, ?_, ⟨_, rfl⟩, hW, hsame.mono (by decide) (by decide)⟩
  · show Steps p.tables e below (s₁.setTop (mkF m 0 #[.val (.ref (A 14)), .val (.int (0 : Int32))] [])) _
    refine XS.iloadN X0.here hx rfl (hb hby own_d_jdk_43_method_2_code_0) rfl ?_
    show Steps p.tables e below (s₁.setTop (mkF m 1 #[.val (.ref (A 14)), .val (.int (0 : Int32))] [(.int (0 : Int32))])) _
    refine XS.aloadN X0.here hx rfl (hb hby own_d_jdk_43_method_2_code_1) rfl rfl ?_
    show Steps p.tables e below (s₁.setTop (mkF m 2 #[.val (.ref (A 14)), .val (.int (0 : Int32))] [(.ref (A 14)), (.int (0 : Int32))])) _
    refine X0.arraylength hx (by rw [e0]; exact Ar97.1) (State.isArrayOf_alike hZ.alike Ar97.2.1) (g := (mkF m 2 #[.val (.ref (A 14)), .val (.int (0 : Int32))] [(.ref (A 14)), (.int (0 : Int32))])) rfl rfl (hb hby own_d_jdk_43_method_2_code_2) _ ?_
    rw [len_of Sz97 Nn97]
    show Steps p.tables e below (s₁.setTop (mkF m 3 #[.val (.ref (A 14)), .val (.int (0 : Int32))] [(.int (1 : Int32)), (.int (0 : Int32))])) _
    refine st98 _ ?_
    show Steps p.tables e below (T98.setTop (mkF m 6 #[.val (.ref (A 14)), .val (.int (0 : Int32))] [])) _
    refine XS.aloadN X98.here hx rfl (hb hby own_d_jdk_43_method_2_code_6) rfl rfl ?_
    show Steps p.tables e below (T98.setTop (mkF m 7 #[.val (.ref (A 14)), .val (.int (0 : Int32))] [(.ref (A 14))])) _
    refine XS.iloadN X98.here hx rfl (hb hby own_d_jdk_43_method_2_code_7) rfl ?_
    show Steps p.tables e below (T98.setTop (mkF m 8 #[.val (.ref (A 14)), .val (.int (0 : Int32))] [(.int (0 : Int32)), (.ref (A 14))])) _
    refine X98.baloadBytes hx (j := (0 : Int32)) (v := (.int (60 : Int32))) (by rw [e98]; exact Ar99.1) (State.isArrayOf_alike hZ.alike Ar99.2.1) Ar99.2.2 hin99 hat99 (g := (mkF m 8 #[.val (.ref (A 14)), .val (.int (0 : Int32))] [(.int (0 : Int32)), (.ref (A 14))])) rfl rfl (hb hby own_d_jdk_43_method_2_code_8) _ ?_
    show Steps p.tables e below (T98.setTop (mkF m 9 #[.val (.ref (A 14)), .val (.int (0 : Int32))] [(.int (60 : Int32))])) _
    refine XS.sipush X98.here hx rfl (hb hby own_d_jdk_43_method_2_code_9) ?_
    show Steps p.tables e below (T98.setTop (mkF m 12 #[.val (.ref (A 14)), .val (.int (0 : Int32))] [(.int (255 : Int32)), (.int (60 : Int32))])) _
    refine XS.iand X98.here hx rfl (hb hby own_d_jdk_43_method_2_code_12) rfl ?_
    show Steps p.tables e below (T98.setTop (mkF m 13 #[.val (.ref (A 14)), .val (.int (0 : Int32))] [(.int (60 : Int32))])) _
    refine XS.i2c X98.here hx rfl (hb hby own_d_jdk_43_method_2_code_13) rfl ?_
    show Steps p.tables e below (T98.setTop (mkF m 14 #[.val (.ref (A 14)), .val (.int (0 : Int32))] [(.int (60 : Int32))])) _
    exact retN X98 hx (t := .char) Bd.returns (by simp) (hb hby own_d_jdk_43_method_2_code_14) hr
  · show PQ (some (.int (60 : Int32))) h0 n0 _ T98.heap _
    rw [e98]
    exact ⟨rfl, N98, rfl⟩
theorem own_ef_rm22 (m : MethodId) (p1 : Int32) (A : Nat → Addr) (K : Nat → ClassId) (cs : Int32)  : entryFrame m #[(.ref (A 8)), (.int (0 : Int32))] 2 = mkF m 0 #[.val (.ref (A 8)), .val (.int (0 : Int32))] [] := by first | (simp [entryFrame, mkF, argsToLocals, Value.category, maxLocals]; done) | rfl
set_option maxRecDepth 65536 in
set_option maxHeartbeats 40000000 in
theorem rm22 (l : Launch) (Z : State) (a0 : Array Value) (hw : ∀ d ∈ tables_1, d.before a0 Z = true) (ws : List Jvm.Cond) (h0 : Heap) (n0 : Nat) (p1 : Int32) (A : Nat → Addr) (K : Nat → ClassId) (cs : Int32)  (EN : own_St Z A K cs) (OL0 : Old Z n0 h0) :
    MetFree l own_m0 (head1 (Jvm.Cond.code own_m0 jdk_42_method_56_code 2 (some .char) :: ws) ({ frames := 3, cells := 0, slots := 0, locals := 40 } : Room)) (fun a U => a = #[(.ref (A 8)), (.int (0 : Int32))] ∧ Z.Warmed39 U.vm ∧ U.heap = h0) (fun _ _ _ _ _ => True) (fun _ U o U' => ∃ v L, o = .returned v ∧ (PQ (some (.int (60 : Int32))) h0 n0) v U'.heap L ∧ FrameEnd U o U' L ({ frames := 3, cells := 0, slots := 0, locals := 40 } : Room).cells ({ frames := 3, cells := 0, slots := 0, locals := 40 } : Room).slots) := by
  refine MetFree.of_bodySF (plainFor_of_name own_pn2) hisR ?_
  intro p e s m args below meth c s₁ Bd hml0 hP hK
  obtain ⟨rfl, hZ, hh⟩ := hP
  have hx := Bd.exec
  have hby := Bd.bytes
  have hml : c.maxLocals = 2 := hml0
  have hown : s.vm.findClass "java/lang/String" = some m.cls := findClass_of_methodNamed Bd.named
  have hnm := (name_of_methodNamed Bd.named Bd.method).1
  have X0 : Stand p l e ({ frames := 3, cells := 0, slots := 0, locals := 40 } : Room) s m #[(.ref (A 8)), (.int (0 : Int32))] below meth c s₁ [] 0 0 := Stand.of_body Bd
  have e0 : s₁.heap = h0 := by rw [← hh, Bd.state]; rfl
  have N0 := Fr.nil n0
  have pre0 : ∀ t, Steps p.tables e below (s₁.setTop (mkF m 0 #[.val (.ref (A 8)), .val (.int (0 : Int32))] [])) t → Steps p.tables e below (s₁.setTop (entryFrame m #[(.ref (A 8)), (.int (0 : Int32))] 2)) t := fun t k => castTop (own_ef_rm22 m p1 A K cs ) k
  have KK0 : Keep h0 h0 [] := Keep.refl _ _
  obtain ⟨cq95, kq95, q95a, q95b, q95c⟩ := isOf hZ e0 (EN.2.2.1.2.1.ext OL0.2)
  obtain ⟨_, _, ⟨T95, L95, k95, n95⟩, -, X95, ⟨Lc95, hQ95, l95, y95, z95⟩, st95⟩ := X0.virtualBack hx (y := own_m6) (z := own_m6) hown (mvT hZ (hw _ (List.mem_of_getElem? (i := 48) rfl))) (mvT hZ (hw _ (List.mem_of_getElem? (i := 49) rfl))) (notFace_of_selects (args := #[]) (mvT hZ (hw _ (List.mem_of_getElem? (i := 51) rfl)))) (mvT hZ (hw _ (List.mem_of_getElem? (i := 51) rfl))) (mvT hZ (hw _ (List.mem_of_getElem? (i := 50) rfl))) (by decide) (backOf (W := 0) (rm23 l Z a0 hw [] h0 n0 p1 A K cs EN OL0) hZ (hw _ (List.mem_of_getElem? (i := 52) rfl)) (hw _ (List.mem_of_getElem? (i := 12) rfl)) (by decide) (by decide)) q95a q95c (g := (mkF m 1 #[.val (.ref (A 8)), .val (.int (0 : Int32))] [(.ref (A 8))])) rfl (by rw [hml]; rfl) (Steps.refl _) (argsL := []) (rest := []) (lenOf own_pd5 rfl) rfl (by show 2 * 0 + _ ≤ _; exact Nat.le_of_eq rfl) (hb hby own_d_jdk_42_method_56_code_1) (fun _ _ => ⟨rfl, e0, (by decide : 0 + 0 ≤ _), (by decide : 0 + 0 ≤ _)⟩)
  dsimp only [Pt.U, Pt.locs, Pt.cells, Pt.slots] at X95 l95 y95 z95 st95 hQ95
  subst l95 y95 z95
  obtain ⟨rfl, N95q, e95⟩ := hQ95
  have N95 := Fr.app N0 N95q
  obtain ⟨T96, X96, e96, st96⟩ := getF X95 hx hZ hown (host := "") (Or.inl (hw _ (List.mem_of_getElem? (i := 28) rfl))) Via.refl e95 (EN.2.2.2.1.2.2.2.2.1.ext OL0.2) (g := (mkF m 8 #[.val (.ref (A 8)), .val (.int (0 : Int32))] [(.ref (A 8))])) rfl rfl (hb hby own_d_jdk_42_method_56_code_8)
  obtain ⟨_, _, ⟨T100, L100, k100, n100⟩, -, X100, ⟨Lc100, hQ100, l100, y100, z100⟩, st100⟩ := Jvm.LawKit.callS X96 hx (y := own_m8) hown (mvT hZ (hw _ (List.mem_of_getElem? (i := 53) rfl))) (mvT hZ (hw _ (List.mem_of_getElem? (i := 54) rfl))) (mvT hZ (hw _ (List.mem_of_getElem? (i := 31) rfl))) (mvT hZ (hw _ (List.mem_of_getElem? (i := 55) rfl))) (by decide) (backOf (W := 0) (rm24 l Z a0 hw [] h0 n0 p1 A K cs EN OL0) hZ (hw _ (List.mem_of_getElem? (i := 55) rfl)) (hw _ (List.mem_of_getElem? (i := 31) rfl)) (by decide) (by decide)) (g := (mkF m 12 #[.val (.ref (A 8)), .val (.int (0 : Int32))] [(.int (0 : Int32)), (.ref (A 14))])) rfl (by rw [hml]; rfl) (argsL := [(.ref (A 14)), (.int (0 : Int32))]) (rest := []) (lenOf own_pd8 rfl) rfl (by show 2 * 0 + _ ≤ _; exact Nat.le_of_eq rfl) (hb hby own_d_jdk_42_method_56_code_12) (fun _ _ => ⟨rfl, e96, (by decide : 0 + 0 ≤ _), (by decide : 0 + 0 ≤ _)⟩)
  dsimp only [Pt.U, Pt.locs, Pt.cells, Pt.slots] at X100 l100 y100 z100 st100 hQ100
  subst l100 y100 z100
  obtain ⟨rfl, N100q, e100⟩ := hQ100
  have N100 := Fr.app N95 N100q
  obtain ⟨fs, hr, hrun, hended, hW, hsame⟩ := X100.leave (v := some (.int (60 : Int32))) (fun h => by rw [Bd.returns] at h; cases h)
  refine ⟨_, _, pre0 _ ?_, hrun, hended, _, _, rfl, ?_, ⟨_, rfl⟩, hW, hsame.mono (by decide) (by decide)⟩
  · show Steps p.tables e below (s₁.setTop (mkF m 0 #[.val (.ref (A 8)), .val (.int (0 : Int32))] [])) _
    refine XS.aloadN X0.here hx rfl (hb hby own_d_jdk_42_method_56_code_0) rfl rfl ?_
    show Steps p.tables e below (s₁.setTop (mkF m 1 #[.val (.ref (A 8)), .val (.int (0 : Int32))] [(.ref (A 8))])) _
    refine st95.trans ?_
    show Steps p.tables e below (T95.setTop (mkF m 4 #[.val (.ref (A 8)), .val (.int (0 : Int32))] [(.int (1 : Int32))])) _
    refine XS.ifNo X95.here hx rfl (hb hby own_d_jdk_42_method_56_code_4) rfl ((if0 _ _).trans (feq (by decide : ¬ ((1 : Int32) = (0 : Int32)))).1) ?_
    show Steps p.tables e below (T95.setTop (mkF m 7 #[.val (.ref (A 8)), .val (.int (0 : Int32))] [])) _
    refine XS.aloadN X95.here hx rfl (hb hby own_d_jdk_42_method_56_code_7) rfl rfl ?_
    show Steps p.tables e below (T95.setTop (mkF m 8 #[.val (.ref (A 8)), .val (.int (0 : Int32))] [(.ref (A 8))])) _
    refine st96 _ ?_
    show Steps p.tables e below (T96.setTop (mkF m 11 #[.val (.ref (A 8)), .val (.int (0 : Int32))] [(.ref (A 14))])) _
    refine XS.iloadN X96.here hx rfl (hb hby own_d_jdk_42_method_56_code_11) rfl ?_
    show Steps p.tables e below (T96.setTop (mkF m 12 #[.val (.ref (A 8)), .val (.int (0 : Int32))] [(.int (0 : Int32)), (.ref (A 14))])) _
    refine st100 _ ?_
    show Steps p.tables e below (T100.setTop (mkF m 15 #[.val (.ref (A 8)), .val (.int (0 : Int32))] [(.int (60 : Int32))])) _
    exact retN X100 hx (t := .char) Bd.returns (by simp) (hb hby own_d_jdk_42_method_56_code_15) hr
  · show PQ (some (.int (60 : Int32))) h0 n0 _ T100.heap _
    rw [e100]
    exact ⟨rfl, N100, rfl⟩
theorem own_d_prog_57_method_5_code_14 : decode prog_57_method_5_code 14 = .ok (.iconst 1, 1) := by decide +kernel
theorem own_d_prog_57_method_5_code_15 : decode prog_57_method_5_code 15 = .ok (.goto 4, 3) := by decide +kernel
theorem own_ef_rm25 (m : MethodId) (p1 : Int32) (A : Nat → Addr) (K : Nat → ClassId) (cs : Int32)  : entryFrame m #[(.ref (A 2))] 1 = mkF m 0 #[.val (.ref (A 2))] [] := by first | (simp [entryFrame, mkF, argsToLocals, Value.category, maxLocals]; done) | rfl
set_option maxRecDepth 65536 in
set_option maxHeartbeats 40000000 in
theorem rm25 (l : Launch) (Z : State) (a0 : Array Value) (hw : ∀ d ∈ tables_1, d.before a0 Z = true) (ws : List Jvm.Cond) (h0 : Heap) (n0 : Nat) (p1 : Int32) (A : Nat → Addr) (K : Nat → ClassId) (cs : Int32)  (EN : own_St Z A K cs) (OL0 : Old Z n0 h0) :
    MetFree l own_m3 (head1 (Jvm.Cond.code own_m3 prog_57_method_5_code 1 (some .boolean) :: ws) ({ frames := 0, cells := 0, slots := 0, locals := 0 } : Room)) (fun a U => a = #[(.ref (A 2))] ∧ Z.Warmed39 U.vm ∧ U.heap = h0) (fun _ _ _ _ _ => True) (fun _ U o U' => ∃ v L, o = .returned v ∧ (PQ (some (.int (1 : Int32))) h0 n0) v U'.heap L ∧ FrameEnd U o U' L ({ frames := 0, cells := 0, slots := 0, locals := 0 } : Room).cells ({ frames := 0, cells := 0, slots := 0, locals := 0 } : Room).slots) := by
  refine MetFree.of_bodySF (plainFor_of_name own_pn0) hisR ?_
  intro p e s m args below meth c s₁ Bd hml0 hP hK
  obtain ⟨rfl, hZ, hh⟩ := hP
  have hx := Bd.exec
  have hby := Bd.bytes
  have hml : c.maxLocals = 1 := hml0
  have hown : s.vm.findClass "com/example/cargoweft/cargoweft/core/FlexibleSearch$Operator" = some m.cls := findClass_of_methodNamed Bd.named
  have hnm := (name_of_methodNamed Bd.named Bd.method).1
  have X0 : Stand p l e ({ frames := 0, cells := 0, slots := 0, locals := 0 } : Room) s m #[(.ref (A 2))] below meth c s₁ [] 0 0 := Stand.of_body Bd
  have e0 : s₁.heap = h0 := by rw [← hh, Bd.state]; rfl
  have N0 := Fr.nil n0
  have pre0 : ∀ t, Steps p.tables e below (s₁.setTop (mkF m 0 #[.val (.ref (A 2))] [])) t → Steps p.tables e below (s₁.setTop (entryFrame m #[(.ref (A 2))] 1)) t := fun t k => castTop (own_ef_rm25 m p1 A K cs ) k
  have KK0 : Keep h0 h0 [] := Keep.refl _ _
  obtain ⟨T102, X102, e102, st102⟩ := getS2 X0 hx hZ hown (host := "") (Or.inl (hw _ (List.mem_of_getElem? (i := 69) rfl))) Via.refl e0 (EN.1.1.ext OL0.2) (g := (mkF m 1 #[.val (.ref (A 2))] [(.ref (A 2))])) rfl (hb hby own_d_prog_57_method_5_code_1)
  obtain ⟨T103, X103, e103, st103⟩ := getS2 X102 hx hZ hown (host := "") (Or.inl (hw _ (List.mem_of_getElem? (i := 72) rfl))) Via.refl e102 (EN.1.2.2.1.ext OL0.2) (g := (mkF m 8 #[.val (.ref (A 2))] [(.ref (A 2))])) rfl (hb hby own_d_prog_57_method_5_code_8)
  obtain ⟨fs, hr, hrun, hended, hW, hsame⟩ := X103.leave (v := some (.int (1 : Int32))) (fun h => by rw [Bd.returns] at h; cases h)
  refine ⟨_, _, pre0 _ ?_, hrun, hended, _, _, rfl, ?_, ⟨_, rfl⟩, hW, hsame.mono (by decide) (by decide)⟩
  · show Steps p.tables e below (s₁.setTop (mkF m 0 #[.val (.ref (A 2))] [])) _
    refine XS.aloadN X0.here hx rfl (hb hby own_d_prog_57_method_5_code_0) rfl rfl ?_
    show Steps p.tables e below (s₁.setTop (mkF m 1 #[.val (.ref (A 2))] [(.ref (A 2))])) _
    refine st102 _ ?_
    show Steps p.tables e below (T102.setTop (mkF m 4 #[.val (.ref (A 2))] [(.ref (A 0)), (.ref (A 2))])) _
    refine Jvm.RoadKit.acmp (g := (mkF m 4 #[.val (.ref (A 2))] [(.ref (A 0)), (.ref (A 2))])) X102 hx rfl rfl rfl (pc0 := 4) (pc' := 7) (same := false) rfl (hb hby own_d_prog_57_method_5_code_4) rfl (decide_eq_false fun q => (Fld.ne EN.2.2.2.2.2.1.2.2.2.2.2.1 EN.2.2.2.2.2.1.2.2.1 (fun h => by injection h with h; exact absurd h (by decide))) (Value.ref.inj q)) (by decide) (by decide) ?_
    show Steps p.tables e below (T102.setTop (mkF m 7 #[.val (.ref (A 2))] [])) _
    refine XS.aloadN X102.here hx rfl (hb hby own_d_prog_57_method_5_code_7) rfl rfl ?_
    show Steps p.tables e below (T102.setTop (mkF m 8 #[.val (.ref (A 2))] [(.ref (A 2))])) _
    refine st103 _ ?_
    show Steps p.tables e below (T103.setTop (mkF m 11 #[.val (.ref (A 2))] [(.ref (A 1)), (.ref (A 2))])) _
    refine Jvm.RoadKit.acmp (g := (mkF m 11 #[.val (.ref (A 2))] [(.ref (A 1)), (.ref (A 2))])) X103 hx rfl rfl rfl (pc0 := 11) (pc' := 14) (same := false) rfl (hb hby own_d_prog_57_method_5_code_11) rfl (decide_eq_false fun q => (Fld.ne EN.2.2.2.2.2.1.2.2.2.2.2.1 EN.2.2.2.2.2.1.2.2.2.1 (fun h => by injection h with h; exact absurd h (by decide))) (Value.ref.inj q)) (by decide) (by decide) ?_
    show Steps p.tables e below (T103.setTop (mkF m 14 #[.val (.ref (A 2))] [])) _
    refine XS.iconst X103.here hx rfl (hb hby own_d_prog_57_method_5_code_14) ?_
    show Steps p.tables e below (T103.setTop (mkF m 15 #[.val (.ref (A 2))] [(.int (1 : Int32))])) _
    refine XS.goto X103.here hx rfl (pc0 := 15) (pc' := 19) rfl (hb hby own_d_prog_57_method_5_code_15) (by decide) (by decide) ?_
    show Steps p.tables e below (T103.setTop (mkF m 19 #[.val (.ref (A 2))] [(.int (1 : Int32))])) _
    exact retN X103 hx (t := .boolean) Bd.returns (by simp) (hb hby own_d_prog_57_method_5_code_19) hr
  · show PQ (some (.int (1 : Int32))) h0 n0 _ T103.heap _
    rw [e103]
    exact ⟨rfl, N0, rfl⟩
theorem own_ef_rm26 (m : MethodId) (p1 : Int32) (A : Nat → Addr) (K : Nat → ClassId) (cs : Int32)  : entryFrame m #[(.ref (A 3))] 1 = mkF m 0 #[.val (.ref (A 3))] [] := by first | (simp [entryFrame, mkF, argsToLocals, Value.category, maxLocals]; done) | rfl
set_option maxRecDepth 65536 in
set_option maxHeartbeats 40000000 in
theorem rm26 (l : Launch) (Z : State) (a0 : Array Value) (hw : ∀ d ∈ tables_1, d.before a0 Z = true) (ws : List Jvm.Cond) (h0 : Heap) (n0 : Nat) (p1 : Int32) (A : Nat → Addr) (K : Nat → ClassId) (cs : Int32)  (EN : own_St Z A K cs) (OL0 : Old Z n0 h0) :
    MetFree l own_m1 (head1 (Jvm.Cond.code own_m1 prog_57_method_4_code 1 (some (.object "java/lang/String")) :: ws) ({ frames := 0, cells := 0, slots := 0, locals := 0 } : Room)) (fun a U => a = #[(.ref (A 3))] ∧ Z.Warmed39 U.vm ∧ U.heap = h0) (fun _ _ _ _ _ => True) (fun _ U o U' => ∃ v L, o = .returned v ∧ (PQ (some (.ref (A 7))) h0 n0) v U'.heap L ∧ FrameEnd U o U' L ({ frames := 0, cells := 0, slots := 0, locals := 0 } : Room).cells ({ frames := 0, cells := 0, slots := 0, locals := 0 } : Room).slots) := by
  refine MetFree.of_bodySF (plainFor_of_name own_pn0) hisR ?_
  intro p e s m args below meth c s₁ Bd hml0 hP hK
  obtain ⟨rfl, hZ, hh⟩ := hP
  have hx := Bd.exec
  have hby := Bd.bytes
  have hml : c.maxLocals = 1 := hml0
  have hown : s.vm.findClass "com/example/cargoweft/cargoweft/core/FlexibleSearch$Operator" = some m.cls := findClass_of_methodNamed Bd.named
  have hnm := (name_of_methodNamed Bd.named Bd.method).1
  have X0 : Stand p l e ({ frames := 0, cells := 0, slots := 0, locals := 0 } : Room) s m #[(.ref (A 3))] below meth c s₁ [] 0 0 := Stand.of_body Bd
  have e0 : s₁.heap = h0 := by rw [← hh, Bd.state]; rfl
  have N0 := Fr.nil n0
  have pre0 : ∀ t, Steps p.tables e below (s₁.setTop (mkF m 0 #[.val (.ref (A 3))] [])) t → Steps p.tables e below (s₁.setTop (entryFrame m #[(.ref (A 3))] 1)) t := fun t k => castTop (own_ef_rm26 m p1 A K cs ) k
  have KK0 : Keep h0 h0 [] := Keep.refl _ _
  obtain ⟨T106, X106, e106, st106⟩ := getF X0 hx hZ hown (host := "") (Or.inl (hw _ (List.mem_of_getElem? (i := 9) rfl))) Via.refl e0 (EN.2.1.2.2.2.2.2.2.1.ext OL0.2) (g := (mkF m 1 #[.val (.ref (A 3))] [(.ref (A 3))])) rfl rfl (hb hby own_d_prog_57_method_4_code_1)
  obtain ⟨fs, hr, hrun, hended, hW, hsame⟩ := X106.leave (v := some (.ref (A 7))) (fun h => by rw [Bd.returns] at h; cases h)
  refine ⟨_, _, pre0 _ ?_, hrun, hended, _, _, rfl, ?_, ⟨_, rfl⟩, hW, hsame.mono (by decide) (by decide)⟩
  · show Steps p.tables e below (s₁.setTop (mkF m 0 #[.val (.ref (A 3))] [])) _
    refine XS.aloadN X0.here hx rfl (hb hby own_d_prog_57_method_4_code_0) rfl rfl ?_
    show Steps p.tables e below (s₁.setTop (mkF m 1 #[.val (.ref (A 3))] [(.ref (A 3))])) _
    refine st106 _ ?_
    show Steps p.tables e below (T106.setTop (mkF m 4 #[.val (.ref (A 3))] [(.ref (A 7))])) _
    exact retOut X106 hx Bd.returns rfl (Or.inr (Or.inr (Or.inr (Or.inr ⟨rfl, rfl, rfl⟩)))) (hb hby own_d_prog_57_method_4_code_4) hr
  · show PQ (some (.ref (A 7))) h0 n0 _ T106.heap _
    rw [e106]
    exact ⟨rfl, N0, rfl⟩
theorem own_d_jdk_43_method_13_code_24 : decode jdk_43_method_13_code 24 = .ok (.iconst 0, 1) := by decide +kernel
theorem own_d_jdk_43_method_13_code_25 : decode jdk_43_method_13_code 25 = .ok (.ireturn, 1) := by decide +kernel
theorem own_ef_rm28 (m : MethodId) (p1 : Int32) (A : Nat → Addr) (K : Nat → ClassId) (cs : Int32)  (sb109 : Addr) (kc109 : ClassId) : entryFrame m #[(.ref (A 13)), (.ref sb109)] 3 = mkF m 0 #[.val (.ref (A 13)), .val (.ref sb109), .unset] [] := by first | (simp [entryFrame, mkF, argsToLocals, Value.category, maxLocals]; done) | rfl
set_option maxRecDepth 65536 in
set_option maxHeartbeats 40000000 in
theorem rm28 (l : Launch) (Z : State) (a0 : Array Value) (hw : ∀ d ∈ tables_1, d.before a0 Z = true) (ws : List Jvm.Cond) (h0 : Heap) (n0 : Nat) (p1 : Int32) (A : Nat → Addr) (K : Nat → ClassId) (cs : Int32)  (sb109 : Addr) (kc109 : ClassId) (EN : own_St Z A K cs) (OL0 : Old Z n0 h0) (G_A_sb109 : Arv Z h0 sb109 kc109 .byte (2 : Int32) [(.int (60 : Int32)), (.int (62 : Int32))] (.int (0 : Int32))) :
    MetFree l own_m7 (head1 (Jvm.Cond.code own_m7 jdk_43_method_13_code 3 (some .boolean) :: ws) ({ frames := 0, cells := 0, slots := 0, locals := 0 } : Room)) (fun a U => a = #[(.ref (A 13)), (.ref sb109)] ∧ Z.Warmed39 U.vm ∧ U.heap = h0) (fun _ _ _ _ _ => True) (fun _ U o U' => ∃ v L, o = .returned v ∧ (PQ (some (.int (0 : Int32))) h0 n0) v U'.heap L ∧ FrameEnd U o U' L ({ frames := 0, cells := 0, slots := 0, locals := 0 } : Room).cells ({ frames := 0, cells := 0, slots := 0, locals := 0 } : Room).slots) := by
  refine MetFree.of_bodySF (plainFor_of_name own_pn1) hisR ?_
  intro p e s m args below meth c s₁ Bd hml0 hP hK
  obtain ⟨rfl, hZ, hh⟩ := hP
  have hx := Bd.exec
  have hby := Bd.bytes
  have hml : c.maxLocals = 3 := hml0
  have hown : s.vm.findClass "java/lang/StringLatin1" = some m.cls := findClass_of_methodNamed Bd.named
  have hnm := (name_of_methodNamed Bd.named Bd.method).1
  have X0 : Stand p l e ({ frames := 0, cells := 0, slots := 0, locals := 0 } : Room) s m #[(.ref (A 13)), (.ref sb109)] below meth c s₁ [] 0 0 := Stand.of_body Bd
  have e0 : s₁.heap = h0 := by rw [← hh, Bd.state]; rfl
  have N0 := Fr.nil n0
  have pre0 : ∀ t, Steps p.tables e below (s₁.setTop (mkF m 0 #[.val (.ref (A 13)), .val (.ref sb109), .unset] [])) t → Steps p.tables e below (s₁.setTop (entryFrame m #[(.ref (A 13)), (.ref sb109)] 3)) t := fun t k => castTop (own_ef_rm28 m p1 A K cs sb109 kc109) k
  have KK0 : Keep h0 h0 [] := Keep.refl _ _
  obtain ⟨cl117, Ar117, -, Sz117, Nn117, -, -⟩ := (id (EN.2.2.2.1.2.2.2.1.ext OL0.2))
  obtain ⟨cl118, Ar118, -, Sz118, Nn118, -, -⟩ := (id G_A_sb109)
  obtain ⟨cl119, Ar119, -, Sz119, Nn119, -, -⟩ := (id (EN.2.2.2.1.2.2.2.1.ext OL0.2))
  obtain ⟨cl120, Ar120, q120, Sz120, Nn120, Hh120, Gg120⟩ := (id (EN.2.2.2.1.2.2.2.1.ext OL0.2))
  have hin120 : ¬ ((0 : Int32) < 0 ∨ cl120.slots.size ≤ ((0 : Int32)).toNatClampNeg) := inb_of Sz120 ⟨by decide, by decide⟩
  have hat120 : cl120.slots[((0 : Int32)).toNatClampNeg]? = some (.int (60 : Int32)) := Has.at Hh120 hin120 rfl
  obtain ⟨cl121, Ar121, q121, Sz121, Nn121, Hh121, Gg121⟩ := (id G_A_sb109)
  have hin121 : ¬ ((0 : Int32) < 0 ∨ cl121.slots.size ≤ ((0 : Int32)).toNatClampNeg) := inb_of Sz121 ⟨by decide, by decide⟩
  have hat121 : cl121.slots[((0 : Int32)).toNatClampNeg]? = some (.int (60 : Int32)) := Has.at Hh121 hin121 rfl
  obtain ⟨cl122, Ar122, -, Sz122, Nn122, -, -⟩ := (id (EN.2.2.2.1.2.2.2.1.ext OL0.2))
  obtain ⟨cl123, Ar123, q123, Sz123, Nn123, Hh123, Gg123⟩ := (id (EN.2.2.2.1.2.2.2.1.ext OL0.2))
  have hin123 : ¬ ((1 : Int32) < 0 ∨ cl123.slots.size ≤ ((1 : Int32)).toNatClampNeg) := inb_of Sz123 ⟨by decide, by decide⟩
  have hat123 : cl123.slots[((1 : Int32)).toNatClampNeg]? = some (.int (61 : Int32)) := Has.at Hh123 hin123 rfl
  obtain ⟨cl124, Ar124, q124, Sz124, Nn124, Hh124, Gg124⟩ := (id G_A_sb109)
  have hin124 : ¬ ((1 : Int32) < 0 ∨ cl124.slots.size ≤ ((1 : Int32)).toNatClampNeg) := inb_of Sz124 ⟨by decide, by decide⟩
  have hat124 : cl124.slots[((1 : Int32)).toNatClampNeg]? = some (.int (62 : Int32)) := Has.at Hh124 hin124 rfl
  obtain ⟨fs, hr, hrun, hended, hW, hsame⟩ := X0.leave (v := some (.int (0 : Int32))) (fun h => by rw [Bd.returns] at h; cases h)
  refine ⟨_, _, pre0 _ ?_, hrun, hended, _, _, rfl, ?_, ⟨_, rfl⟩, hW, hsame.mono (by decide) (by decide)⟩
  · show Steps p.tables e below (s₁.setTop (mkF m 0 #[.val (.ref (A 13)), .val (.ref sb109), .unset] [])) _
    refine XS.aloadN X0.here hx rfl (hb hby own_d_jdk_43_method_13_code_0) rfl rfl ?_
    show Steps p.tables e below (s₁.setTop (mkF m 1 #[.val (.ref (A 13)), .val (.ref sb109), .unset] [(.ref (A 13))])) _
    refine X0.arraylength hx (by rw [e0]; exact Ar117.1) (State.isArrayOf_alike hZ.alike Ar117.2.1) (g := (mkF m 1 #[.val (.ref (A 13)), .val (.ref sb109), .unset] [(.ref (A 13))])) rfl rfl (hb hby own_d_jdk_43_method_13_code_1) _ ?_
    rw [len_of Sz117 Nn117]
    show Steps p.tables e below (s₁.setTop (mkF m 2 #[.val (.ref (A 13)), .val (.ref sb109), .unset] [(.int (2 : Int32))])) _
    refine XS.aloadN X0.here hx rfl (hb hby own_d_jdk_43_method_13_code_2) rfl rfl ?_
    show Steps p.tables e below (s₁.setTop (mkF m 3 #[.val (.ref (A 13)), .val (.ref sb109), .unset] [(.ref sb109), (.int (2 : Int32))])) _
    refine X0.arraylength hx (by rw [e0]; exact Ar118.1) (State.isArrayOf_alike hZ.alike Ar118.2.1) (g := (mkF m 3 #[.val (.ref (A 13)), .val (.ref sb109), .unset] [(.ref sb109), (.int (2 : Int32))])) rfl rfl (hb hby own_d_jdk_43_method_13_code_3) _ ?_
    rw [len_of Sz118 Nn118]
    show Steps p.tables e below (s₁.setTop (mkF m 4 #[.val (.ref (A 13)), .val (.ref sb109), .unset] [(.int (2 : Int32)), (.int (2 : Int32))])) _
    refine XS.icmpNo X0.here hx rfl (hb hby own_d_jdk_43_method_13_code_4) rfl (teq (by decide : (2 : Int32) = (2 : Int32))).2 ?_
    show Steps p.tables e below (s₁.setTop (mkF m 7 #[.val (.ref (A 13)), .val (.ref sb109), .unset] [])) _
    refine XS.iconst X0.here hx rfl (hb hby own_d_jdk_43_method_13_code_7) ?_
    show Steps p.tables e below (s₁.setTop (mkF m 8 #[.val (.ref (A 13)), .val (.ref sb109), .unset] [(.int (0 : Int32))])) _
    refine XS.istoreN X0.here hx rfl (hb hby own_d_jdk_43_method_13_code_8) rfl (l' := #[.val (.ref (A 13)), .val (.ref sb109), .val (.int (0 : Int32))]) rfl ?_
    show Steps p.tables e below (s₁.setTop (mkF m 9 #[.val (.ref (A 13)), .val (.ref sb109), .val (.int (0 : Int32))] [])) _
    refine XS.iloadN X0.here hx rfl (hb hby own_d_jdk_43_method_13_code_9) rfl ?_
    show Steps p.tables e below (s₁.setTop (mkF m 10 #[.val (.ref (A 13)), .val (.ref sb109), .val (.int (0 : Int32))] [(.int (0 : Int32))])) _
    refine XS.aloadN X0.here hx rfl (hb hby own_d_jdk_43_method_13_code_10) rfl rfl ?_
    show Steps p.tables e below (s₁.setTop (mkF m 11 #[.val (.ref (A 13)), .val (.ref sb109), .val (.int (0 : Int32))] [(.ref (A 13)), (.int (0 : Int32))])) _
    refine X0.arraylength hx (by rw [e0]; exact Ar119.1) (State.isArrayOf_alike hZ.alike Ar119.2.1) (g := (mkF m 11 #[.val (.ref (A 13)), .val (.ref sb109), .val (.int (0 : Int32))] [(.ref (A 13)), (.int (0 : Int32))])) rfl rfl (hb hby own_d_jdk_43_method_13_code_11) _ ?_
    rw [len_of Sz119 Nn119]
    show Steps p.tables e below (s₁.setTop (mkF m 12 #[.val (.ref (A 13)), .val (.ref sb109), .val (.int (0 : Int32))] [(.int (2 : Int32)), (.int (0 : Int32))])) _
    refine XS.icmpNo X0.here hx rfl (hb hby own_d_jdk_43_method_13_code_12) rfl (tlt (by decide : (0 : Int32) < (2 : Int32))).2.1 ?_
    show Steps p.tables e below (s₁.setTop (mkF m 15 #[.val (.ref (A 13)), .val (.ref sb109), .val (.int (0 : Int32))] [])) _
    refine XS.aloadN X0.here hx rfl (hb hby own_d_jdk_43_method_13_code_15) rfl rfl ?_
    show Steps p.tables e below (s₁.setTop (mkF m 16 #[.val (.ref (A 13)), .val (.ref sb109), .val (.int (0 : Int32))] [(.ref (A 13))])) _
    refine XS.iloadN X0.here hx rfl (hb hby own_d_jdk_43_method_13_code_16) rfl ?_
    show Steps p.tables e below (s₁.setTop (mkF m 17 #[.val (.ref (A 13)), .val (.ref sb109), .val (.int (0 : Int32))] [(.int (0 : Int32)), (.ref (A 13))])) _
    refine X0.baloadBytes hx (j := (0 : Int32)) (v := (.int (60 : Int32))) (by rw [e0]; exact Ar120.1) (State.isArrayOf_alike hZ.alike Ar120.2.1) Ar120.2.2 hin120 hat120 (g := (mkF m 17 #[.val (.ref (A 13)), .val (.ref sb109), .val (.int (0 : Int32))] [(.int (0 : Int32)), (.ref (A 13))])) rfl rfl (hb hby own_d_jdk_43_method_13_code_17) _ ?_
    show Steps p.tables e below (s₁.setTop (mkF m 18 #[.val (.ref (A 13)), .val (.ref sb109), .val (.int (0 : Int32))] [(.int (60 : Int32))])) _
    refine XS.aloadN X0.here hx rfl (hb hby own_d_jdk_43_method_13_code_18) rfl rfl ?_
    show Steps p.tables e below (s₁.setTop (mkF m 19 #[.val (.ref (A 13)), .val (.ref sb109), .val (.int (0 : Int32))] [(.ref sb109), (.int (60 : Int32))])) _
    refine XS.iloadN X0.here hx rfl (hb hby own_d_jdk_43_method_13_code_19) rfl ?_
    show Steps p.tables e below (s₁.setTop (mkF m 20 #[.val (.ref (A 13)), .val (.ref sb109), .val (.int (0 : Int32))] [(.int (0 : Int32)), (.ref sb109), (.int (60 : Int32))])) _
    refine X0.baloadBytes hx (j := (0 : Int32)) (v := (.int (60 : Int32))) (by rw [e0]; exact Ar121.1) (State.isArrayOf_alike hZ.alike Ar121.2.1) Ar121.2.2 hin121 hat121 (g := (mkF m 20 #[.val (.ref (A 13)), .val (.ref sb109), .val (.int (0 : Int32))] [(.int (0 : Int32)), (.ref sb109), (.int (60 : Int32))])) rfl rfl (hb hby own_d_jdk_43_method_13_code_20) _ ?_
    show Steps p.tables e below (s₁.setTop (mkF m 21 #[.val (.ref (A 13)), .val (.ref sb109), .val (.int (0 : Int32))] [(.int (60 : Int32)), (.int (60 : Int32))])) _
    refine XS.icmpYes X0.here hx rfl (pc0 := 21) (pc' := 26) rfl (hb hby own_d_jdk_43_method_13_code_21) rfl (teq (by decide : (60 : Int32) = (60 : Int32))).1 (by decide) (by decide) ?_
    show Steps p.tables e below (s₁.setTop (mkF m 26 #[.val (.ref (A 13)), .val (.ref sb109), .val (.int (0 : Int32))] [])) _
    refine XS.iinc X0.here hx rfl (hb hby own_d_jdk_43_method_13_code_26) rfl (l' := #[.val (.ref (A 13)), .val (.ref sb109), .val (.int (1 : Int32))]) rfl ?_
    show Steps p.tables e below (s₁.setTop (mkF m 29 #[.val (.ref (A 13)), .val (.ref sb109), .val (.int (1 : Int32))] [])) _
    refine XS.goto X0.here hx rfl (pc0 := 29) (pc' := 9) rfl (hb hby own_d_jdk_43_method_13_code_29) (by decide) (by decide) ?_
    show Steps p.tables e below (s₁.setTop (mkF m 9 #[.val (.ref (A 13)), .val (.ref sb109), .val (.int (1 : Int32))] [])) _
    refine XS.iloadN X0.here hx rfl (hb hby own_d_jdk_43_method_13_code_9) rfl ?_
    show Steps p.tables e below (s₁.setTop (mkF m 10 #[.val (.ref (A 13)), .val (.ref sb109), .val (.int (1 : Int32))] [(.int (1 : Int32))])) _
    refine XS.aloadN X0.here hx rfl (hb hby own_d_jdk_43_method_13_code_10) rfl rfl ?_
    show Steps p.tables e below (s₁.setTop (mkF m 11 #[.val (.ref (A 13)), .val (.ref sb109), .val (.int (1 : Int32))] [(.ref (A 13)), (.int (1 : Int32))])) _
    refine X0.arraylength hx (by rw [e0]; exact Ar122.1) (State.isArrayOf_alike hZ.alike Ar122.2.1) (g := (mkF m 11 #[.val (.ref (A 13)), .val (.ref sb109), .val (.int (1 : Int32))] [(.ref (A 13)), (.int (1 : Int32))])) rfl rfl (hb hby own_d_jdk_43_method_13_code_11) _ ?_
    rw [len_of Sz122 Nn122]
    show Steps p.tables e below (s₁.setTop (mkF m 12 #[.val (.ref (A 13)), .val (.ref sb109), .val (.int (1 : Int32))] [(.int (2 : Int32)), (.int (1 : Int32))])) _
    refine XS.icmpNo X0.here hx rfl (hb hby own_d_jdk_43_method_13_code_12) rfl (tlt (by decide : (1 : Int32) < (2 : Int32))).2.1 ?_
    show Steps p.tables e below (s₁.setTop (mkF m 15 #[.val (.ref (A 13)), .val (.ref sb109), .val (.int (1 : Int32))] [])) _
    refine XS.aloadN X0.here hx rfl (hb hby own_d_jdk_43_method_13_code_15) rfl rfl ?_
    show Steps p.tables e below (s₁.setTop (mkF m 16 #[.val (.ref (A 13)), .val (.ref sb109), .val (.int (1 : Int32))] [(.ref (A 13))])) _
    refine XS.iloadN X0.here hx rfl (hb hby own_d_jdk_43_method_13_code_16) rfl ?_
    show Steps p.tables e below (s₁.setTop (mkF m 17 #[.val (.ref (A 13)), .val (.ref sb109), .val (.int (1 : Int32))] [(.int (1 : Int32)), (.ref (A 13))])) _
    refine X0.baloadBytes hx (j := (1 : Int32)) (v := (.int (61 : Int32))) (by rw [e0]; exact Ar123.1) (State.isArrayOf_alike hZ.alike Ar123.2.1) Ar123.2.2 hin123 hat123 (g := (mkF m 17 #[.val (.ref (A 13)), .val (.ref sb109), .val (.int (1 : Int32))] [(.int (1 : Int32)), (.ref (A 13))])) rfl rfl (hb hby own_d_jdk_43_method_13_code_17) _ ?_
    show Steps p.tables e below (s₁.setTop (mkF m 18 #[.val (.ref (A 13)), .val (.ref sb109), .val (.int (1 : Int32))] [(.int (61 : Int32))])) _
    refine XS.aloadN X0.here hx rfl (hb hby own_d_jdk_43_method_13_code_18) rfl rfl ?_
    show Steps p.tables e below (s₁.setTop (mkF m 19 #[.val (.ref (A 13)), .val (.ref sb109), .val (.int (1 : Int32))] [(.ref sb109), (.int (61 : Int32))])) _
    refine XS.iloadN X0.here hx rfl (hb hby own_d_jdk_43_method_13_code_19) rfl ?_
    show Steps p.tables e below (s₁.setTop (mkF m 20 #[.val (.ref (A 13)), .val (.ref sb109), .val (.int (1 : Int32))] [(.int (1 : Int32)), (.ref sb109), (.int (61 : Int32))])) _
    refine X0.baloadBytes hx (j := (1 : Int32)) (v := (.int (62 : Int32))) (by rw [e0]; exact Ar124.1) (State.isArrayOf_alike hZ.alike Ar124.2.1) Ar124.2.2 hin124 hat124 (g := (mkF m 20 #[.val (.ref (A 13)), .val (.ref sb109), .val (.int (1 : Int32))] [(.int (1 : Int32)), (.ref sb109), (.int (61 : Int32))])) rfl rfl (hb hby own_d_jdk_43_method_13_code_20) _ ?_
    show Steps p.tables e below (s₁.setTop (mkF m 21 #[.val (.ref (A 13)), .val (.ref sb109), .val (.int (1 : Int32))] [(.int (62 : Int32)), (.int (61 : Int32))])) _
    refine XS.icmpNo X0.here hx rfl (hb hby own_d_jdk_43_method_13_code_21) rfl (feq (by decide : ¬ ((61 : Int32) = (62 : Int32)))).1 ?_
    show Steps p.tables e below (s₁.setTop (mkF m 24 #[.val (.ref (A 13)), .val (.ref sb109), .val (.int (1 : Int32))] [])) _
    refine XS.iconst X0.here hx rfl (hb hby own_d_jdk_43_method_13_code_24) ?_
    show Steps p.tables e below (s₁.setTop (mkF m 25 #[.val (.ref (A 13)), .val (.ref sb109), .val (.int (1 : Int32))] [(.int (0 : Int32))])) _
    exact retN X0 hx (t := .boolean) Bd.returns (by simp) (hb hby own_d_jdk_43_method_13_code_25) hr
  · show PQ (some (.int (0 : Int32))) h0 n0 _ s₁.heap _
    rw [e0]
    exact ⟨rfl, N0, rfl⟩
theorem own_ef_rm27 (m : MethodId) (p1 : Int32) (A : Nat → Addr) (K : Nat → ClassId) (cs : Int32)  (sb109 : Addr) (sa109 : Addr) (kc109 : ClassId) : entryFrame m #[(.ref (A 7)), (.ref sa109)] 3 = mkF m 0 #[.val (.ref (A 7)), .val (.ref sa109), .unset] [] := by first | (simp [entryFrame, mkF, argsToLocals, Value.category, maxLocals]; done) | rfl
set_option maxRecDepth 65536 in
set_option maxHeartbeats 40000000 in
theorem rm27 (l : Launch) (Z : State) (a0 : Array Value) (hw : ∀ d ∈ tables_1, d.before a0 Z = true) (ws : List Jvm.Cond) (h0 : Heap) (n0 : Nat) (p1 : Int32) (A : Nat → Addr) (K : Nat → ClassId) (cs : Int32)  (sb109 : Addr) (sa109 : Addr) (kc109 : ClassId) (EN : own_St Z A K cs) (OL0 : Old Z n0 h0) (G_F_sa109_java_lang_String_value : Fld Z h0 sa109 "java/lang/String" "value" "[B" (.ref sb109)) (G_A_sb109 : Arv Z h0 sb109 kc109 .byte (2 : Int32) [(.int (60 : Int32)), (.int (62 : Int32))] (.int (0 : Int32))) (G_E_sa109 : Exa Z h0 sa109 "java/lang/String") (G_F_sa109_java_lang_String_coder : Fld Z h0 sa109 "java/lang/String" "coder" "B" (.int (0 : Int32))) :
    MetFree l own_m2 (head1 (Jvm.Cond.code own_m2 jdk_42_method_66_code 3 (some .boolean) :: ws) ({ frames := 1, cells := 0, slots := 0, locals := 14 } : Room)) (fun a U => a = #[(.ref (A 7)), (.ref sa109)] ∧ Z.Warmed39 U.vm ∧ U.heap = h0) (fun _ _ _ _ _ => True) (fun _ U o U' => ∃ v L, o = .returned v ∧ (PQ (some (.int (0 : Int32))) h0 n0) v U'.heap L ∧ FrameEnd U o U' L ({ frames := 1, cells := 0, slots := 0, locals := 14 } : Room).cells ({ frames := 1, cells := 0, slots := 0, locals := 14 } : Room).slots) := by
  refine MetFree.of_bodySF (plainFor_of_name own_pn2) hisR ?_
  intro p e s m args below meth c s₁ Bd hml0 hP hK
  obtain ⟨rfl, hZ, hh⟩ := hP
  have hx := Bd.exec
  have hby := Bd.bytes
  have hml : c.maxLocals = 3 := hml0
  have hown : s.vm.findClass "java/lang/String" = some m.cls := findClass_of_methodNamed Bd.named
  have hnm := (name_of_methodNamed Bd.named Bd.method).1
  have X0 : Stand p l e ({ frames := 1, cells := 0, slots := 0, locals := 14 } : Room) s m #[(.ref (A 7)), (.ref sa109)] below meth c s₁ [] 0 0 := Stand.of_body Bd
  have e0 : s₁.heap = h0 := by rw [← hh, Bd.state]; rfl
  have N0 := Fr.nil n0
  have pre0 : ∀ t, Steps p.tables e below (s₁.setTop (mkF m 0 #[.val (.ref (A 7)), .val (.ref sa109), .unset] [])) t → Steps p.tables e below (s₁.setTop (entryFrame m #[(.ref (A 7)), (.ref sa109)] 3)) t := fun t k => castTop (own_ef_rm27 m p1 A K cs sb109 sa109 kc109) k
  have KK0 : Keep h0 h0 [] := Keep.refl _ _
  obtain ⟨T110, X110, e110, st110⟩ := instY X0 hx hZ hown (hw _ (List.mem_of_getElem? (i := 24) rfl)) e0 (Ins.self G_E_sa109) (g := (mkF m 8 #[.val (.ref (A 7)), .val (.ref sa109), .unset] [(.ref sa109)])) rfl rfl (hb hby own_d_jdk_42_method_66_code_8)
  obtain ⟨T111, X111, e111, st111⟩ := castY X110 hx hZ hown (hw _ (List.mem_of_getElem? (i := 24) rfl)) e110 (Ins.self G_E_sa109) (g := (mkF m 15 #[.val (.ref (A 7)), .val (.ref sa109), .unset] [(.ref sa109)])) rfl rfl (hb hby own_d_jdk_42_method_66_code_15)
  obtain ⟨T112, X112, e112, st112⟩ := getS2 X111 hx hZ hown (host := "") (Or.inl (hw _ (List.mem_of_getElem? (i := 26) rfl))) Via.refl e111 (EN.2.2.2.2.1.2.2.2.2.1.ext OL0.2) (g := (mkF m 19 #[.val (.ref (A 7)), .val (.ref sa109), .val (.ref sa109)] [])) rfl (hb hby own_d_jdk_42_method_66_code_19)
  obtain ⟨T113, X113, e113, st113⟩ := getF X112 hx hZ hown (host := "") (Or.inl (hw _ (List.mem_of_getElem? (i := 27) rfl))) Via.refl e112 (EN.2.2.2.2.2.1.1.ext OL0.2) (g := (mkF m 26 #[.val (.ref (A 7)), .val (.ref sa109), .val (.ref sa109)] [(.ref (A 7))])) rfl rfl (hb hby own_d_jdk_42_method_66_code_26)
  obtain ⟨T114, X114, e114, st114⟩ := getF X113 hx hZ hown (host := "") (Or.inl (hw _ (List.mem_of_getElem? (i := 27) rfl))) Via.refl e113 G_F_sa109_java_lang_String_coder (g := (mkF m 30 #[.val (.ref (A 7)), .val (.ref sa109), .val (.ref sa109)] [(.ref sa109), (.int (0 : Int32))])) rfl rfl (hb hby own_d_jdk_42_method_66_code_30)
  obtain ⟨T115, X115, e115, st115⟩ := getF X114 hx hZ hown (host := "") (Or.inl (hw _ (List.mem_of_getElem? (i := 28) rfl))) Via.refl e114 (EN.2.2.2.1.2.2.1.ext OL0.2) (g := (mkF m 37 #[.val (.ref (A 7)), .val (.ref sa109), .val (.ref sa109)] [(.ref (A 7))])) rfl rfl (hb hby own_d_jdk_42_method_66_code_37)
  obtain ⟨T116, X116, e116, st116⟩ := getF X115 hx hZ hown (host := "") (Or.inl (hw _ (List.mem_of_getElem? (i := 28) rfl))) Via.refl e115 G_F_sa109_java_lang_String_value (g := (mkF m 41 #[.val (.ref (A 7)), .val (.ref sa109), .val (.ref sa109)] [(.ref sa109), (.ref (A 13))])) rfl rfl (hb hby own_d_jdk_42_method_66_code_41)
  obtain ⟨_, _, ⟨T125, L125, k125, n125⟩, -, X125, ⟨Lc125, hQ125, l125, y125, z125⟩, st125⟩ := Jvm.LawKit.callS X116 hx (y := own_m7) hown (mvT hZ (hw _ (List.mem_of_getElem? (i := 29) rfl))) (mvT hZ (hw _ (List.mem_of_getElem? (i := 30) rfl))) (mvT hZ (hw _ (List.mem_of_getElem? (i := 31) rfl))) (mvT hZ (hw _ (List.mem_of_getElem? (i := 32) rfl))) (by decide) (backOf (W := 0) (rm28 l Z a0 hw [] h0 n0 p1 A K cs sb109 kc109 EN OL0 G_A_sb109) hZ (hw _ (List.mem_of_getElem? (i := 32) rfl)) (hw _ (List.mem_of_getElem? (i := 31) rfl)) (by decide) (by decide)) (g := (mkF m 44 #[.val (.ref (A 7)), .val (.ref sa109), .val (.ref sa109)] [(.ref sb109), (.ref (A 13))])) rfl (by rw [hml]; rfl) (argsL := [(.ref (A 13)), (.ref sb109)]) (rest := []) (lenOf own_pd1 rfl) rfl (by show 2 * 0 + _ ≤ _; exact Nat.le_of_eq rfl) (hb hby own_d_jdk_42_method_66_code_44) (fun _ _ => ⟨rfl, e116, (by decide : 0 + 0 ≤ _), (by decide : 0 + 0 ≤ _)⟩)
  dsimp only [Pt.U, Pt.locs, Pt.cells, Pt.slots] at X125 l125 y125 z125 st125 hQ125
  subst l125 y125 z125
  obtain ⟨rfl, N125q, e125⟩ := hQ125
  have N125 := Fr.app N0 N125q
  obtain ⟨fs, hr, hrun, hended, hW, hsame⟩ := X125.leave (v := some (.int (0 : Int32))) (fun h => by rw [Bd.returns] at h; cases h)
  refine ⟨_, _, pre0 _ ?_, hrun, hended, _, _, rfl, ?_, ⟨_, rfl⟩, hW, hsame.mono (by decide) (by decide)⟩
  · show Steps p.tables e below (s₁.setTop (mkF m 0 #[.val (.ref (A 7)), .val (.ref sa109), .unset] [])) _
    refine XS.aloadN X0.here hx rfl (hb hby own_d_jdk_42_method_66_code_0) rfl rfl ?_
    show Steps p.tables e below (s₁.setTop (mkF m 1 #[.val (.ref (A 7)), .val (.ref sa109), .unset] [(.ref (A 7))])) _
    refine XS.aloadN X0.here hx rfl (hb hby own_d_jdk_42_method_66_code_1) rfl rfl ?_
    show Steps p.tables e below (s₁.setTop (mkF m 2 #[.val (.ref (A 7)), .val (.ref sa109), .unset] [(.ref sa109), (.ref (A 7))])) _
    refine Jvm.RoadKit.acmp (g := (mkF m 2 #[.val (.ref (A 7)), .val (.ref sa109), .unset] [(.ref sa109), (.ref (A 7))])) X0 hx rfl rfl rfl (pc0 := 2) (pc' := 7) (same := false) rfl (hb hby own_d_jdk_42_method_66_code_2) rfl (decide_eq_false fun q => (Fld.ne (EN.2.2.2.1.2.2.1.ext OL0.2) G_F_sa109_java_lang_String_value (fun h => arv_ne (EN.2.2.2.1.2.2.2.1.ext OL0.2) G_A_sb109 (Or.inr ⟨1, by decide, fun h => by injection h with h; exact absurd h (by decide)⟩) (Value.ref.inj h))) (Value.ref.inj q)) (by decide) (by decide) ?_
    show Steps p.tables e below (s₁.setTop (mkF m 7 #[.val (.ref (A 7)), .val (.ref sa109), .unset] [])) _
    refine XS.aloadN X0.here hx rfl (hb hby own_d_jdk_42_method_66_code_7) rfl rfl ?_
    show Steps p.tables e below (s₁.setTop (mkF m 8 #[.val (.ref (A 7)), .val (.ref sa109), .unset] [(.ref sa109)])) _
    refine st110 _ ?_
    show Steps p.tables e below (T110.setTop (mkF m 11 #[.val (.ref (A 7)), .val (.ref sa109), .unset] [(.int (1 : Int32))])) _
    refine XS.ifNo X110.here hx rfl (hb hby own_d_jdk_42_method_66_code_11) rfl ((if0 _ _).trans (feq (by decide : ¬ ((1 : Int32) = (0 : Int32)))).1) ?_
    show Steps p.tables e below (T110.setTop (mkF m 14 #[.val (.ref (A 7)), .val (.ref sa109), .unset] [])) _
    refine XS.aloadN X110.here hx rfl (hb hby own_d_jdk_42_method_66_code_14) rfl rfl ?_
    show Steps p.tables e below (T110.setTop (mkF m 15 #[.val (.ref (A 7)), .val (.ref sa109), .unset] [(.ref sa109)])) _
    refine st111 _ ?_
    show Steps p.tables e below (T111.setTop (mkF m 18 #[.val (.ref (A 7)), .val (.ref sa109), .unset] [(.ref sa109)])) _
    refine XS.astoreN X111.here hx rfl (hb hby own_d_jdk_42_method_66_code_18) rfl rfl (l' := #[.val (.ref (A 7)), .val (.ref sa109), .val (.ref sa109)]) rfl ?_
    show Steps p.tables e below (T111.setTop (mkF m 19 #[.val (.ref (A 7)), .val (.ref sa109), .val (.ref sa109)] [])) _
    refine st112 _ ?_
    show Steps p.tables e below (T112.setTop (mkF m 22 #[.val (.ref (A 7)), .val (.ref sa109), .val (.ref sa109)] [(.int cs)])) _
    refine XS.ifNo X112.here hx rfl (hb hby own_d_jdk_42_method_66_code_22) rfl ((if0 _ _).trans (feq EN.2.2.2.2.1.2.2.2.2.2.1).1) ?_
    show Steps p.tables e below (T112.setTop (mkF m 25 #[.val (.ref (A 7)), .val (.ref sa109), .val (.ref sa109)] [])) _
    refine XS.aloadN X112.here hx rfl (hb hby own_d_jdk_42_method_66_code_25) rfl rfl ?_
    show Steps p.tables e below (T112.setTop (mkF m 26 #[.val (.ref (A 7)), .val (.ref sa109), .val (.ref sa109)] [(.ref (A 7))])) _
    refine st113 _ ?_
    show Steps p.tables e below (T113.setTop (mkF m 29 #[.val (.ref (A 7)), .val (.ref sa109), .val (.ref sa109)] [(.int (0 : Int32))])) _
    refine XS.aloadN X113.here hx rfl (hb hby own_d_jdk_42_method_66_code_29) rfl rfl ?_
    show Steps p.tables e below (T113.setTop (mkF m 30 #[.val (.ref (A 7)), .val (.ref sa109), .val (.ref sa109)] [(.ref sa109), (.int (0 : Int32))])) _
    refine st114 _ ?_
    show Steps p.tables e below (T114.setTop (mkF m 33 #[.val (.ref (A 7)), .val (.ref sa109), .val (.ref sa109)] [(.int (0 : Int32)), (.int (0 : Int32))])) _
    refine XS.icmpNo X114.here hx rfl (hb hby own_d_jdk_42_method_66_code_33) rfl (teq (by decide : (0 : Int32) = (0 : Int32))).2 ?_
    show Steps p.tables e below (T114.setTop (mkF m 36 #[.val (.ref (A 7)), .val (.ref sa109), .val (.ref sa109)] [])) _
    refine XS.aloadN X114.here hx rfl (hb hby own_d_jdk_42_method_66_code_36) rfl rfl ?_
    show Steps p.tables e below (T114.setTop (mkF m 37 #[.val (.ref (A 7)), .val (.ref sa109), .val (.ref sa109)] [(.ref (A 7))])) _
    refine st115 _ ?_
    show Steps p.tables e below (T115.setTop (mkF m 40 #[.val (.ref (A 7)), .val (.ref sa109), .val (.ref sa109)] [(.ref (A 13))])) _
    refine XS.aloadN X115.here hx rfl (hb hby own_d_jdk_42_method_66_code_40) rfl rfl ?_
    show Steps p.tables e below (T115.setTop (mkF m 41 #[.val (.ref (A 7)), .val (.ref sa109), .val (.ref sa109)] [(.ref sa109), (.ref (A 13))])) _
    refine st116 _ ?_
    show Steps p.tables e below (T116.setTop (mkF m 44 #[.val (.ref (A 7)), .val (.ref sa109), .val (.ref sa109)] [(.ref sb109), (.ref (A 13))])) _
    refine st125 _ ?_
    show Steps p.tables e below (T125.setTop (mkF m 47 #[.val (.ref (A 7)), .val (.ref sa109), .val (.ref sa109)] [(.int (0 : Int32))])) _
    refine XS.ifYes X125.here hx rfl (pc0 := 47) (pc' := 54) rfl (hb hby own_d_jdk_42_method_66_code_47) rfl ((if0 _ _).trans (teq (by decide : (0 : Int32) = (0 : Int32))).1) (by decide) (by decide) ?_
    show Steps p.tables e below (T125.setTop (mkF m 54 #[.val (.ref (A 7)), .val (.ref sa109), .val (.ref sa109)] [])) _
    refine XS.iconst X125.here hx rfl (hb hby own_d_jdk_42_method_66_code_54) ?_
    show Steps p.tables e below (T125.setTop (mkF m 55 #[.val (.ref (A 7)), .val (.ref sa109), .val (.ref sa109)] [(.int (0 : Int32))])) _
    exact retN X125 hx (t := .boolean) Bd.returns (by simp) (hb hby own_d_jdk_42_method_66_code_55) hr
  · show PQ (some (.int (0 : Int32))) h0 n0 _ T125.heap _
    rw [e125]
    exact ⟨rfl, N125, rfl⟩
theorem own_ef_rm30 (m : MethodId) (p1 : Int32) (A : Nat → Addr) (K : Nat → ClassId) (cs : Int32)  : entryFrame m #[(.ref (A 7))] 1 = mkF m 0 #[.val (.ref (A 7))] [] := by first | (simp [entryFrame, mkF, argsToLocals, Value.category, maxLocals]; done) | rfl
set_option maxRecDepth 65536 in
set_option maxHeartbeats 40000000 in
theorem rm30 (l : Launch) (Z : State) (a0 : Array Value) (hw : ∀ d ∈ tables_1, d.before a0 Z = true) (ws : List Jvm.Cond) (h0 : Heap) (n0 : Nat) (p1 : Int32) (A : Nat → Addr) (K : Nat → ClassId) (cs : Int32)  (EN : own_St Z A K cs) (OL0 : Old Z n0 h0) :
    MetFree l own_m4 (head1 (Jvm.Cond.code own_m4 jdk_42_method_152_code 1 (some .byte) :: ws) ({ frames := 0, cells := 0, slots := 0, locals := 0 } : Room)) (fun a U => a = #[(.ref (A 7))] ∧ Z.Warmed39 U.vm ∧ U.heap = h0) (fun _ _ _ _ _ => True) (fun _ U o U' => ∃ v L, o = .returned v ∧ (PQ (some (.int (0 : Int32))) h0 n0) v U'.heap L ∧ FrameEnd U o U' L ({ frames := 0, cells := 0, slots := 0, locals := 0 } : Room).cells ({ frames := 0, cells := 0, slots := 0, locals := 0 } : Room).slots) := by
  refine MetFree.of_bodySF (plainFor_of_name own_pn2) hisR ?_
  intro p e s m args below meth c s₁ Bd hml0 hP hK
  obtain ⟨rfl, hZ, hh⟩ := hP
  have hx := Bd.exec
  have hby := Bd.bytes
  have hml : c.maxLocals = 1 := hml0
  have hown : s.vm.findClass "java/lang/String" = some m.cls := findClass_of_methodNamed Bd.named
  have hnm := (name_of_methodNamed Bd.named Bd.method).1
  have X0 : Stand p l e ({ frames := 0, cells := 0, slots := 0, locals := 0 } : Room) s m #[(.ref (A 7))] below meth c s₁ [] 0 0 := Stand.of_body Bd
  have e0 : s₁.heap = h0 := by rw [← hh, Bd.state]; rfl
  have N0 := Fr.nil n0
  have pre0 : ∀ t, Steps p.tables e below (s₁.setTop (mkF m 0 #[.val (.ref (A 7))] [])) t → Steps p.tables e below (s₁.setTop (entryFrame m #[(.ref (A 7))] 1)) t := fun t k => castTop (own_ef_rm30 m p1 A K cs ) k
  have KK0 : Keep h0 h0 [] := Keep.refl _ _
  obtain ⟨T129, X129, e129, st129⟩ := getS2 X0 hx hZ hown (host := "") (Or.inl (hw _ (List.mem_of_getElem? (i := 26) rfl))) Via.refl e0 (EN.2.2.2.2.1.2.2.2.2.1.ext OL0.2) (g := (mkF m 0 #[.val (.ref (A 7))] [])) rfl (hb hby own_d_jdk_42_method_152_code_0)
  obtain ⟨T130, X130, e130, st130⟩ := getF X129 hx hZ hown (host := "") (Or.inl (hw _ (List.mem_of_getElem? (i := 27) rfl))) Via.refl e129 (EN.2.2.2.2.2.1.1.ext OL0.2) (g := (mkF m 7 #[.val (.ref (A 7))] [(.ref (A 7))])) rfl rfl (hb hby own_d_jdk_42_method_152_code_7)
  obtain ⟨fs, hr, hrun, hended, hW, hsame⟩ := X130.leave (v := some (.int (0 : Int32))) (fun h => by rw [Bd.returns] at h; cases h)
  refine ⟨_, _, pre0 _ ?_, hrun, hended, _, _, rfl, ?_, ⟨_, rfl⟩, hW, hsame.mono (by decide) (by decide)⟩
  · show Steps p.tables e below (s₁.setTop (mkF m 0 #[.val (.ref (A 7))] [])) _
    refine st129 _ ?_
    show Steps p.tables e below (T129.setTop (mkF m 3 #[.val (.ref (A 7))] [(.int cs)])) _
    refine XS.ifNo X129.here hx rfl (hb hby own_d_jdk_42_method_152_code_3) rfl ((if0 _ _).trans (feq EN.2.2.2.2.1.2.2.2.2.2.1).1) ?_
    show Steps p.tables e below (T129.setTop (mkF m 6 #[.val (.ref (A 7))] [])) _
    refine XS.aloadN X129.here hx rfl (hb hby own_d_jdk_42_method_152_code_6) rfl rfl ?_
    show Steps p.tables e below (T129.setTop (mkF m 7 #[.val (.ref (A 7))] [(.ref (A 7))])) _
    refine st130 _ ?_
    show Steps p.tables e below (T130.setTop (mkF m 10 #[.val (.ref (A 7))] [(.int (0 : Int32))])) _
    refine XS.goto X130.here hx rfl (pc0 := 10) (pc' := 14) rfl (hb hby own_d_jdk_42_method_152_code_10) (by decide) (by decide) ?_
    show Steps p.tables e below (T130.setTop (mkF m 14 #[.val (.ref (A 7))] [(.int (0 : Int32))])) _
    exact retN X130 hx (t := .byte) Bd.returns (by simp) (hb hby own_d_jdk_42_method_152_code_14) hr
  · show PQ (some (.int (0 : Int32))) h0 n0 _ T130.heap _
    rw [e130]
    exact ⟨rfl, N0, rfl⟩
theorem own_ef_rm29 (m : MethodId) (p1 : Int32) (A : Nat → Addr) (K : Nat → ClassId) (cs : Int32)  : entryFrame m #[(.ref (A 7))] 1 = mkF m 0 #[.val (.ref (A 7))] [] := by first | (simp [entryFrame, mkF, argsToLocals, Value.category, maxLocals]; done) | rfl
set_option maxRecDepth 65536 in
set_option maxHeartbeats 40000000 in
theorem rm29 (l : Launch) (Z : State) (a0 : Array Value) (hw : ∀ d ∈ tables_1, d.before a0 Z = true) (ws : List Jvm.Cond) (h0 : Heap) (n0 : Nat) (p1 : Int32) (A : Nat → Addr) (K : Nat → ClassId) (cs : Int32)  (EN : own_St Z A K cs) (OL0 : Old Z n0 h0) :
    MetFree l own_m5 (head1 (Jvm.Cond.code own_m5 jdk_42_method_54_code 1 (some .int) :: ws) ({ frames := 1, cells := 0, slots := 0, locals := 13 } : Room)) (fun a U => a = #[(.ref (A 7))] ∧ Z.Warmed39 U.vm ∧ U.heap = h0) (fun _ _ _ _ _ => True) (fun _ U o U' => ∃ v L, o = .returned v ∧ (PQ (some (.int (2 : Int32))) h0 n0) v U'.heap L ∧ FrameEnd U o U' L ({ frames := 1, cells := 0, slots := 0, locals := 13 } : Room).cells ({ frames := 1, cells := 0, slots := 0, locals := 13 } : Room).slots) := by
  refine MetFree.of_bodySF (plainFor_of_name own_pn2) hisR ?_
  intro p e s m args below meth c s₁ Bd hml0 hP hK
  obtain ⟨rfl, hZ, hh⟩ := hP
  have hx := Bd.exec
  have hby := Bd.bytes
  have hml : c.maxLocals = 1 := hml0
  have hown : s.vm.findClass "java/lang/String" = some m.cls := findClass_of_methodNamed Bd.named
  have hnm := (name_of_methodNamed Bd.named Bd.method).1
  have X0 : Stand p l e ({ frames := 1, cells := 0, slots := 0, locals := 13 } : Room) s m #[(.ref (A 7))] below meth c s₁ [] 0 0 := Stand.of_body Bd
  have e0 : s₁.heap = h0 := by rw [← hh, Bd.state]; rfl
  have N0 := Fr.nil n0
  have pre0 : ∀ t, Steps p.tables e below (s₁.setTop (mkF m 0 #[.val (.ref (A 7))] [])) t → Steps p.tables e below (s₁.setTop (entryFrame m #[(.ref (A 7))] 1)) t := fun t k => castTop (own_ef_rm29 m p1 A K cs ) k
  have KK0 : Keep h0 h0 [] := Keep.refl _ _
  obtain ⟨T127, X127, e127, st127⟩ := getF X0 hx hZ hown (host := "") (Or.inl (hw _ (List.mem_of_getElem? (i := 28) rfl))) Via.refl e0 (EN.2.2.2.1.2.2.1.ext OL0.2) (g := (mkF m 1 #[.val (.ref (A 7))] [(.ref (A 7))])) rfl rfl (hb hby own_d_jdk_42_method_54_code_1)
  obtain ⟨cl128, Ar128, -, Sz128, Nn128, -, -⟩ := (id (EN.2.2.2.1.2.2.2.1.ext OL0.2))
  obtain ⟨cq131, kq131, q131a, q131b, q131c⟩ := isOf hZ e127 (EN.2.1.2.2.2.2.2.2.2.1.ext OL0.2)
  obtain ⟨_, _, ⟨T131, L131, k131, n131⟩, -, X131, ⟨Lc131, hQ131, l131, y131, z131⟩, st131⟩ := X127.virtualBack hx (y := own_m4) (z := own_m4) hown (mvT hZ (hw _ (List.mem_of_getElem? (i := 38) rfl))) (mvT hZ (hw _ (List.mem_of_getElem? (i := 39) rfl))) (notFace_of_selects (args := #[]) (mvT hZ (hw _ (List.mem_of_getElem? (i := 41) rfl)))) (mvT hZ (hw _ (List.mem_of_getElem? (i := 41) rfl))) (mvT hZ (hw _ (List.mem_of_getElem? (i := 40) rfl))) (by decide) (backOf (W := 1) (rm30 l Z a0 hw [] h0 n0 p1 A K cs EN OL0) hZ (hw _ (List.mem_of_getElem? (i := 42) rfl)) (hw _ (List.mem_of_getElem? (i := 12) rfl)) (by decide) (by decide)) q131a q131c (g := (mkF m 6 #[.val (.ref (A 7))] [(.ref (A 7)), (.int (2 : Int32))])) rfl (by rw [hml]; rfl) (Steps.refl _) (argsL := []) (rest := [(.int (2 : Int32))]) (lenOf own_pd3 rfl) rfl (by show 2 * 0 + _ ≤ _; exact Nat.le_of_eq rfl) (hb hby own_d_jdk_42_method_54_code_6) (fun _ _ => ⟨rfl, e127, (by decide : 0 + 0 ≤ _), (by decide : 0 + 0 ≤ _)⟩)
  dsimp only [Pt.U, Pt.locs, Pt.cells, Pt.slots] at X131 l131 y131 z131 st131 hQ131
  subst l131 y131 z131
  obtain ⟨rfl, N131q, e131⟩ := hQ131
  have N131 := Fr.app N0 N131q
  obtain ⟨fs, hr, hrun, hended, hW, hsame⟩ := X131.leave (v := some (.int (2 : Int32))) (fun h => by rw [Bd.returns] at h; cases h)
  refine ⟨_, _, pre0 _ ?_, hrun, hended, _, _, rfl, ?_, ⟨_, rfl⟩, hW, hsame.mono (by decide) (by decide)⟩
  · show Steps p.tables e below (s₁.setTop (mkF m 0 #[.val (.ref (A 7))] [])) _
    refine XS.aloadN X0.here hx rfl (hb hby own_d_jdk_42_method_54_code_0) rfl rfl ?_
    show Steps p.tables e below (s₁.setTop (mkF m 1 #[.val (.ref (A 7))] [(.ref (A 7))])) _
    refine st127 _ ?_
    show Steps p.tables e below (T127.setTop (mkF m 4 #[.val (.ref (A 7))] [(.ref (A 13))])) _
    refine X127.arraylength hx (by rw [e127]; exact Ar128.1) (State.isArrayOf_alike hZ.alike Ar128.2.1) (g := (mkF m 4 #[.val (.ref (A 7))] [(.ref (A 13))])) rfl rfl (hb hby own_d_jdk_42_method_54_code_4) _ ?_
    rw [len_of Sz128 Nn128]
    show Steps p.tables e below (T127.setTop (mkF m 5 #[.val (.ref (A 7))] [(.int (2 : Int32))])) _
    refine XS.aloadN X127.here hx rfl (hb hby own_d_jdk_42_method_54_code_5) rfl rfl ?_
    show Steps p.tables e below (T127.setTop (mkF m 6 #[.val (.ref (A 7))] [(.ref (A 7)), (.int (2 : Int32))])) _
    refine st131.trans ?_
    show Steps p.tables e below (T131.setTop (mkF m 9 #[.val (.ref (A 7))] [(.int (0 : Int32)), (.int (2 : Int32))])) _
    refine XS.ishr X131.here hx rfl (hb hby own_d_jdk_42_method_54_code_9) rfl ?_
    show Steps p.tables e below (T131.setTop (mkF m 10 #[.val (.ref (A 7))] [(.int (2 : Int32))])) _
    exact retI X131 hx Bd.returns (hb hby own_d_jdk_42_method_54_code_10) hr
  · show PQ (some (.int (2 : Int32))) h0 n0 _ T131.heap _
    rw [e131]
    exact ⟨rfl, N131, rfl⟩
theorem own_ef_rm32 (m : MethodId) (p1 : Int32) (A : Nat → Addr) (K : Nat → ClassId) (cs : Int32)  : entryFrame m #[(.ref (A 7))] 1 = mkF m 0 #[.val (.ref (A 7))] [] := by first | (simp [entryFrame, mkF, argsToLocals, Value.category, maxLocals]; done) | rfl
set_option maxRecDepth 65536 in
set_option maxHeartbeats 40000000 in
theorem rm32 (l : Launch) (Z : State) (a0 : Array Value) (hw : ∀ d ∈ tables_1, d.before a0 Z = true) (ws : List Jvm.Cond) (h0 : Heap) (n0 : Nat) (p1 : Int32) (A : Nat → Addr) (K : Nat → ClassId) (cs : Int32)  (EN : own_St Z A K cs) (OL0 : Old Z n0 h0) :
    MetFree l own_m6 (head1 (Jvm.Cond.code own_m6 jdk_42_method_154_code 1 (some .boolean) :: ws) ({ frames := 0, cells := 0, slots := 0, locals := 0 } : Room)) (fun a U => a = #[(.ref (A 7))] ∧ Z.Warmed39 U.vm ∧ U.heap = h0) (fun _ _ _ _ _ => True) (fun _ U o U' => ∃ v L, o = .returned v ∧ (PQ (some (.int (1 : Int32))) h0 n0) v U'.heap L ∧ FrameEnd U o U' L ({ frames := 0, cells := 0, slots := 0, locals := 0 } : Room).cells ({ frames := 0, cells := 0, slots := 0, locals := 0 } : Room).slots) := by
  refine MetFree.of_bodySF (plainFor_of_name own_pn2) hisR ?_
  intro p e s m args below meth c s₁ Bd hml0 hP hK
  obtain ⟨rfl, hZ, hh⟩ := hP
  have hx := Bd.exec
  have hby := Bd.bytes
  have hml : c.maxLocals = 1 := hml0
  have hown : s.vm.findClass "java/lang/String" = some m.cls := findClass_of_methodNamed Bd.named
  have hnm := (name_of_methodNamed Bd.named Bd.method).1
  have X0 : Stand p l e ({ frames := 0, cells := 0, slots := 0, locals := 0 } : Room) s m #[(.ref (A 7))] below meth c s₁ [] 0 0 := Stand.of_body Bd
  have e0 : s₁.heap = h0 := by rw [← hh, Bd.state]; rfl
  have N0 := Fr.nil n0
  have pre0 : ∀ t, Steps p.tables e below (s₁.setTop (mkF m 0 #[.val (.ref (A 7))] [])) t → Steps p.tables e below (s₁.setTop (entryFrame m #[(.ref (A 7))] 1)) t := fun t k => castTop (own_ef_rm32 m p1 A K cs ) k
  have KK0 : Keep h0 h0 [] := Keep.refl _ _
  obtain ⟨T133, X133, e133, st133⟩ := getS2 X0 hx hZ hown (host := "") (Or.inl (hw _ (List.mem_of_getElem? (i := 26) rfl))) Via.refl e0 (EN.2.2.2.2.1.2.2.2.2.1.ext OL0.2) (g := (mkF m 0 #[.val (.ref (A 7))] [])) rfl (hb hby own_d_jdk_42_method_154_code_0)
  obtain ⟨T134, X134, e134, st134⟩ := getF X133 hx hZ hown (host := "") (Or.inl (hw _ (List.mem_of_getElem? (i := 27) rfl))) Via.refl e133 (EN.2.2.2.2.2.1.1.ext OL0.2) (g := (mkF m 7 #[.val (.ref (A 7))] [(.ref (A 7))])) rfl rfl (hb hby own_d_jdk_42_method_154_code_7)
  obtain ⟨fs, hr, hrun, hended, hW, hsame⟩ := X134.leave (v := some (.int (1 : Int32))) (fun h => by rw [Bd.returns] at h; cases h)
  refine ⟨_, _, pre0 _ ?_, hrun, hended, _, _, rfl, ?_, ⟨_, rfl⟩, hW, hsame.mono (by decide) (by decide)⟩
  · show Steps p.tables e below (s₁.setTop (mkF m 0 #[.val (.ref (A 7))] [])) _
    refine st133 _ ?_
    show Steps p.tables e below (T133.setTop (mkF m 3 #[.val (.ref (A 7))] [(.int cs)])) _
    refine XS.ifNo X133.here hx rfl (hb hby own_d_jdk_42_method_154_code_3) rfl ((if0 _ _).trans (feq EN.2.2.2.2.1.2.2.2.2.2.1).1) ?_
    show Steps p.tables e below (T133.setTop (mkF m 6 #[.val (.ref (A 7))] [])) _
    refine XS.aloadN X133.here hx rfl (hb hby own_d_jdk_42_method_154_code_6) rfl rfl ?_
    show Steps p.tables e below (T133.setTop (mkF m 7 #[.val (.ref (A 7))] [(.ref (A 7))])) _
    refine st134 _ ?_
    show Steps p.tables e below (T134.setTop (mkF m 10 #[.val (.ref (A 7))] [(.int (0 : Int32))])) _
    refine XS.ifNo X134.here hx rfl (hb hby own_d_jdk_42_method_154_code_10) rfl ((if0 _ _).trans (teq (by decide : (0 : Int32) = (0 : Int32))).2) ?_
    show Steps p.tables e below (T134.setTop (mkF m 13 #[.val (.ref (A 7))] [])) _
    refine XS.iconst X134.here hx rfl (hb hby own_d_jdk_42_method_154_code_13) ?_
    show Steps p.tables e below (T134.setTop (mkF m 14 #[.val (.ref (A 7))] [(.int (1 : Int32))])) _
    refine XS.goto X134.here hx rfl (pc0 := 14) (pc' := 18) rfl (hb hby own_d_jdk_42_method_154_code_14) (by decide) (by decide) ?_
    show Steps p.tables e below (T134.setTop (mkF m 18 #[.val (.ref (A 7))] [(.int (1 : Int32))])) _
    exact retN X134 hx (t := .boolean) Bd.returns (by simp) (hb hby own_d_jdk_42_method_154_code_18) hr
  · show PQ (some (.int (1 : Int32))) h0 n0 _ T134.heap _
    rw [e134]
    exact ⟨rfl, N0, rfl⟩
theorem own_ef_rm35 (m : MethodId) (p1 : Int32) (A : Nat → Addr) (K : Nat → ClassId) (cs : Int32)  : entryFrame m #[(.int (0 : Int32)), (.int (2 : Int32)), .null] 3 = mkF m 0 #[.val (.int (0 : Int32)), .val (.int (2 : Int32)), .val .null] [] := by first | (simp [entryFrame, mkF, argsToLocals, Value.category, maxLocals]; done) | rfl
set_option maxRecDepth 65536 in
set_option maxHeartbeats 40000000 in
theorem rm35 (l : Launch) (Z : State) (a0 : Array Value) (hw : ∀ d ∈ tables_1, d.before a0 Z = true) (ws : List Jvm.Cond) (h0 : Heap) (n0 : Nat) (p1 : Int32) (A : Nat → Addr) (K : Nat → ClassId) (cs : Int32)  (EN : own_St Z A K cs) (OL0 : Old Z n0 h0) :
    MetFree l own_m9 (head1 (Jvm.Cond.code own_m9 jdk_41_method_11_code 3 (some .int) :: ws) ({ frames := 0, cells := 0, slots := 0, locals := 0 } : Room)) (fun a U => a = #[(.int (0 : Int32)), (.int (2 : Int32)), .null] ∧ Z.Warmed39 U.vm ∧ U.heap = h0) (fun _ _ _ _ _ => True) (fun _ U o U' => ∃ v L, o = .returned v ∧ (PQ (some (.int (0 : Int32))) h0 n0) v U'.heap L ∧ FrameEnd U o U' L ({ frames := 0, cells := 0, slots := 0, locals := 0 } : Room).cells ({ frames := 0, cells := 0, slots := 0, locals := 0 } : Room).slots) := by
  refine MetFree.of_bodySF (plainFor_of_name own_pn3) hisR ?_
  intro p e s m args below meth c s₁ Bd hml0 hP hK
  obtain ⟨rfl, hZ, hh⟩ := hP
  have hx := Bd.exec
  have hby := Bd.bytes
  have hml : c.maxLocals = 3 := hml0
  have hown : s.vm.findClass "jdk/internal/util/Preconditions" = some m.cls := findClass_of_methodNamed Bd.named
  have hnm := (name_of_methodNamed Bd.named Bd.method).1
  have X0 : Stand p l e ({ frames := 0, cells := 0, slots := 0, locals := 0 } : Room) s m #[(.int (0 : Int32)), (.int (2 : Int32)), .null] below meth c s₁ [] 0 0 := Stand.of_body Bd
  have e0 : s₁.heap = h0 := by rw [← hh, Bd.state]; rfl
  have N0 := Fr.nil n0
  have pre0 : ∀ t, Steps p.tables e below (s₁.setTop (mkF m 0 #[.val (.int (0 : Int32)), .val (.int (2 : Int32)), .val .null] [])) t → Steps p.tables e below (s₁.setTop (entryFrame m #[(.int (0 : Int32)), (.int (2 : Int32)), .null] 3)) t := fun t k => castTop (own_ef_rm35 m p1 A K cs ) k
  have KK0 : Keep h0 h0 [] := Keep.refl _ _
  obtain ⟨fs, hr, hrun, hended, hW, hsame⟩ := X0.leave (v := some (.int (0 : Int32))) (fun h => by rw [Bd.returns] at h; cases h)
  refine ⟨_, _, pre0 _ ?_, hrun, hended, _, _, rfl, ?_, ⟨_, rfl⟩, hW, hsame.mono (by decide) (by decide)⟩
  · show Steps p.tables e below (s₁.setTop (mkF m 0 #[.val (.int (0 : Int32)), .val (.int (2 : Int32)), .val .null] [])) _
    refine XS.iloadN X0.here hx rfl (hb hby own_d_jdk_41_method_11_code_0) rfl ?_
    show Steps p.tables e below (s₁.setTop (mkF m 1 #[.val (.int (0 : Int32)), .val (.int (2 : Int32)), .val .null] [(.int (0 : Int32))])) _
    refine XS.ifNo X0.here hx rfl (hb hby own_d_jdk_41_method_11_code_1) rfl ((if0 _ _).trans (flt (by decide : ¬ ((0 : Int32) < (0 : Int32)))).1) ?_
    show Steps p.tables e below (s₁.setTop (mkF m 4 #[.val (.int (0 : Int32)), .val (.int (2 : Int32)), .val .null] [])) _
    refine XS.iloadN X0.here hx rfl (hb hby own_d_jdk_41_method_11_code_4) rfl ?_
    show Steps p.tables e below (s₁.setTop (mkF m 5 #[.val (.int (0 : Int32)), .val (.int (2 : Int32)), .val .null] [(.int (0 : Int32))])) _
    refine XS.iloadN X0.here hx rfl (hb hby own_d_jdk_41_method_11_code_5) rfl ?_
    show Steps p.tables e below (s₁.setTop (mkF m 6 #[.val (.int (0 : Int32)), .val (.int (2 : Int32)), .val .null] [(.int (2 : Int32)), (.int (0 : Int32))])) _
    refine XS.icmpYes X0.here hx rfl (pc0 := 6) (pc' := 16) rfl (hb hby own_d_jdk_41_method_11_code_6) rfl (tlt (by decide : (0 : Int32) < (2 : Int32))).1 (by decide) (by decide) ?_
    show Steps p.tables e below (s₁.setTop (mkF m 16 #[.val (.int (0 : Int32)), .val (.int (2 : Int32)), .val .null] [])) _
    refine XS.iloadN X0.here hx rfl (hb hby own_d_jdk_41_method_11_code_16) rfl ?_
    show Steps p.tables e below (s₁.setTop (mkF m 17 #[.val (.int (0 : Int32)), .val (.int (2 : Int32)), .val .null] [(.int (0 : Int32))])) _
    exact retI X0 hx Bd.returns (hb hby own_d_jdk_41_method_11_code_17) hr
  · show PQ (some (.int (0 : Int32))) h0 n0 _ s₁.heap _
    rw [e0]
    exact ⟨rfl, N0, rfl⟩
theorem own_ef_rm36 (m : MethodId) (p1 : Int32) (A : Nat → Addr) (K : Nat → ClassId) (cs : Int32)  (af139 : Addr) : entryFrame m #[(.int (0 : Int32)), (.int (2 : Int32)), (.ref af139)] 3 = mkF m 0 #[.val (.int (0 : Int32)), .val (.int (2 : Int32)), .val (.ref af139)] [] := by first | (simp [entryFrame, mkF, argsToLocals, Value.category, maxLocals]; done) | rfl
set_option maxRecDepth 65536 in
set_option maxHeartbeats 40000000 in
theorem rm36 (l : Launch) (Z : State) (a0 : Array Value) (hw : ∀ d ∈ tables_1, d.before a0 Z = true) (ws : List Jvm.Cond) (h0 : Heap) (n0 : Nat) (p1 : Int32) (A : Nat → Addr) (K : Nat → ClassId) (cs : Int32)  (af139 : Addr) (EN : own_St Z A K cs) (OL0 : Old Z n0 h0) :
    MetFree l own_m9 (head1 (Jvm.Cond.code own_m9 jdk_41_method_11_code 3 (some .int) :: ws) ({ frames := 0, cells := 0, slots := 0, locals := 0 } : Room)) (fun a U => a = #[(.int (0 : Int32)), (.int (2 : Int32)), (.ref af139)] ∧ Z.Warmed39 U.vm ∧ U.heap = h0) (fun _ _ _ _ _ => True) (fun _ U o U' => ∃ v L, o = .returned v ∧ (PQ (some (.int (0 : Int32))) h0 n0) v U'.heap L ∧ FrameEnd U o U' L ({ frames := 0, cells := 0, slots := 0, locals := 0 } : Room).cells ({ frames := 0, cells := 0, slots := 0, locals := 0 } : Room).slots) := by
  refine MetFree.of_bodySF (plainFor_of_name own_pn3) hisR ?_
  intro p e s m args below meth c s₁ Bd hml0 hP hK
  obtain ⟨rfl, hZ, hh⟩ := hP
  have hx := Bd.exec
  have hby := Bd.bytes
  have hml : c.maxLocals = 3 := hml0
  have hown : s.vm.findClass "jdk/internal/util/Preconditions" = some m.cls := findClass_of_methodNamed Bd.named
  have hnm := (name_of_methodNamed Bd.named Bd.method).1
  have X0 : Stand p l e ({ frames := 0, cells := 0, slots := 0, locals := 0 } : Room) s m #[(.int (0 : Int32)), (.int (2 : Int32)), (.ref af139)] below meth c s₁ [] 0 0 := Stand.of_body Bd
  have e0 : s₁.heap = h0 := by rw [← hh, Bd.state]; rfl
  have N0 := Fr.nil n0
  have pre0 : ∀ t, Steps p.tables e below (s₁.setTop (mkF m 0 #[.val (.int (0 : Int32)), .val (.int (2 : Int32)), .val (.ref af139)] [])) t → Steps p.tables e below (s₁.setTop (entryFrame m #[(.int (0 : Int32)), (.int (2 : Int32)), (.ref af139)] 3)) t := fun t k => castTop (own_ef_rm36 m p1 A K cs af139) k
  have KK0 : Keep h0 h0 [] := Keep.refl _ _
  obtain ⟨fs, hr, hrun, hended, hW, hsame⟩ := X0.leave (v := some (.int (0 : Int32))) (fun h => by rw [Bd.returns] at h; cases h)
  refine ⟨_, _, pre0 _ ?_, hrun, hended, _, _, rfl, ?_, ⟨_, rfl⟩, hW, hsame.mono (by decide) (by decide)⟩
  · show Steps p.tables e below (s₁.setTop (mkF m 0 #[.val (.int (0 : Int32)), .val (.int (2 : Int32)), .val (.ref af139)] [])) _
    refine XS.iloadN X0.here hx rfl (hb hby own_d_jdk_41_method_11_code_0) rfl ?_
    show Steps p.tables e below (s₁.setTop (mkF m 1 #[.val (.int (0 : Int32)), .val (.int (2 : Int32)), .val (.ref af139)] [(.int (0 : Int32))])) _
    refine XS.ifNo X0.here hx rfl (hb hby own_d_jdk_41_method_11_code_1) rfl ((if0 _ _).trans (flt (by decide : ¬ ((0 : Int32) < (0 : Int32)))).1) ?_
    show Steps p.tables e below (s₁.setTop (mkF m 4 #[.val (.int (0 : Int32)), .val (.int (2 : Int32)), .val (.ref af139)] [])) _
    refine XS.iloadN X0.here hx rfl (hb hby own_d_jdk_41_method_11_code_4) rfl ?_
    show Steps p.tables e below (s₁.setTop (mkF m 5 #[.val (.int (0 : Int32)), .val (.int (2 : Int32)), .val (.ref af139)] [(.int (0 : Int32))])) _
    refine XS.iloadN X0.here hx rfl (hb hby own_d_jdk_41_method_11_code_5) rfl ?_
    show Steps p.tables e below (s₁.setTop (mkF m 6 #[.val (.int (0 : Int32)), .val (.int (2 : Int32)), .val (.ref af139)] [(.int (2 : Int32)), (.int (0 : Int32))])) _
    refine XS.icmpYes X0.here hx rfl (pc0 := 6) (pc' := 16) rfl (hb hby own_d_jdk_41_method_11_code_6) rfl (tlt (by decide : (0 : Int32) < (2 : Int32))).1 (by decide) (by decide) ?_
    show Steps p.tables e below (s₁.setTop (mkF m 16 #[.val (.int (0 : Int32)), .val (.int (2 : Int32)), .val (.ref af139)] [])) _
    refine XS.iloadN X0.here hx rfl (hb hby own_d_jdk_41_method_11_code_16) rfl ?_
    show Steps p.tables e below (s₁.setTop (mkF m 17 #[.val (.int (0 : Int32)), .val (.int (2 : Int32)), .val (.ref af139)] [(.int (0 : Int32))])) _
    exact retI X0 hx Bd.returns (hb hby own_d_jdk_41_method_11_code_17) hr
  · show PQ (some (.int (0 : Int32))) h0 n0 _ s₁.heap _
    rw [e0]
    exact ⟨rfl, N0, rfl⟩
theorem own_ef_rm34 (m : MethodId) (p1 : Int32) (A : Nat → Addr) (K : Nat → ClassId) (cs : Int32)  : entryFrame m #[(.int (0 : Int32)), (.int (2 : Int32))] 2 = mkF m 0 #[.val (.int (0 : Int32)), .val (.int (2 : Int32))] [] := by first | (simp [entryFrame, mkF, argsToLocals, Value.category, maxLocals]; done) | rfl
set_option maxRecDepth 65536 in
set_option maxHeartbeats 40000000 in
theorem rm34 (l : Launch) (Z : State) (a0 : Array Value) (hw : ∀ d ∈ tables_1, d.before a0 Z = true) (ws : List Jvm.Cond) (h0 : Heap) (n0 : Nat) (p1 : Int32) (A : Nat → Addr) (K : Nat → ClassId) (cs : Int32)  (EN : own_St Z A K cs) (OL0 : Old Z n0 h0) :
    MetFree l own_m10 (head1 (Jvm.Cond.code own_m10 jdk_42_method_155_code 2 none :: ws) ({ frames := 1, cells := 0, slots := 0, locals := 14 } : Room)) (fun a U => a = #[(.int (0 : Int32)), (.int (2 : Int32))] ∧ Z.Warmed39 U.vm ∧ U.heap = h0) (fun _ _ _ _ _ => True) (fun _ U o U' => ∃ v L, o = .returned v ∧ (PQ none h0 n0) v U'.heap L ∧ FrameEnd U o U' L ({ frames := 1, cells := 0, slots := 0, locals := 14 } : Room).cells ({ frames := 1, cells := 0, slots := 0, locals := 14 } : Room).slots) := by
  refine MetFree.of_bodySF (plainFor_of_name own_pn2) hisR ?_
  intro p e s m args below meth c s₁ Bd hml0 hP hK
  obtain ⟨rfl, hZ, hh⟩ := hP
  have hx := Bd.exec
  have hby := Bd.bytes
  have hml : c.maxLocals = 2 := hml0
  have hown : s.vm.findClass "java/lang/String" = some m.cls := findClass_of_methodNamed Bd.named
  have hnm := (name_of_methodNamed Bd.named Bd.method).1
  have X0 : Stand p l e ({ frames := 1, cells := 0, slots := 0, locals := 14 } : Room) s m #[(.int (0 : Int32)), (.int (2 : Int32))] below meth c s₁ [] 0 0 := Stand.of_body Bd
  have e0 : s₁.heap = h0 := by rw [← hh, Bd.state]; rfl
  have N0 := Fr.nil n0
  have pre0 : ∀ t, Steps p.tables e below (s₁.setTop (mkF m 0 #[.val (.int (0 : Int32)), .val (.int (2 : Int32))] [])) t → Steps p.tables e below (s₁.setTop (entryFrame m #[(.int (0 : Int32)), (.int (2 : Int32))] 2)) t := fun t k => castTop (own_ef_rm34 m p1 A K cs ) k
  have KK0 : Keep h0 h0 [] := Keep.refl _ _
  have pre138 : ∀ t, Steps p.tables e below (s₁.setTop (mkF m 2 #[.val (.int (0 : Int32)), .val (.int (2 : Int32))] [(.int (2 : Int32)), (.int (0 : Int32))])) t → Steps p.tables e below (s₁.setTop (entryFrame m #[(.int (0 : Int32)), (.int (2 : Int32))] 2)) t := fun t k => pre0 t (by
    show Steps p.tables e below (s₁.setTop (mkF m 0 #[.val (.int (0 : Int32)), .val (.int (2 : Int32))] [])) _
    refine XS.iloadN X0.here hx rfl (hb hby own_d_jdk_42_method_155_code_0) rfl ?_
    show Steps p.tables e below (s₁.setTop (mkF m 1 #[.val (.int (0 : Int32)), .val (.int (2 : Int32))] [(.int (0 : Int32))])) _
    refine XS.iloadN X0.here hx rfl (hb hby own_d_jdk_42_method_155_code_1) rfl ?_
    exact k)
  rcases EN.2.2.2.2.1.2.2.2.2.2.2.1 with SF139 | ⟨af139, SF139⟩
  · obtain ⟨T140, X140, e140, st140⟩ := getS2 X0 hx hZ hown (host := "") (Or.inl (hw _ (List.mem_of_getElem? (i := 59) rfl))) Via.refl e0 (SF139.ext OL0.2) (g := (mkF m 2 #[.val (.int (0 : Int32)), .val (.int (2 : Int32))] [(.int (2 : Int32)), (.int (0 : Int32))])) rfl (hb hby own_d_jdk_42_method_155_code_2)
    obtain ⟨_, _, ⟨T141, L141, k141, n141⟩, -, X141, ⟨Lc141, hQ141, l141, y141, z141⟩, st141⟩ := Jvm.LawKit.callS X140 hx (y := own_m9) hown (mvT hZ (hw _ (List.mem_of_getElem? (i := 61) rfl))) (mvT hZ (hw _ (List.mem_of_getElem? (i := 62) rfl))) (mvT hZ (hw _ (List.mem_of_getElem? (i := 60) rfl))) (mvT hZ (hw _ (List.mem_of_getElem? (i := 63) rfl))) (by decide) (backOf (W := 0) (rm35 l Z a0 hw [] h0 n0 p1 A K cs EN OL0) hZ (hw _ (List.mem_of_getElem? (i := 63) rfl)) (hw _ (List.mem_of_getElem? (i := 60) rfl)) (by decide) (by decide)) (g := (mkF m 5 #[.val (.int (0 : Int32)), .val (.int (2 : Int32))] [.null, (.int (2 : Int32)), (.int (0 : Int32))])) rfl (by rw [hml]; rfl) (argsL := [(.int (0 : Int32)), (.int (2 : Int32)), .null]) (rest := []) (lenOf own_pd6 rfl) rfl (by show 2 * 0 + _ ≤ _; exact Nat.le_of_eq rfl) (hb hby own_d_jdk_42_method_155_code_5) (fun _ _ => ⟨rfl, e140, (by decide : 0 + 0 ≤ _), (by decide : 0 + 0 ≤ _)⟩)
    dsimp only [Pt.U, Pt.locs, Pt.cells, Pt.slots] at X141 l141 y141 z141 st141 hQ141
    subst l141 y141 z141
    obtain ⟨rfl, N141q, e141⟩ := hQ141
    have N141 := Fr.app N0 N141q
    obtain ⟨fs, hr, hrun, hended, hW, hsame⟩ := X141.leave (v := none) (fun _ => rfl)
    refine ⟨_, _, pre138 _ ?_, hrun, hended, _, _, rfl, ?_, ⟨_, rfl⟩, hW, hsame.mono (by decide) (by decide)⟩
    · show Steps p.tables e below (s₁.setTop (mkF m 2 #[.val (.int (0 : Int32)), .val (.int (2 : Int32))] [(.int (2 : Int32)), (.int (0 : Int32))])) _
      refine st140 _ ?_
      show Steps p.tables e below (T140.setTop (mkF m 5 #[.val (.int (0 : Int32)), .val (.int (2 : Int32))] [.null, (.int (2 : Int32)), (.int (0 : Int32))])) _
      refine st141 _ ?_
      show Steps p.tables e below (T141.setTop (mkF m 8 #[.val (.int (0 : Int32)), .val (.int (2 : Int32))] [(.int (0 : Int32))])) _
      refine XS.pop X141.here hx rfl (hb hby own_d_jdk_42_method_155_code_8) rfl rfl ?_
      show Steps p.tables e below (T141.setTop (mkF m 9 #[.val (.int (0 : Int32)), .val (.int (2 : Int32))] [])) _
      exact X141.returnOut hx Bd.returns (hb hby own_d_jdk_42_method_155_code_9) hr
    · show PQ none h0 n0 _ T141.heap _
      rw [e141]
      exact ⟨rfl, N141, rfl⟩
  · obtain ⟨T142, X142, e142, st142⟩ := getS2 X0 hx hZ hown (host := "") (Or.inl (hw _ (List.mem_of_getElem? (i := 59) rfl))) Via.refl e0 (SF139.ext OL0.2) (g := (mkF m 2 #[.val (.int (0 : Int32)), .val (.int (2 : Int32))] [(.int (2 : Int32)), (.int (0 : Int32))])) rfl (hb hby own_d_jdk_42_method_155_code_2)
    obtain ⟨_, _, ⟨T143, L143, k143, n143⟩, -, X143, ⟨Lc143, hQ143, l143, y143, z143⟩, st143⟩ := Jvm.LawKit.callS X142 hx (y := own_m9) hown (mvT hZ (hw _ (List.mem_of_getElem? (i := 61) rfl))) (mvT hZ (hw _ (List.mem_of_getElem? (i := 62) rfl))) (mvT hZ (hw _ (List.mem_of_getElem? (i := 60) rfl))) (mvT hZ (hw _ (List.mem_of_getElem? (i := 63) rfl))) (by decide) (backOf (W := 0) (rm36 l Z a0 hw [] h0 n0 p1 A K cs af139 EN OL0) hZ (hw _ (List.mem_of_getElem? (i := 63) rfl)) (hw _ (List.mem_of_getElem? (i := 60) rfl)) (by decide) (by decide)) (g := (mkF m 5 #[.val (.int (0 : Int32)), .val (.int (2 : Int32))] [(.ref af139), (.int (2 : Int32)), (.int (0 : Int32))])) rfl (by rw [hml]; rfl) (argsL := [(.int (0 : Int32)), (.int (2 : Int32)), (.ref af139)]) (rest := []) (lenOf own_pd6 rfl) rfl (by show 2 * 0 + _ ≤ _; exact Nat.le_of_eq rfl) (hb hby own_d_jdk_42_method_155_code_5) (fun _ _ => ⟨rfl, e142, (by decide : 0 + 0 ≤ _), (by decide : 0 + 0 ≤ _)⟩)
    dsimp only [Pt.U, Pt.locs, Pt.cells, Pt.slots] at X143 l143 y143 z143 st143 hQ143
    subst l143 y143 z143
    obtain ⟨rfl, N143q, e143⟩ := hQ143
    have N143 := Fr.app N0 N143q
    obtain ⟨fs, hr, hrun, hended, hW, hsame⟩ := X143.leave (v := none) (fun _ => rfl)
    refine ⟨_, _, pre138 _ ?_, hrun, hended, _, _, rfl, ?_, ⟨_, rfl⟩, hW, hsame.mono (by decide) (by decide)⟩
    · show Steps p.tables e below (s₁.setTop (mkF m 2 #[.val (.int (0 : Int32)), .val (.int (2 : Int32))] [(.int (2 : Int32)), (.int (0 : Int32))])) _
      refine st142 _ ?_
      show Steps p.tables e below (T142.setTop (mkF m 5 #[.val (.int (0 : Int32)), .val (.int (2 : Int32))] [(.ref af139), (.int (2 : Int32)), (.int (0 : Int32))])) _
      refine st143 _ ?_
      show Steps p.tables e below (T143.setTop (mkF m 8 #[.val (.int (0 : Int32)), .val (.int (2 : Int32))] [(.int (0 : Int32))])) _
      refine XS.pop X143.here hx rfl (hb hby own_d_jdk_42_method_155_code_8) rfl rfl ?_
      show Steps p.tables e below (T143.setTop (mkF m 9 #[.val (.int (0 : Int32)), .val (.int (2 : Int32))] [])) _
      exact X143.returnOut hx Bd.returns (hb hby own_d_jdk_42_method_155_code_9) hr
    · show PQ none h0 n0 _ T143.heap _
      rw [e143]
      exact ⟨rfl, N143, rfl⟩
theorem own_ef_rm33 (m : MethodId) (p1 : Int32) (A : Nat → Addr) (K : Nat → ClassId) (cs : Int32)  : entryFrame m #[(.ref (A 13)), (.int (0 : Int32))] 2 = mkF m 0 #[.val (.ref (A 13)), .val (.int (0 : Int32))] [] := by first | (simp [entryFrame, mkF, argsToLocals, Value.category, maxLocals]; done) | rfl
set_option maxRecDepth 65536 in
set_option maxHeartbeats 40000000 in
theorem rm33 (l : Launch) (Z : State) (a0 : Array Value) (hw : ∀ d ∈ tables_1, d.before a0 Z = true) (ws : List Jvm.Cond) (h0 : Heap) (n0 : Nat) (p1 : Int32) (A : Nat → Addr) (K : Nat → ClassId) (cs : Int32)  (EN : own_St Z A K cs) (OL0 : Old Z n0 h0) :
    MetFree l own_m8 (head1 (Jvm.Cond.code own_m8 jdk_43_method_2_code 2 (some .char) :: ws) ({ frames := 2, cells := 0, slots := 0, locals := 27 } : Room)) (fun a U => a = #[(.ref (A 13)), (.int (0 : Int32))] ∧ Z.Warmed39 U.vm ∧ U.heap = h0) (fun _ _ _ _ _ => True) (fun _ U o U' => ∃ v L, o = .returned v ∧ (PQ (some (.int (60 : Int32))) h0 n0) v U'.heap L ∧ FrameEnd U o U' L ({ frames := 2, cells := 0, slots := 0, locals := 27 } : Room).cells ({ frames := 2, cells := 0, slots := 0, locals := 27 } : Room).slots) := by
  refine MetFree.of_bodySF (plainFor_of_name own_pn1) hisR ?_
  intro p e s m args below meth c s₁ Bd hml0 hP hK
  obtain ⟨rfl, hZ, hh⟩ := hP
  have hx := Bd.exec
  have hby := Bd.bytes
  have hml : c.maxLocals = 2 := hml0
  have hown : s.vm.findClass "java/lang/StringLatin1" = some m.cls := findClass_of_methodNamed Bd.named
  have hnm := (name_of_methodNamed Bd.named Bd.method).1
  have X0 : Stand p l e ({ frames := 2, cells := 0, slots := 0, locals := 27 } : Room) s m #[(.ref (A 13)), (.int (0 : Int32))] below meth c s₁ [] 0 0 := Stand.of_body Bd
  have e0 : s₁.heap = h0 := by rw [← hh, Bd.state]; rfl
  have N0 := Fr.nil n0
  have pre0 : ∀ t, Steps p.tables e below (s₁.setTop (mkF m 0 #[.val (.ref (A 13)), .val (.int (0 : Int32))] [])) t → Steps p.tables e below (s₁.setTop (entryFrame m #[(.ref (A 13)), (.int (0 : Int32))] 2)) t := fun t k => castTop (own_ef_rm33 m p1 A K cs ) k
  have KK0 : Keep h0 h0 [] := Keep.refl _ _
  obtain ⟨cl137, Ar137, -, Sz137, Nn137, -, -⟩ := (id (EN.2.2.2.1.2.2.2.1.ext OL0.2))
  obtain ⟨_, _, ⟨T144, L144, k144, n144⟩, -, X144, ⟨Lc144, hQ144, l144, y144, z144⟩, st144⟩ := Jvm.LawKit.callS X0 hx (y := own_m10) hown (mvT hZ (hw _ (List.mem_of_getElem? (i := 56) rfl))) (mvT hZ (hw _ (List.mem_of_getElem? (i := 57) rfl))) (mvT hZ (hw _ (List.mem_of_getElem? (i := 12) rfl))) (mvT hZ (hw _ (List.mem_of_getElem? (i := 58) rfl))) (by decide) (backOf (W := 0) (rm34 l Z a0 hw [] h0 n0 p1 A K cs EN OL0) hZ (hw _ (List.mem_of_getElem? (i := 58) rfl)) (hw _ (List.mem_of_getElem? (i := 12) rfl)) (by decide) (by decide)) (g := (mkF m 3 #[.val (.ref (A 13)), .val (.int (0 : Int32))] [(.int (2 : Int32)), (.int (0 : Int32))])) rfl (by rw [hml]; rfl) (argsL := [(.int (0 : Int32)), (.int (2 : Int32))]) (rest := []) (lenOf own_pd7 rfl) rfl (by show 2 * 0 + _ ≤ _; exact Nat.le_of_eq rfl) (hb hby own_d_jdk_43_method_2_code_3) (fun _ _ => ⟨rfl, e0, (by decide : 0 + 0 ≤ _), (by decide : 0 + 0 ≤ _)⟩)
  dsimp only [Pt.U, Pt.locs, Pt.cells, Pt.slots] at X144 l144 y144 z144 st144 hQ144
  subst l144 y144 z144
  obtain ⟨rfl, N144q, e144⟩ := hQ144
  have N144 := Fr.app N0 N144q
  obtain ⟨cl145, Ar145, q145, Sz145, Nn145, Hh145, Gg145⟩ := (id (EN.2.2.2.1.2.2.2.1.ext OL0.2))
  have hin145 : ¬ ((0 : Int32) < 0 ∨ cl145.slots.size ≤ ((0 : Int32)).toNatClampNeg) := inb_of Sz145 ⟨by decide, by decide⟩
  have hat145 : cl145.slots[((0 : Int32)).toNatClampNeg]? = some (.int (60 : Int32)) := Has.at Hh145 hin145 rfl
  obtain ⟨fs, hr, hrun, hended, hW, hsame⟩ := X144.leave (v := some (.int (60 : Int32))) (fun h => by rw [Bd.returns] at h; cases h)
  refine ⟨_, _, pre0 _ ?_, hrun, hended, _, _, rfl, ?_, ⟨_, rfl⟩, hW, hsame.mono (by decide) (by decide)⟩
  · show Steps p.tables e below (s₁.setTop (mkF m 0 #[.val (.ref (A 13)), .val (.int (0 : Int32))] [])) _
    refine XS.iloadN X0.here hx rfl (hb hby own_d_jdk_43_method_2_code_0) rfl ?_
    show Steps p.tables e below (s₁.setTop (mkF m 1 #[.val (.ref (A 13)), .val (.int (0 : Int32))] [(.int (0 : Int32))])) _
    refine XS.aloadN X0.here hx rfl (hb hby own_d_jdk_43_method_2_code_1) rfl rfl ?_
    show Steps p.tables e below (s₁.setTop (mkF m 2 #[.val (.ref (A 13)), .val (.int (0 : Int32))] [(.ref (A 13)), (.int (0 : Int32))])) _
    refine X0.arraylength hx (by rw [e0]; exact Ar137.1) (State.isArrayOf_alike hZ.alike Ar137.2.1) (g := (mkF m 2 #[.val (.ref (A 13)), .val (.int (0 : Int32))] [(.ref (A 13)), (.int (0 : Int32))])) rfl rfl (hb hby own_d_jdk_43_method_2_code_2) _ ?_
    rw [len_of Sz137 Nn137]
    show Steps p.tables e below (s₁.setTop (mkF m 3 #[.val (.ref (A 13)), .val (.int (0 : Int32))] [(.int (2 : Int32)), (.int (0 : Int32))])) _
    refine st144 _ ?_
    show Steps p.tables e below (T144.setTop (mkF m 6 #[.val (.ref (A 13)), .val (.int (0 : Int32))] [])) _
    refine XS.aloadN X144.here hx rfl (hb hby own_d_jdk_43_method_2_code_6) rfl rfl ?_
    show Steps p.tables e below (T144.setTop (mkF m 7 #[.val (.ref (A 13)), .val (.int (0 : Int32))] [(.ref (A 13))])) _
    refine XS.iloadN X144.here hx rfl (hb hby own_d_jdk_43_method_2_code_7) rfl ?_
    show Steps p.tables e below (T144.setTop (mkF m 8 #[.val (.ref (A 13)), .val (.int (0 : Int32))] [(.int (0 : Int32)), (.ref (A 13))])) _
    refine X144.baloadBytes hx (j := (0 : Int32)) (v := (.int (60 : Int32))) (by rw [e144]; exact Ar145.1) (State.isArrayOf_alike hZ.alike Ar145.2.1) Ar145.2.2 hin145 hat145 (g := (mkF m 8 #[.val (.ref (A 13)), .val (.int (0 : Int32))] [(.int (0 : Int32)), (.ref (A 13))])) rfl rfl (hb hby own_d_jdk_43_method_2_code_8) _ ?_
    show Steps p.tables e below (T144.setTop (mkF m 9 #[.val (.ref (A 13)), .val (.int (0 : Int32))] [(.int (60 : Int32))])) _
    refine XS.sipush X144.here hx rfl (hb hby own_d_jdk_43_method_2_code_9) ?_
    show Steps p.tables e below (T144.setTop (mkF m 12 #[.val (.ref (A 13)), .val (.int (0 : Int32))] [(.int (255 : Int32)), (.int (60 : Int32))])) _
    refine XS.iand X144.here hx rfl (hb hby own_d_jdk_43_method_2_code_12) rfl ?_
    show Steps p.tables e below (T144.setTop (mkF m 13 #[.val (.ref (A 13)), .val (.int (0 : Int32))] [(.int (60 : Int32))])) _
    refine XS.i2c X144.here hx rfl (hb hby own_d_jdk_43_method_2_code_13) rfl ?_
    show Steps p.tables e below (T144.setTop (mkF m 14 #[.val (.ref (A 13)), .val (.int (0 : Int32))] [(.int (60 : Int32))])) _
    exact retN X144 hx (t := .char) Bd.returns (by simp) (hb hby own_d_jdk_43_method_2_code_14) hr
  · show PQ (some (.int (60 : Int32))) h0 n0 _ T144.heap _
    rw [e144]
    exact ⟨rfl, N144, rfl⟩
theorem own_ef_rm31 (m : MethodId) (p1 : Int32) (A : Nat → Addr) (K : Nat → ClassId) (cs : Int32)  : entryFrame m #[(.ref (A 7)), (.int (0 : Int32))] 2 = mkF m 0 #[.val (.ref (A 7)), .val (.int (0 : Int32))] [] := by first | (simp [entryFrame, mkF, argsToLocals, Value.category, maxLocals]; done) | rfl
set_option maxRecDepth 65536 in
set_option maxHeartbeats 40000000 in
theorem rm31 (l : Launch) (Z : State) (a0 : Array Value) (hw : ∀ d ∈ tables_1, d.before a0 Z = true) (ws : List Jvm.Cond) (h0 : Heap) (n0 : Nat) (p1 : Int32) (A : Nat → Addr) (K : Nat → ClassId) (cs : Int32)  (EN : own_St Z A K cs) (OL0 : Old Z n0 h0) :
    MetFree l own_m0 (head1 (Jvm.Cond.code own_m0 jdk_42_method_56_code 2 (some .char) :: ws) ({ frames := 3, cells := 0, slots := 0, locals := 40 } : Room)) (fun a U => a = #[(.ref (A 7)), (.int (0 : Int32))] ∧ Z.Warmed39 U.vm ∧ U.heap = h0) (fun _ _ _ _ _ => True) (fun _ U o U' => ∃ v L, o = .returned v ∧ (PQ (some (.int (60 : Int32))) h0 n0) v U'.heap L ∧ FrameEnd U o U' L ({ frames := 3, cells := 0, slots := 0, locals := 40 } : Room).cells ({ frames := 3, cells := 0, slots := 0, locals := 40 } : Room).slots) := by
  refine MetFree.of_bodySF (plainFor_of_name own_pn2) hisR ?_
  intro p e s m args below meth c s₁ Bd hml0 hP hK
  obtain ⟨rfl, hZ, hh⟩ := hP
  have hx := Bd.exec
  have hby := Bd.bytes
  have hml : c.maxLocals = 2 := hml0
  have hown : s.vm.findClass "java/lang/String" = some m.cls := findClass_of_methodNamed Bd.named
  have hnm := (name_of_methodNamed Bd.named Bd.method).1
  have X0 : Stand p l e ({ frames := 3, cells := 0, slots := 0, locals := 40 } : Room) s m #[(.ref (A 7)), (.int (0 : Int32))] below meth c s₁ [] 0 0 := Stand.of_body Bd
  have e0 : s₁.heap = h0 := by rw [← hh, Bd.state]; rfl
  have N0 := Fr.nil n0
  have pre0 : ∀ t, Steps p.tables e below (s₁.setTop (mkF m 0 #[.val (.ref (A 7)), .val (.int (0 : Int32))] [])) t → Steps p.tables e below (s₁.setTop (entryFrame m #[(.ref (A 7)), (.int (0 : Int32))] 2)) t := fun t k => castTop (own_ef_rm31 m p1 A K cs ) k
  have KK0 : Keep h0 h0 [] := Keep.refl _ _
  obtain ⟨cq135, kq135, q135a, q135b, q135c⟩ := isOf hZ e0 (EN.2.1.2.2.2.2.2.2.2.1.ext OL0.2)
  obtain ⟨_, _, ⟨T135, L135, k135, n135⟩, -, X135, ⟨Lc135, hQ135, l135, y135, z135⟩, st135⟩ := X0.virtualBack hx (y := own_m6) (z := own_m6) hown (mvT hZ (hw _ (List.mem_of_getElem? (i := 48) rfl))) (mvT hZ (hw _ (List.mem_of_getElem? (i := 49) rfl))) (notFace_of_selects (args := #[]) (mvT hZ (hw _ (List.mem_of_getElem? (i := 51) rfl)))) (mvT hZ (hw _ (List.mem_of_getElem? (i := 51) rfl))) (mvT hZ (hw _ (List.mem_of_getElem? (i := 50) rfl))) (by decide) (backOf (W := 0) (rm32 l Z a0 hw [] h0 n0 p1 A K cs EN OL0) hZ (hw _ (List.mem_of_getElem? (i := 52) rfl)) (hw _ (List.mem_of_getElem? (i := 12) rfl)) (by decide) (by decide)) q135a q135c (g := (mkF m 1 #[.val (.ref (A 7)), .val (.int (0 : Int32))] [(.ref (A 7))])) rfl (by rw [hml]; rfl) (Steps.refl _) (argsL := []) (rest := []) (lenOf own_pd5 rfl) rfl (by show 2 * 0 + _ ≤ _; exact Nat.le_of_eq rfl) (hb hby own_d_jdk_42_method_56_code_1) (fun _ _ => ⟨rfl, e0, (by decide : 0 + 0 ≤ _), (by decide : 0 + 0 ≤ _)⟩)
  dsimp only [Pt.U, Pt.locs, Pt.cells, Pt.slots] at X135 l135 y135 z135 st135 hQ135
  subst l135 y135 z135
  obtain ⟨rfl, N135q, e135⟩ := hQ135
  have N135 := Fr.app N0 N135q
  obtain ⟨T136, X136, e136, st136⟩ := getF X135 hx hZ hown (host := "") (Or.inl (hw _ (List.mem_of_getElem? (i := 28) rfl))) Via.refl e135 (EN.2.2.2.1.2.2.1.ext OL0.2) (g := (mkF m 8 #[.val (.ref (A 7)), .val (.int (0 : Int32))] [(.ref (A 7))])) rfl rfl (hb hby own_d_jdk_42_method_56_code_8)
  obtain ⟨_, _, ⟨T146, L146, k146, n146⟩, -, X146, ⟨Lc146, hQ146, l146, y146, z146⟩, st146⟩ := Jvm.LawKit.callS X136 hx (y := own_m8) hown (mvT hZ (hw _ (List.mem_of_getElem? (i := 53) rfl))) (mvT hZ (hw _ (List.mem_of_getElem? (i := 54) rfl))) (mvT hZ (hw _ (List.mem_of_getElem? (i := 31) rfl))) (mvT hZ (hw _ (List.mem_of_getElem? (i := 55) rfl))) (by decide) (backOf (W := 0) (rm33 l Z a0 hw [] h0 n0 p1 A K cs EN OL0) hZ (hw _ (List.mem_of_getElem? (i := 55) rfl)) (hw _ (List.mem_of_getElem? (i := 31) rfl)) (by decide) (by decide)) (g := (mkF m 12 #[.val (.ref (A 7)), .val (.int (0 : Int32))] [(.int (0 : Int32)), (.ref (A 13))])) rfl (by rw [hml]; rfl) (argsL := [(.ref (A 13)), (.int (0 : Int32))]) (rest := []) (lenOf own_pd8 rfl) rfl (by show 2 * 0 + _ ≤ _; exact Nat.le_of_eq rfl) (hb hby own_d_jdk_42_method_56_code_12) (fun _ _ => ⟨rfl, e136, (by decide : 0 + 0 ≤ _), (by decide : 0 + 0 ≤ _)⟩)
  dsimp only [Pt.U, Pt.locs, Pt.cells, Pt.slots] at X146 l146 y146 z146 st146 hQ146
  subst l146 y146 z146
  obtain ⟨rfl, N146q, e146⟩ := hQ146
  have N146 := Fr.app N135 N146q
  obtain ⟨fs, hr, hrun, hended, hW, hsame⟩ := X146.leave (v := some (.int (60 : Int32))) (fun h => by rw [Bd.returns] at h; cases h)
  refine ⟨_, _, pre0 _ ?_, hrun, hended, _, _, rfl, ?_, ⟨_, rfl⟩, hW, hsame.mono (by decide) (by decide)⟩
  · show Steps p.tables e below (s₁.setTop (mkF m 0 #[.val (.ref (A 7)), .val (.int (0 : Int32))] [])) _
    refine XS.aloadN X0.here hx rfl (hb hby own_d_jdk_42_method_56_code_0) rfl rfl ?_
    show Steps p.tables e below (s₁.setTop (mkF m 1 #[.val (.ref (A 7)), .val (.int (0 : Int32))] [(.ref (A 7))])) _
    refine st135.trans ?_
    show Steps p.tables e below (T135.setTop (mkF m 4 #[.val (.ref (A 7)), .val (.int (0 : Int32))] [(.int (1 : Int32))])) _
    refine XS.ifNo X135.here hx rfl (hb hby own_d_jdk_42_method_56_code_4) rfl ((if0 _ _).trans (feq (by decide : ¬ ((1 : Int32) = (0 : Int32)))).1) ?_
    show Steps p.tables e below (T135.setTop (mkF m 7 #[.val (.ref (A 7)), .val (.int (0 : Int32))] [])) _
    refine XS.aloadN X135.here hx rfl (hb hby own_d_jdk_42_method_56_code_7) rfl rfl ?_
    show Steps p.tables e below (T135.setTop (mkF m 8 #[.val (.ref (A 7)), .val (.int (0 : Int32))] [(.ref (A 7))])) _
    refine st136 _ ?_
    show Steps p.tables e below (T136.setTop (mkF m 11 #[.val (.ref (A 7)), .val (.int (0 : Int32))] [(.ref (A 13))])) _
    refine XS.iloadN X136.here hx rfl (hb hby own_d_jdk_42_method_56_code_11) rfl ?_
    show Steps p.tables e below (T136.setTop (mkF m 12 #[.val (.ref (A 7)), .val (.int (0 : Int32))] [(.int (0 : Int32)), (.ref (A 13))])) _
    refine st146 _ ?_
    show Steps p.tables e below (T146.setTop (mkF m 15 #[.val (.ref (A 7)), .val (.int (0 : Int32))] [(.int (60 : Int32))])) _
    exact retN X146 hx (t := .char) Bd.returns (by simp) (hb hby own_d_jdk_42_method_56_code_15) hr
  · show PQ (some (.int (60 : Int32))) h0 n0 _ T146.heap _
    rw [e146]
    exact ⟨rfl, N146, rfl⟩
theorem own_ef_rm37 (m : MethodId) (p1 : Int32) (A : Nat → Addr) (K : Nat → ClassId) (cs : Int32)  : entryFrame m #[(.ref (A 3))] 1 = mkF m 0 #[.val (.ref (A 3))] [] := by first | (simp [entryFrame, mkF, argsToLocals, Value.category, maxLocals]; done) | rfl
set_option maxRecDepth 65536 in
set_option maxHeartbeats 40000000 in
theorem rm37 (l : Launch) (Z : State) (a0 : Array Value) (hw : ∀ d ∈ tables_1, d.before a0 Z = true) (ws : List Jvm.Cond) (h0 : Heap) (n0 : Nat) (p1 : Int32) (A : Nat → Addr) (K : Nat → ClassId) (cs : Int32)  (EN : own_St Z A K cs) (OL0 : Old Z n0 h0) :
    MetFree l own_m3 (head1 (Jvm.Cond.code own_m3 prog_57_method_5_code 1 (some .boolean) :: ws) ({ frames := 0, cells := 0, slots := 0, locals := 0 } : Room)) (fun a U => a = #[(.ref (A 3))] ∧ Z.Warmed39 U.vm ∧ U.heap = h0) (fun _ _ _ _ _ => True) (fun _ U o U' => ∃ v L, o = .returned v ∧ (PQ (some (.int (1 : Int32))) h0 n0) v U'.heap L ∧ FrameEnd U o U' L ({ frames := 0, cells := 0, slots := 0, locals := 0 } : Room).cells ({ frames := 0, cells := 0, slots := 0, locals := 0 } : Room).slots) := by
  refine MetFree.of_bodySF (plainFor_of_name own_pn0) hisR ?_
  intro p e s m args below meth c s₁ Bd hml0 hP hK
  obtain ⟨rfl, hZ, hh⟩ := hP
  have hx := Bd.exec
  have hby := Bd.bytes
  have hml : c.maxLocals = 1 := hml0
  have hown : s.vm.findClass "com/example/cargoweft/cargoweft/core/FlexibleSearch$Operator" = some m.cls := findClass_of_methodNamed Bd.named
  have hnm := (name_of_methodNamed Bd.named Bd.method).1
  have X0 : Stand p l e ({ frames := 0, cells := 0, slots := 0, locals := 0 } : Room) s m #[(.ref (A 3))] below meth c s₁ [] 0 0 := Stand.of_body Bd
  have e0 : s₁.heap = h0 := by rw [← hh, Bd.state]; rfl
  have N0 := Fr.nil n0
  have pre0 : ∀ t, Steps p.tables e below (s₁.setTop (mkF m 0 #[.val (.ref (A 3))] [])) t → Steps p.tables e below (s₁.setTop (entryFrame m #[(.ref (A 3))] 1)) t := fun t k => castTop (own_ef_rm37 m p1 A K cs ) k
  have KK0 : Keep h0 h0 [] := Keep.refl _ _
  obtain ⟨T148, X148, e148, st148⟩ := getS2 X0 hx hZ hown (host := "") (Or.inl (hw _ (List.mem_of_getElem? (i := 69) rfl))) Via.refl e0 (EN.1.1.ext OL0.2) (g := (mkF m 1 #[.val (.ref (A 3))] [(.ref (A 3))])) rfl (hb hby own_d_prog_57_method_5_code_1)
  obtain ⟨T149, X149, e149, st149⟩ := getS2 X148 hx hZ hown (host := "") (Or.inl (hw _ (List.mem_of_getElem? (i := 72) rfl))) Via.refl e148 (EN.1.2.2.1.ext OL0.2) (g := (mkF m 8 #[.val (.ref (A 3))] [(.ref (A 3))])) rfl (hb hby own_d_prog_57_method_5_code_8)
  obtain ⟨fs, hr, hrun, hended, hW, hsame⟩ := X149.leave (v := some (.int (1 : Int32))) (fun h => by rw [Bd.returns] at h; cases h)
  refine ⟨_, _, pre0 _ ?_, hrun, hended, _, _, rfl, ?_, ⟨_, rfl⟩, hW, hsame.mono (by decide) (by decide)⟩
  · show Steps p.tables e below (s₁.setTop (mkF m 0 #[.val (.ref (A 3))] [])) _
    refine XS.aloadN X0.here hx rfl (hb hby own_d_prog_57_method_5_code_0) rfl rfl ?_
    show Steps p.tables e below (s₁.setTop (mkF m 1 #[.val (.ref (A 3))] [(.ref (A 3))])) _
    refine st148 _ ?_
    show Steps p.tables e below (T148.setTop (mkF m 4 #[.val (.ref (A 3))] [(.ref (A 0)), (.ref (A 3))])) _
    refine Jvm.RoadKit.acmp (g := (mkF m 4 #[.val (.ref (A 3))] [(.ref (A 0)), (.ref (A 3))])) X148 hx rfl rfl rfl (pc0 := 4) (pc' := 7) (same := false) rfl (hb hby own_d_prog_57_method_5_code_4) rfl (decide_eq_false fun q => (Fld.ne EN.2.2.2.2.2.1.2.1 EN.2.2.2.2.2.1.2.2.1 (fun h => by injection h with h; exact absurd h (by decide))) (Value.ref.inj q)) (by decide) (by decide) ?_
    show Steps p.tables e below (T148.setTop (mkF m 7 #[.val (.ref (A 3))] [])) _
    refine XS.aloadN X148.here hx rfl (hb hby own_d_prog_57_method_5_code_7) rfl rfl ?_
    show Steps p.tables e below (T148.setTop (mkF m 8 #[.val (.ref (A 3))] [(.ref (A 3))])) _
    refine st149 _ ?_
    show Steps p.tables e below (T149.setTop (mkF m 11 #[.val (.ref (A 3))] [(.ref (A 1)), (.ref (A 3))])) _
    refine Jvm.RoadKit.acmp (g := (mkF m 11 #[.val (.ref (A 3))] [(.ref (A 1)), (.ref (A 3))])) X149 hx rfl rfl rfl (pc0 := 11) (pc' := 14) (same := false) rfl (hb hby own_d_prog_57_method_5_code_11) rfl (decide_eq_false fun q => (Fld.ne EN.2.2.2.2.2.1.2.1 EN.2.2.2.2.2.1.2.2.2.1 (fun h => by injection h with h; exact absurd h (by decide))) (Value.ref.inj q)) (by decide) (by decide) ?_
    show Steps p.tables e below (T149.setTop (mkF m 14 #[.val (.ref (A 3))] [])) _
    refine XS.iconst X149.here hx rfl (hb hby own_d_prog_57_method_5_code_14) ?_
    show Steps p.tables e below (T149.setTop (mkF m 15 #[.val (.ref (A 3))] [(.int (1 : Int32))])) _
    refine XS.goto X149.here hx rfl (pc0 := 15) (pc' := 19) rfl (hb hby own_d_prog_57_method_5_code_15) (by decide) (by decide) ?_
    show Steps p.tables e below (T149.setTop (mkF m 19 #[.val (.ref (A 3))] [(.int (1 : Int32))])) _
    exact retN X149 hx (t := .boolean) Bd.returns (by simp) (hb hby own_d_prog_57_method_5_code_19) hr
  · show PQ (some (.int (1 : Int32))) h0 n0 _ T149.heap _
    rw [e149]
    exact ⟨rfl, N0, rfl⟩
theorem own_ef_rm38 (m : MethodId) (p1 : Int32) (A : Nat → Addr) (K : Nat → ClassId) (cs : Int32)  : entryFrame m #[(.ref (A 4))] 1 = mkF m 0 #[.val (.ref (A 4))] [] := by first | (simp [entryFrame, mkF, argsToLocals, Value.category, maxLocals]; done) | rfl
set_option maxRecDepth 65536 in
set_option maxHeartbeats 40000000 in
theorem rm38 (l : Launch) (Z : State) (a0 : Array Value) (hw : ∀ d ∈ tables_1, d.before a0 Z = true) (ws : List Jvm.Cond) (h0 : Heap) (n0 : Nat) (p1 : Int32) (A : Nat → Addr) (K : Nat → ClassId) (cs : Int32)  (EN : own_St Z A K cs) (OL0 : Old Z n0 h0) :
    MetFree l own_m1 (head1 (Jvm.Cond.code own_m1 prog_57_method_4_code 1 (some (.object "java/lang/String")) :: ws) ({ frames := 0, cells := 0, slots := 0, locals := 0 } : Room)) (fun a U => a = #[(.ref (A 4))] ∧ Z.Warmed39 U.vm ∧ U.heap = h0) (fun _ _ _ _ _ => True) (fun _ U o U' => ∃ v L, o = .returned v ∧ (PQ (some (.ref (A 11))) h0 n0) v U'.heap L ∧ FrameEnd U o U' L ({ frames := 0, cells := 0, slots := 0, locals := 0 } : Room).cells ({ frames := 0, cells := 0, slots := 0, locals := 0 } : Room).slots) := by
  refine MetFree.of_bodySF (plainFor_of_name own_pn0) hisR ?_
  intro p e s m args below meth c s₁ Bd hml0 hP hK
  obtain ⟨rfl, hZ, hh⟩ := hP
  have hx := Bd.exec
  have hby := Bd.bytes
  have hml : c.maxLocals = 1 := hml0
  have hown : s.vm.findClass "com/example/cargoweft/cargoweft/core/FlexibleSearch$Operator" = some m.cls := findClass_of_methodNamed Bd.named
  have hnm := (name_of_methodNamed Bd.named Bd.method).1
  have X0 : Stand p l e ({ frames := 0, cells := 0, slots := 0, locals := 0 } : Room) s m #[(.ref (A 4))] below meth c s₁ [] 0 0 := Stand.of_body Bd
  have e0 : s₁.heap = h0 := by rw [← hh, Bd.state]; rfl
  have N0 := Fr.nil n0
  have pre0 : ∀ t, Steps p.tables e below (s₁.setTop (mkF m 0 #[.val (.ref (A 4))] [])) t → Steps p.tables e below (s₁.setTop (entryFrame m #[(.ref (A 4))] 1)) t := fun t k => castTop (own_ef_rm38 m p1 A K cs ) k
  have KK0 : Keep h0 h0 [] := Keep.refl _ _
  obtain ⟨T152, X152, e152, st152⟩ := getF X0 hx hZ hown (host := "") (Or.inl (hw _ (List.mem_of_getElem? (i := 9) rfl))) Via.refl e0 (EN.2.2.1.2.2.2.2.2.2.1.ext OL0.2) (g := (mkF m 1 #[.val (.ref (A 4))] [(.ref (A 4))])) rfl rfl (hb hby own_d_prog_57_method_4_code_1)
  obtain ⟨fs, hr, hrun, hended, hW, hsame⟩ := X152.leave (v := some (.ref (A 11))) (fun h => by rw [Bd.returns] at h; cases h)
  refine ⟨_, _, pre0 _ ?_, hrun, hended, _, _, rfl, ?_, ⟨_, rfl⟩, hW, hsame.mono (by decide) (by decide)⟩
  · show Steps p.tables e below (s₁.setTop (mkF m 0 #[.val (.ref (A 4))] [])) _
    refine XS.aloadN X0.here hx rfl (hb hby own_d_prog_57_method_4_code_0) rfl rfl ?_
    show Steps p.tables e below (s₁.setTop (mkF m 1 #[.val (.ref (A 4))] [(.ref (A 4))])) _
    refine st152 _ ?_
    show Steps p.tables e below (T152.setTop (mkF m 4 #[.val (.ref (A 4))] [(.ref (A 11))])) _
    exact retOut X152 hx Bd.returns rfl (Or.inr (Or.inr (Or.inr (Or.inr ⟨rfl, rfl, rfl⟩)))) (hb hby own_d_prog_57_method_4_code_4) hr
  · show PQ (some (.ref (A 11))) h0 n0 _ T152.heap _
    rw [e152]
    exact ⟨rfl, N0, rfl⟩
theorem own_ef_rm40 (m : MethodId) (p1 : Int32) (A : Nat → Addr) (K : Nat → ClassId) (cs : Int32)  (sb155 : Addr) (kc155 : ClassId) : entryFrame m #[(.ref (A 17)), (.ref sb155)] 3 = mkF m 0 #[.val (.ref (A 17)), .val (.ref sb155), .unset] [] := by first | (simp [entryFrame, mkF, argsToLocals, Value.category, maxLocals]; done) | rfl
set_option maxRecDepth 65536 in
set_option maxHeartbeats 40000000 in
theorem rm40 (l : Launch) (Z : State) (a0 : Array Value) (hw : ∀ d ∈ tables_1, d.before a0 Z = true) (ws : List Jvm.Cond) (h0 : Heap) (n0 : Nat) (p1 : Int32) (A : Nat → Addr) (K : Nat → ClassId) (cs : Int32)  (sb155 : Addr) (kc155 : ClassId) (EN : own_St Z A K cs) (OL0 : Old Z n0 h0) (G_A_sb155 : Arv Z h0 sb155 kc155 .byte (2 : Int32) [(.int (60 : Int32)), (.int (62 : Int32))] (.int (0 : Int32))) :
    MetFree l own_m7 (head1 (Jvm.Cond.code own_m7 jdk_43_method_13_code 3 (some .boolean) :: ws) ({ frames := 0, cells := 0, slots := 0, locals := 0 } : Room)) (fun a U => a = #[(.ref (A 17)), (.ref sb155)] ∧ Z.Warmed39 U.vm ∧ U.heap = h0) (fun _ _ _ _ _ => True) (fun _ U o U' => ∃ v L, o = .returned v ∧ (PQ (some (.int (0 : Int32))) h0 n0) v U'.heap L ∧ FrameEnd U o U' L ({ frames := 0, cells := 0, slots := 0, locals := 0 } : Room).cells ({ frames := 0, cells := 0, slots := 0, locals := 0 } : Room).slots) := by
  refine MetFree.of_bodySF (plainFor_of_name own_pn1) hisR ?_
  intro p e s m args below meth c s₁ Bd hml0 hP hK
  obtain ⟨rfl, hZ, hh⟩ := hP
  have hx := Bd.exec
  have hby := Bd.bytes
  have hml : c.maxLocals = 3 := hml0
  have hown : s.vm.findClass "java/lang/StringLatin1" = some m.cls := findClass_of_methodNamed Bd.named
  have hnm := (name_of_methodNamed Bd.named Bd.method).1
  have X0 : Stand p l e ({ frames := 0, cells := 0, slots := 0, locals := 0 } : Room) s m #[(.ref (A 17)), (.ref sb155)] below meth c s₁ [] 0 0 := Stand.of_body Bd
  have e0 : s₁.heap = h0 := by rw [← hh, Bd.state]; rfl
  have N0 := Fr.nil n0
  have pre0 : ∀ t, Steps p.tables e below (s₁.setTop (mkF m 0 #[.val (.ref (A 17)), .val (.ref sb155), .unset] [])) t → Steps p.tables e below (s₁.setTop (entryFrame m #[(.ref (A 17)), (.ref sb155)] 3)) t := fun t k => castTop (own_ef_rm40 m p1 A K cs sb155 kc155) k
  have KK0 : Keep h0 h0 [] := Keep.refl _ _
  obtain ⟨cl163, Ar163, -, Sz163, Nn163, -, -⟩ := (id (EN.2.2.2.2.1.2.2.2.1.ext OL0.2))
  obtain ⟨cl164, Ar164, -, Sz164, Nn164, -, -⟩ := (id G_A_sb155)
  obtain ⟨fs, hr, hrun, hended, hW, hsame⟩ := X0.leave (v := some (.int (0 : Int32))) (fun h => by rw [Bd.returns] at h; cases h)
  refine ⟨_, _, pre0 _ ?_, hrun, hended, _, _, rfl, ?_, ⟨_, rfl⟩, hW, hsame.mono (by decide) (by decide)⟩
  · show Steps p.tables e below (s₁.setTop (mkF m 0 #[.val (.ref (A 17)), .val (.ref sb155), .unset] [])) _
    refine XS.aloadN X0.here hx rfl (hb hby own_d_jdk_43_method_13_code_0) rfl rfl ?_
    show Steps p.tables e below (s₁.setTop (mkF m 1 #[.val (.ref (A 17)), .val (.ref sb155), .unset] [(.ref (A 17))])) _
    refine X0.arraylength hx (by rw [e0]; exact Ar163.1) (State.isArrayOf_alike hZ.alike Ar163.2.1) (g := (mkF m 1 #[.val (.ref (A 17)), .val (.ref sb155), .unset] [(.ref (A 17))])) rfl rfl (hb hby own_d_jdk_43_method_13_code_1) _ ?_
    rw [len_of Sz163 Nn163]
    show Steps p.tables e below (s₁.setTop (mkF m 2 #[.val (.ref (A 17)), .val (.ref sb155), .unset] [(.int (1 : Int32))])) _
    refine XS.aloadN X0.here hx rfl (hb hby own_d_jdk_43_method_13_code_2) rfl rfl ?_
    show Steps p.tables e below (s₁.setTop (mkF m 3 #[.val (.ref (A 17)), .val (.ref sb155), .unset] [(.ref sb155), (.int (1 : Int32))])) _
    refine X0.arraylength hx (by rw [e0]; exact Ar164.1) (State.isArrayOf_alike hZ.alike Ar164.2.1) (g := (mkF m 3 #[.val (.ref (A 17)), .val (.ref sb155), .unset] [(.ref sb155), (.int (1 : Int32))])) rfl rfl (hb hby own_d_jdk_43_method_13_code_3) _ ?_
    rw [len_of Sz164 Nn164]
    show Steps p.tables e below (s₁.setTop (mkF m 4 #[.val (.ref (A 17)), .val (.ref sb155), .unset] [(.int (2 : Int32)), (.int (1 : Int32))])) _
    refine XS.icmpYes X0.here hx rfl (pc0 := 4) (pc' := 34) rfl (hb hby own_d_jdk_43_method_13_code_4) rfl (feq (by decide : ¬ ((1 : Int32) = (2 : Int32)))).2 (by decide) (by decide) ?_
    show Steps p.tables e below (s₁.setTop (mkF m 34 #[.val (.ref (A 17)), .val (.ref sb155), .unset] [])) _
    refine XS.iconst X0.here hx rfl (hb hby own_d_jdk_43_method_13_code_34) ?_
    show Steps p.tables e below (s₁.setTop (mkF m 35 #[.val (.ref (A 17)), .val (.ref sb155), .unset] [(.int (0 : Int32))])) _
    exact retN X0 hx (t := .boolean) Bd.returns (by simp) (hb hby own_d_jdk_43_method_13_code_35) hr
  · show PQ (some (.int (0 : Int32))) h0 n0 _ s₁.heap _
    rw [e0]
    exact ⟨rfl, N0, rfl⟩
theorem own_ef_rm39 (m : MethodId) (p1 : Int32) (A : Nat → Addr) (K : Nat → ClassId) (cs : Int32)  (sb155 : Addr) (sa155 : Addr) (kc155 : ClassId) : entryFrame m #[(.ref (A 11)), (.ref sa155)] 3 = mkF m 0 #[.val (.ref (A 11)), .val (.ref sa155), .unset] [] := by first | (simp [entryFrame, mkF, argsToLocals, Value.category, maxLocals]; done) | rfl
set_option maxRecDepth 65536 in
set_option maxHeartbeats 40000000 in
theorem rm39 (l : Launch) (Z : State) (a0 : Array Value) (hw : ∀ d ∈ tables_1, d.before a0 Z = true) (ws : List Jvm.Cond) (h0 : Heap) (n0 : Nat) (p1 : Int32) (A : Nat → Addr) (K : Nat → ClassId) (cs : Int32)  (sb155 : Addr) (sa155 : Addr) (kc155 : ClassId) (EN : own_St Z A K cs) (OL0 : Old Z n0 h0) (G_F_sa155_java_lang_String_value : Fld Z h0 sa155 "java/lang/String" "value" "[B" (.ref sb155)) (G_A_sb155 : Arv Z h0 sb155 kc155 .byte (2 : Int32) [(.int (60 : Int32)), (.int (62 : Int32))] (.int (0 : Int32))) (G_E_sa155 : Exa Z h0 sa155 "java/lang/String") (G_F_sa155_java_lang_String_coder : Fld Z h0 sa155 "java/lang/String" "coder" "B" (.int (0 : Int32))) :
    MetFree l own_m2 (head1 (Jvm.Cond.code own_m2 jdk_42_method_66_code 3 (some .boolean) :: ws) ({ frames := 1, cells := 0, slots := 0, locals := 14 } : Room)) (fun a U => a = #[(.ref (A 11)), (.ref sa155)] ∧ Z.Warmed39 U.vm ∧ U.heap = h0) (fun _ _ _ _ _ => True) (fun _ U o U' => ∃ v L, o = .returned v ∧ (PQ (some (.int (0 : Int32))) h0 n0) v U'.heap L ∧ FrameEnd U o U' L ({ frames := 1, cells := 0, slots := 0, locals := 14 } : Room).cells ({ frames := 1, cells := 0, slots := 0, locals := 14 } : Room).slots) := by
  refine MetFree.of_bodySF (plainFor_of_name own_pn2) hisR ?_
  intro p e s m args below meth c s₁ Bd hml0 hP hK
  obtain ⟨rfl, hZ, hh⟩ := hP
  have hx := Bd.exec
  have hby := Bd.bytes
  have hml : c.maxLocals = 3 := hml0
  have hown : s.vm.findClass "java/lang/String" = some m.cls := findClass_of_methodNamed Bd.named
  have hnm := (name_of_methodNamed Bd.named Bd.method).1
  have X0 : Stand p l e ({ frames := 1, cells := 0, slots := 0, locals := 14 } : Room) s m #[(.ref (A 11)), (.ref sa155)] below meth c s₁ [] 0 0 := Stand.of_body Bd
  have e0 : s₁.heap = h0 := by rw [← hh, Bd.state]; rfl
  have N0 := Fr.nil n0
  have pre0 : ∀ t, Steps p.tables e below (s₁.setTop (mkF m 0 #[.val (.ref (A 11)), .val (.ref sa155), .unset] [])) t → Steps p.tables e below (s₁.setTop (entryFrame m #[(.ref (A 11)), (.ref sa155)] 3)) t := fun t k => castTop (own_ef_rm39 m p1 A K cs sb155 sa155 kc155) k
  have KK0 : Keep h0 h0 [] := Keep.refl _ _
  obtain ⟨T156, X156, e156, st156⟩ := instY X0 hx hZ hown (hw _ (List.mem_of_getElem? (i := 24) rfl)) e0 (Ins.self G_E_sa155) (g := (mkF m 8 #[.val (.ref (A 11)), .val (.ref sa155), .unset] [(.ref sa155)])) rfl rfl (hb hby own_d_jdk_42_method_66_code_8)
  obtain ⟨T157, X157, e157, st157⟩ := castY X156 hx hZ hown (hw _ (List.mem_of_getElem? (i := 24) rfl)) e156 (Ins.self G_E_sa155) (g := (mkF m 15 #[.val (.ref (A 11)), .val (.ref sa155), .unset] [(.ref sa155)])) rfl rfl (hb hby own_d_jdk_42_method_66_code_15)
  obtain ⟨T158, X158, e158, st158⟩ := getS2 X157 hx hZ hown (host := "") (Or.inl (hw _ (List.mem_of_getElem? (i := 26) rfl))) Via.refl e157 (EN.2.2.2.2.1.2.2.2.2.1.ext OL0.2) (g := (mkF m 19 #[.val (.ref (A 11)), .val (.ref sa155), .val (.ref sa155)] [])) rfl (hb hby own_d_jdk_42_method_66_code_19)
  obtain ⟨T159, X159, e159, st159⟩ := getF X158 hx hZ hown (host := "") (Or.inl (hw _ (List.mem_of_getElem? (i := 27) rfl))) Via.refl e158 (EN.2.2.2.2.2.2.1.2.1.ext OL0.2) (g := (mkF m 26 #[.val (.ref (A 11)), .val (.ref sa155), .val (.ref sa155)] [(.ref (A 11))])) rfl rfl (hb hby own_d_jdk_42_method_66_code_26)
  obtain ⟨T160, X160, e160, st160⟩ := getF X159 hx hZ hown (host := "") (Or.inl (hw _ (List.mem_of_getElem? (i := 27) rfl))) Via.refl e159 G_F_sa155_java_lang_String_coder (g := (mkF m 30 #[.val (.ref (A 11)), .val (.ref sa155), .val (.ref sa155)] [(.ref sa155), (.int (0 : Int32))])) rfl rfl (hb hby own_d_jdk_42_method_66_code_30)
  obtain ⟨T161, X161, e161, st161⟩ := getF X160 hx hZ hown (host := "") (Or.inl (hw _ (List.mem_of_getElem? (i := 28) rfl))) Via.refl e160 (EN.2.2.2.2.1.2.2.1.ext OL0.2) (g := (mkF m 37 #[.val (.ref (A 11)), .val (.ref sa155), .val (.ref sa155)] [(.ref (A 11))])) rfl rfl (hb hby own_d_jdk_42_method_66_code_37)
  obtain ⟨T162, X162, e162, st162⟩ := getF X161 hx hZ hown (host := "") (Or.inl (hw _ (List.mem_of_getElem? (i := 28) rfl))) Via.refl e161 G_F_sa155_java_lang_String_value (g := (mkF m 41 #[.val (.ref (A 11)), .val (.ref sa155), .val (.ref sa155)] [(.ref sa155), (.ref (A 17))])) rfl rfl (hb hby own_d_jdk_42_method_66_code_41)
  obtain ⟨_, _, ⟨T165, L165, k165, n165⟩, -, X165, ⟨Lc165, hQ165, l165, y165, z165⟩, st165⟩ := Jvm.LawKit.callS X162 hx (y := own_m7) hown (mvT hZ (hw _ (List.mem_of_getElem? (i := 29) rfl))) (mvT hZ (hw _ (List.mem_of_getElem? (i := 30) rfl))) (mvT hZ (hw _ (List.mem_of_getElem? (i := 31) rfl))) (mvT hZ (hw _ (List.mem_of_getElem? (i := 32) rfl))) (by decide) (backOf (W := 0) (rm40 l Z a0 hw [] h0 n0 p1 A K cs sb155 kc155 EN OL0 G_A_sb155) hZ (hw _ (List.mem_of_getElem? (i := 32) rfl)) (hw _ (List.mem_of_getElem? (i := 31) rfl)) (by decide) (by decide)) (g := (mkF m 44 #[.val (.ref (A 11)), .val (.ref sa155), .val (.ref sa155)] [(.ref sb155), (.ref (A 17))])) rfl (by rw [hml]; rfl) (argsL := [(.ref (A 17)), (.ref sb155)]) (rest := []) (lenOf own_pd1 rfl) rfl (by show 2 * 0 + _ ≤ _; exact Nat.le_of_eq rfl) (hb hby own_d_jdk_42_method_66_code_44) (fun _ _ => ⟨rfl, e162, (by decide : 0 + 0 ≤ _), (by decide : 0 + 0 ≤ _)⟩)
  dsimp only [Pt.U, Pt.locs, Pt.cells, Pt.slots] at X165 l165 y165 z165 st165 hQ165
  subst l165 y165 z165
  obtain ⟨rfl, N165q, e165⟩ := hQ165
  have N165 := Fr.app N0 N165q
  obtain ⟨fs, hr, hrun, hended, hW, hsame⟩ := X165.leave (v := some (.int (0 : Int32))) (fun h => by rw [Bd.returns] at h; cases h)
  refine ⟨_, _, pre0 _ ?_, hrun, hended, _, _, rfl, ?_, ⟨_, rfl⟩, hW, hsame.mono (by decide) (by decide)⟩
  · show Steps p.tables e below (s₁.setTop (mkF m 0 #[.val (.ref (A 11)), .val (.ref sa155), .unset] [])) _
    refine XS.aloadN X0.here hx rfl (hb hby own_d_jdk_42_method_66_code_0) rfl rfl ?_
    show Steps p.tables e below (s₁.setTop (mkF m 1 #[.val (.ref (A 11)), .val (.ref sa155), .unset] [(.ref (A 11))])) _
    refine XS.aloadN X0.here hx rfl (hb hby own_d_jdk_42_method_66_code_1) rfl rfl ?_
    show Steps p.tables e below (s₁.setTop (mkF m 2 #[.val (.ref (A 11)), .val (.ref sa155), .unset] [(.ref sa155), (.ref (A 11))])) _
    refine Jvm.RoadKit.acmp (g := (mkF m 2 #[.val (.ref (A 11)), .val (.ref sa155), .unset] [(.ref sa155), (.ref (A 11))])) X0 hx rfl rfl rfl (pc0 := 2) (pc' := 7) (same := false) rfl (hb hby own_d_jdk_42_method_66_code_2) rfl (decide_eq_false fun q => (Fld.ne (EN.2.2.2.2.1.2.2.1.ext OL0.2) G_F_sa155_java_lang_String_value (fun h => arv_ne (EN.2.2.2.2.1.2.2.2.1.ext OL0.2) G_A_sb155 (Or.inl (by decide)) (Value.ref.inj h))) (Value.ref.inj q)) (by decide) (by decide) ?_
    show Steps p.tables e below (s₁.setTop (mkF m 7 #[.val (.ref (A 11)), .val (.ref sa155), .unset] [])) _
    refine XS.aloadN X0.here hx rfl (hb hby own_d_jdk_42_method_66_code_7) rfl rfl ?_
    show Steps p.tables e below (s₁.setTop (mkF m 8 #[.val (.ref (A 11)), .val (.ref sa155), .unset] [(.ref sa155)])) _
    refine st156 _ ?_
    show Steps p.tables e below (T156.setTop (mkF m 11 #[.val (.ref (A 11)), .val (.ref sa155), .unset] [(.int (1 : Int32))])) _
    refine XS.ifNo X156.here hx rfl (hb hby own_d_jdk_42_method_66_code_11) rfl ((if0 _ _).trans (feq (by decide : ¬ ((1 : Int32) = (0 : Int32)))).1) ?_
    show Steps p.tables e below (T156.setTop (mkF m 14 #[.val (.ref (A 11)), .val (.ref sa155), .unset] [])) _
    refine XS.aloadN X156.here hx rfl (hb hby own_d_jdk_42_method_66_code_14) rfl rfl ?_
    show Steps p.tables e below (T156.setTop (mkF m 15 #[.val (.ref (A 11)), .val (.ref sa155), .unset] [(.ref sa155)])) _
    refine st157 _ ?_
    show Steps p.tables e below (T157.setTop (mkF m 18 #[.val (.ref (A 11)), .val (.ref sa155), .unset] [(.ref sa155)])) _
    refine XS.astoreN X157.here hx rfl (hb hby own_d_jdk_42_method_66_code_18) rfl rfl (l' := #[.val (.ref (A 11)), .val (.ref sa155), .val (.ref sa155)]) rfl ?_
    show Steps p.tables e below (T157.setTop (mkF m 19 #[.val (.ref (A 11)), .val (.ref sa155), .val (.ref sa155)] [])) _
    refine st158 _ ?_
    show Steps p.tables e below (T158.setTop (mkF m 22 #[.val (.ref (A 11)), .val (.ref sa155), .val (.ref sa155)] [(.int cs)])) _
    refine XS.ifNo X158.here hx rfl (hb hby own_d_jdk_42_method_66_code_22) rfl ((if0 _ _).trans (feq EN.2.2.2.2.1.2.2.2.2.2.1).1) ?_
    show Steps p.tables e below (T158.setTop (mkF m 25 #[.val (.ref (A 11)), .val (.ref sa155), .val (.ref sa155)] [])) _
    refine XS.aloadN X158.here hx rfl (hb hby own_d_jdk_42_method_66_code_25) rfl rfl ?_
    show Steps p.tables e below (T158.setTop (mkF m 26 #[.val (.ref (A 11)), .val (.ref sa155), .val (.ref sa155)] [(.ref (A 11))])) _
    refine st159 _ ?_
    show Steps p.tables e below (T159.setTop (mkF m 29 #[.val (.ref (A 11)), .val (.ref sa155), .val (.ref sa155)] [(.int (0 : Int32))])) _
    refine XS.aloadN X159.here hx rfl (hb hby own_d_jdk_42_method_66_code_29) rfl rfl ?_
    show Steps p.tables e below (T159.setTop (mkF m 30 #[.val (.ref (A 11)), .val (.ref sa155), .val (.ref sa155)] [(.ref sa155), (.int (0 : Int32))])) _
    refine st160 _ ?_
    show Steps p.tables e below (T160.setTop (mkF m 33 #[.val (.ref (A 11)), .val (.ref sa155), .val (.ref sa155)] [(.int (0 : Int32)), (.int (0 : Int32))])) _
    refine XS.icmpNo X160.here hx rfl (hb hby own_d_jdk_42_method_66_code_33) rfl (teq (by decide : (0 : Int32) = (0 : Int32))).2 ?_
    show Steps p.tables e below (T160.setTop (mkF m 36 #[.val (.ref (A 11)), .val (.ref sa155), .val (.ref sa155)] [])) _
    refine XS.aloadN X160.here hx rfl (hb hby own_d_jdk_42_method_66_code_36) rfl rfl ?_
    show Steps p.tables e below (T160.setTop (mkF m 37 #[.val (.ref (A 11)), .val (.ref sa155), .val (.ref sa155)] [(.ref (A 11))])) _
    refine st161 _ ?_
    show Steps p.tables e below (T161.setTop (mkF m 40 #[.val (.ref (A 11)), .val (.ref sa155), .val (.ref sa155)] [(.ref (A 17))])) _
    refine XS.aloadN X161.here hx rfl (hb hby own_d_jdk_42_method_66_code_40) rfl rfl ?_
    show Steps p.tables e below (T161.setTop (mkF m 41 #[.val (.ref (A 11)), .val (.ref sa155), .val (.ref sa155)] [(.ref sa155), (.ref (A 17))])) _
    refine st162 _ ?_
    show Steps p.tables e below (T162.setTop (mkF m 44 #[.val (.ref (A 11)), .val (.ref sa155), .val (.ref sa155)] [(.ref sb155), (.ref (A 17))])) _
    refine st165 _ ?_
    show Steps p.tables e below (T165.setTop (mkF m 47 #[.val (.ref (A 11)), .val (.ref sa155), .val (.ref sa155)] [(.int (0 : Int32))])) _
    refine XS.ifYes X165.here hx rfl (pc0 := 47) (pc' := 54) rfl (hb hby own_d_jdk_42_method_66_code_47) rfl ((if0 _ _).trans (teq (by decide : (0 : Int32) = (0 : Int32))).1) (by decide) (by decide) ?_
    show Steps p.tables e below (T165.setTop (mkF m 54 #[.val (.ref (A 11)), .val (.ref sa155), .val (.ref sa155)] [])) _
    refine XS.iconst X165.here hx rfl (hb hby own_d_jdk_42_method_66_code_54) ?_
    show Steps p.tables e below (T165.setTop (mkF m 55 #[.val (.ref (A 11)), .val (.ref sa155), .val (.ref sa155)] [(.int (0 : Int32))])) _
    exact retN X165 hx (t := .boolean) Bd.returns (by simp) (hb hby own_d_jdk_42_method_66_code_55) hr
  · show PQ (some (.int (0 : Int32))) h0 n0 _ T165.heap _
    rw [e165]
    exact ⟨rfl, N165, rfl⟩
theorem own_ef_rm42 (m : MethodId) (p1 : Int32) (A : Nat → Addr) (K : Nat → ClassId) (cs : Int32)  : entryFrame m #[(.ref (A 11))] 1 = mkF m 0 #[.val (.ref (A 11))] [] := by first | (simp [entryFrame, mkF, argsToLocals, Value.category, maxLocals]; done) | rfl
set_option maxRecDepth 65536 in
set_option maxHeartbeats 40000000 in
theorem rm42 (l : Launch) (Z : State) (a0 : Array Value) (hw : ∀ d ∈ tables_1, d.before a0 Z = true) (ws : List Jvm.Cond) (h0 : Heap) (n0 : Nat) (p1 : Int32) (A : Nat → Addr) (K : Nat → ClassId) (cs : Int32)  (EN : own_St Z A K cs) (OL0 : Old Z n0 h0) :
    MetFree l own_m4 (head1 (Jvm.Cond.code own_m4 jdk_42_method_152_code 1 (some .byte) :: ws) ({ frames := 0, cells := 0, slots := 0, locals := 0 } : Room)) (fun a U => a = #[(.ref (A 11))] ∧ Z.Warmed39 U.vm ∧ U.heap = h0) (fun _ _ _ _ _ => True) (fun _ U o U' => ∃ v L, o = .returned v ∧ (PQ (some (.int (0 : Int32))) h0 n0) v U'.heap L ∧ FrameEnd U o U' L ({ frames := 0, cells := 0, slots := 0, locals := 0 } : Room).cells ({ frames := 0, cells := 0, slots := 0, locals := 0 } : Room).slots) := by
  refine MetFree.of_bodySF (plainFor_of_name own_pn2) hisR ?_
  intro p e s m args below meth c s₁ Bd hml0 hP hK
  obtain ⟨rfl, hZ, hh⟩ := hP
  have hx := Bd.exec
  have hby := Bd.bytes
  have hml : c.maxLocals = 1 := hml0
  have hown : s.vm.findClass "java/lang/String" = some m.cls := findClass_of_methodNamed Bd.named
  have hnm := (name_of_methodNamed Bd.named Bd.method).1
  have X0 : Stand p l e ({ frames := 0, cells := 0, slots := 0, locals := 0 } : Room) s m #[(.ref (A 11))] below meth c s₁ [] 0 0 := Stand.of_body Bd
  have e0 : s₁.heap = h0 := by rw [← hh, Bd.state]; rfl
  have N0 := Fr.nil n0
  have pre0 : ∀ t, Steps p.tables e below (s₁.setTop (mkF m 0 #[.val (.ref (A 11))] [])) t → Steps p.tables e below (s₁.setTop (entryFrame m #[(.ref (A 11))] 1)) t := fun t k => castTop (own_ef_rm42 m p1 A K cs ) k
  have KK0 : Keep h0 h0 [] := Keep.refl _ _
  obtain ⟨T169, X169, e169, st169⟩ := getS2 X0 hx hZ hown (host := "") (Or.inl (hw _ (List.mem_of_getElem? (i := 26) rfl))) Via.refl e0 (EN.2.2.2.2.1.2.2.2.2.1.ext OL0.2) (g := (mkF m 0 #[.val (.ref (A 11))] [])) rfl (hb hby own_d_jdk_42_method_152_code_0)
  obtain ⟨T170, X170, e170, st170⟩ := getF X169 hx hZ hown (host := "") (Or.inl (hw _ (List.mem_of_getElem? (i := 27) rfl))) Via.refl e169 (EN.2.2.2.2.2.2.1.2.1.ext OL0.2) (g := (mkF m 7 #[.val (.ref (A 11))] [(.ref (A 11))])) rfl rfl (hb hby own_d_jdk_42_method_152_code_7)
  obtain ⟨fs, hr, hrun, hended, hW, hsame⟩ := X170.leave (v := some (.int (0 : Int32))) (fun h => by rw [Bd.returns] at h; cases h)
  refine ⟨_, _, pre0 _ ?_, hrun, hended, _, _, rfl, ?_, ⟨_, rfl⟩, hW, hsame.mono (by decide) (by decide)⟩
  · show Steps p.tables e below (s₁.setTop (mkF m 0 #[.val (.ref (A 11))] [])) _
    refine st169 _ ?_
    show Steps p.tables e below (T169.setTop (mkF m 3 #[.val (.ref (A 11))] [(.int cs)])) _
    refine XS.ifNo X169.here hx rfl (hb hby own_d_jdk_42_method_152_code_3) rfl ((if0 _ _).trans (feq EN.2.2.2.2.1.2.2.2.2.2.1).1) ?_
    show Steps p.tables e below (T169.setTop (mkF m 6 #[.val (.ref (A 11))] [])) _
    refine XS.aloadN X169.here hx rfl (hb hby own_d_jdk_42_method_152_code_6) rfl rfl ?_
    show Steps p.tables e below (T169.setTop (mkF m 7 #[.val (.ref (A 11))] [(.ref (A 11))])) _
    refine st170 _ ?_
    show Steps p.tables e below (T170.setTop (mkF m 10 #[.val (.ref (A 11))] [(.int (0 : Int32))])) _
    refine XS.goto X170.here hx rfl (pc0 := 10) (pc' := 14) rfl (hb hby own_d_jdk_42_method_152_code_10) (by decide) (by decide) ?_
    show Steps p.tables e below (T170.setTop (mkF m 14 #[.val (.ref (A 11))] [(.int (0 : Int32))])) _
    exact retN X170 hx (t := .byte) Bd.returns (by simp) (hb hby own_d_jdk_42_method_152_code_14) hr
  · show PQ (some (.int (0 : Int32))) h0 n0 _ T170.heap _
    rw [e170]
    exact ⟨rfl, N0, rfl⟩
theorem own_ef_rm41 (m : MethodId) (p1 : Int32) (A : Nat → Addr) (K : Nat → ClassId) (cs : Int32)  : entryFrame m #[(.ref (A 11))] 1 = mkF m 0 #[.val (.ref (A 11))] [] := by first | (simp [entryFrame, mkF, argsToLocals, Value.category, maxLocals]; done) | rfl
set_option maxRecDepth 65536 in
set_option maxHeartbeats 40000000 in
theorem rm41 (l : Launch) (Z : State) (a0 : Array Value) (hw : ∀ d ∈ tables_1, d.before a0 Z = true) (ws : List Jvm.Cond) (h0 : Heap) (n0 : Nat) (p1 : Int32) (A : Nat → Addr) (K : Nat → ClassId) (cs : Int32)  (EN : own_St Z A K cs) (OL0 : Old Z n0 h0) :
    MetFree l own_m5 (head1 (Jvm.Cond.code own_m5 jdk_42_method_54_code 1 (some .int) :: ws) ({ frames := 1, cells := 0, slots := 0, locals := 13 } : Room)) (fun a U => a = #[(.ref (A 11))] ∧ Z.Warmed39 U.vm ∧ U.heap = h0) (fun _ _ _ _ _ => True) (fun _ U o U' => ∃ v L, o = .returned v ∧ (PQ (some (.int (1 : Int32))) h0 n0) v U'.heap L ∧ FrameEnd U o U' L ({ frames := 1, cells := 0, slots := 0, locals := 13 } : Room).cells ({ frames := 1, cells := 0, slots := 0, locals := 13 } : Room).slots) := by
  refine MetFree.of_bodySF (plainFor_of_name own_pn2) hisR ?_
  intro p e s m args below meth c s₁ Bd hml0 hP hK
  obtain ⟨rfl, hZ, hh⟩ := hP
  have hx := Bd.exec
  have hby := Bd.bytes
  have hml : c.maxLocals = 1 := hml0
  have hown : s.vm.findClass "java/lang/String" = some m.cls := findClass_of_methodNamed Bd.named
  have hnm := (name_of_methodNamed Bd.named Bd.method).1
  have X0 : Stand p l e ({ frames := 1, cells := 0, slots := 0, locals := 13 } : Room) s m #[(.ref (A 11))] below meth c s₁ [] 0 0 := Stand.of_body Bd
  have e0 : s₁.heap = h0 := by rw [← hh, Bd.state]; rfl
  have N0 := Fr.nil n0
  have pre0 : ∀ t, Steps p.tables e below (s₁.setTop (mkF m 0 #[.val (.ref (A 11))] [])) t → Steps p.tables e below (s₁.setTop (entryFrame m #[(.ref (A 11))] 1)) t := fun t k => castTop (own_ef_rm41 m p1 A K cs ) k
  have KK0 : Keep h0 h0 [] := Keep.refl _ _
  obtain ⟨T167, X167, e167, st167⟩ := getF X0 hx hZ hown (host := "") (Or.inl (hw _ (List.mem_of_getElem? (i := 28) rfl))) Via.refl e0 (EN.2.2.2.2.1.2.2.1.ext OL0.2) (g := (mkF m 1 #[.val (.ref (A 11))] [(.ref (A 11))])) rfl rfl (hb hby own_d_jdk_42_method_54_code_1)
  obtain ⟨cl168, Ar168, -, Sz168, Nn168, -, -⟩ := (id (EN.2.2.2.2.1.2.2.2.1.ext OL0.2))
  obtain ⟨cq171, kq171, q171a, q171b, q171c⟩ := isOf hZ e167 (EN.2.2.1.2.2.2.2.2.2.2.1.ext OL0.2)
  obtain ⟨_, _, ⟨T171, L171, k171, n171⟩, -, X171, ⟨Lc171, hQ171, l171, y171, z171⟩, st171⟩ := X167.virtualBack hx (y := own_m4) (z := own_m4) hown (mvT hZ (hw _ (List.mem_of_getElem? (i := 38) rfl))) (mvT hZ (hw _ (List.mem_of_getElem? (i := 39) rfl))) (notFace_of_selects (args := #[]) (mvT hZ (hw _ (List.mem_of_getElem? (i := 41) rfl)))) (mvT hZ (hw _ (List.mem_of_getElem? (i := 41) rfl))) (mvT hZ (hw _ (List.mem_of_getElem? (i := 40) rfl))) (by decide) (backOf (W := 1) (rm42 l Z a0 hw [] h0 n0 p1 A K cs EN OL0) hZ (hw _ (List.mem_of_getElem? (i := 42) rfl)) (hw _ (List.mem_of_getElem? (i := 12) rfl)) (by decide) (by decide)) q171a q171c (g := (mkF m 6 #[.val (.ref (A 11))] [(.ref (A 11)), (.int (1 : Int32))])) rfl (by rw [hml]; rfl) (Steps.refl _) (argsL := []) (rest := [(.int (1 : Int32))]) (lenOf own_pd3 rfl) rfl (by show 2 * 0 + _ ≤ _; exact Nat.le_of_eq rfl) (hb hby own_d_jdk_42_method_54_code_6) (fun _ _ => ⟨rfl, e167, (by decide : 0 + 0 ≤ _), (by decide : 0 + 0 ≤ _)⟩)
  dsimp only [Pt.U, Pt.locs, Pt.cells, Pt.slots] at X171 l171 y171 z171 st171 hQ171
  subst l171 y171 z171
  obtain ⟨rfl, N171q, e171⟩ := hQ171
  have N171 := Fr.app N0 N171q
  obtain ⟨fs, hr, hrun, hended, hW, hsame⟩ := X171.leave (v := some (.int (1 : Int32))) (fun h => by rw [Bd.returns] at h; cases h)
  refine ⟨_, _, pre0 _ ?_, hrun, hended, _, _, rfl, ?_, ⟨_, rfl⟩, hW, hsame.mono (by decide) (by decide)⟩
  · show Steps p.tables e below (s₁.setTop (mkF m 0 #[.val (.ref (A 11))] [])) _
    refine XS.aloadN X0.here hx rfl (hb hby own_d_jdk_42_method_54_code_0) rfl rfl ?_
    show Steps p.tables e below (s₁.setTop (mkF m 1 #[.val (.ref (A 11))] [(.ref (A 11))])) _
    refine st167 _ ?_
    show Steps p.tables e below (T167.setTop (mkF m 4 #[.val (.ref (A 11))] [(.ref (A 17))])) _
    refine X167.arraylength hx (by rw [e167]; exact Ar168.1) (State.isArrayOf_alike hZ.alike Ar168.2.1) (g := (mkF m 4 #[.val (.ref (A 11))] [(.ref (A 17))])) rfl rfl (hb hby own_d_jdk_42_method_54_code_4) _ ?_
    rw [len_of Sz168 Nn168]
    show Steps p.tables e below (T167.setTop (mkF m 5 #[.val (.ref (A 11))] [(.int (1 : Int32))])) _
    refine XS.aloadN X167.here hx rfl (hb hby own_d_jdk_42_method_54_code_5) rfl rfl ?_
    show Steps p.tables e below (T167.setTop (mkF m 6 #[.val (.ref (A 11))] [(.ref (A 11)), (.int (1 : Int32))])) _
    refine st171.trans ?_
    show Steps p.tables e below (T171.setTop (mkF m 9 #[.val (.ref (A 11))] [(.int (0 : Int32)), (.int (1 : Int32))])) _
    refine XS.ishr X171.here hx rfl (hb hby own_d_jdk_42_method_54_code_9) rfl ?_
    show Steps p.tables e below (T171.setTop (mkF m 10 #[.val (.ref (A 11))] [(.int (1 : Int32))])) _
    exact retI X171 hx Bd.returns (hb hby own_d_jdk_42_method_54_code_10) hr
  · show PQ (some (.int (1 : Int32))) h0 n0 _ T171.heap _
    rw [e171]
    exact ⟨rfl, N171, rfl⟩
theorem own_ef_rm44 (m : MethodId) (p1 : Int32) (A : Nat → Addr) (K : Nat → ClassId) (cs : Int32)  : entryFrame m #[(.ref (A 11))] 1 = mkF m 0 #[.val (.ref (A 11))] [] := by first | (simp [entryFrame, mkF, argsToLocals, Value.category, maxLocals]; done) | rfl
set_option maxRecDepth 65536 in
set_option maxHeartbeats 40000000 in
theorem rm44 (l : Launch) (Z : State) (a0 : Array Value) (hw : ∀ d ∈ tables_1, d.before a0 Z = true) (ws : List Jvm.Cond) (h0 : Heap) (n0 : Nat) (p1 : Int32) (A : Nat → Addr) (K : Nat → ClassId) (cs : Int32)  (EN : own_St Z A K cs) (OL0 : Old Z n0 h0) :
    MetFree l own_m6 (head1 (Jvm.Cond.code own_m6 jdk_42_method_154_code 1 (some .boolean) :: ws) ({ frames := 0, cells := 0, slots := 0, locals := 0 } : Room)) (fun a U => a = #[(.ref (A 11))] ∧ Z.Warmed39 U.vm ∧ U.heap = h0) (fun _ _ _ _ _ => True) (fun _ U o U' => ∃ v L, o = .returned v ∧ (PQ (some (.int (1 : Int32))) h0 n0) v U'.heap L ∧ FrameEnd U o U' L ({ frames := 0, cells := 0, slots := 0, locals := 0 } : Room).cells ({ frames := 0, cells := 0, slots := 0, locals := 0 } : Room).slots) := by
  refine MetFree.of_bodySF (plainFor_of_name own_pn2) hisR ?_
  intro p e s m args below meth c s₁ Bd hml0 hP hK
  obtain ⟨rfl, hZ, hh⟩ := hP
  have hx := Bd.exec
  have hby := Bd.bytes
  have hml : c.maxLocals = 1 := hml0
  have hown : s.vm.findClass "java/lang/String" = some m.cls := findClass_of_methodNamed Bd.named
  have hnm := (name_of_methodNamed Bd.named Bd.method).1
  have X0 : Stand p l e ({ frames := 0, cells := 0, slots := 0, locals := 0 } : Room) s m #[(.ref (A 11))] below meth c s₁ [] 0 0 := Stand.of_body Bd
  have e0 : s₁.heap = h0 := by rw [← hh, Bd.state]; rfl
  have N0 := Fr.nil n0
  have pre0 : ∀ t, Steps p.tables e below (s₁.setTop (mkF m 0 #[.val (.ref (A 11))] [])) t → Steps p.tables e below (s₁.setTop (entryFrame m #[(.ref (A 11))] 1)) t := fun t k => castTop (own_ef_rm44 m p1 A K cs ) k
  have KK0 : Keep h0 h0 [] := Keep.refl _ _
  obtain ⟨T173, X173, e173, st173⟩ := getS2 X0 hx hZ hown (host := "") (Or.inl (hw _ (List.mem_of_getElem? (i := 26) rfl))) Via.refl e0 (EN.2.2.2.2.1.2.2.2.2.1.ext OL0.2) (g := (mkF m 0 #[.val (.ref (A 11))] [])) rfl (hb hby own_d_jdk_42_method_154_code_0)
  obtain ⟨T174, X174, e174, st174⟩ := getF X173 hx hZ hown (host := "") (Or.inl (hw _ (List.mem_of_getElem? (i := 27) rfl))) Via.refl e173 (EN.2.2.2.2.2.2.1.2.1.ext OL0.2) (g := (mkF m 7 #[.val (.ref (A 11))] [(.ref (A 11))])) rfl rfl (hb hby own_d_jdk_42_method_154_code_7)
  obtain ⟨fs, hr, hrun, hended, hW, hsame⟩ := X174.leave (v := some (.int (1 : Int32))) (fun h => by rw [Bd.returns] at h; cases h)
  refine ⟨_, _, pre0 _ ?_, hrun, hended, _, _, rfl, ?_, ⟨_, rfl⟩, hW, hsame.mono (by decide) (by decide)⟩
  · show Steps p.tables e below (s₁.setTop (mkF m 0 #[.val (.ref (A 11))] [])) _
    refine st173 _ ?_
    show Steps p.tables e below (T173.setTop (mkF m 3 #[.val (.ref (A 11))] [(.int cs)])) _
    refine XS.ifNo X173.here hx rfl (hb hby own_d_jdk_42_method_154_code_3) rfl ((if0 _ _).trans (feq EN.2.2.2.2.1.2.2.2.2.2.1).1) ?_
    show Steps p.tables e below (T173.setTop (mkF m 6 #[.val (.ref (A 11))] [])) _
    refine XS.aloadN X173.here hx rfl (hb hby own_d_jdk_42_method_154_code_6) rfl rfl ?_
    show Steps p.tables e below (T173.setTop (mkF m 7 #[.val (.ref (A 11))] [(.ref (A 11))])) _
    refine st174 _ ?_
    show Steps p.tables e below (T174.setTop (mkF m 10 #[.val (.ref (A 11))] [(.int (0 : Int32))])) _
    refine XS.ifNo X174.here hx rfl (hb hby own_d_jdk_42_method_154_code_10) rfl ((if0 _ _).trans (teq (by decide : (0 : Int32) = (0 : Int32))).2) ?_
    show Steps p.tables e below (T174.setTop (mkF m 13 #[.val (.ref (A 11))] [])) _
    refine XS.iconst X174.here hx rfl (hb hby own_d_jdk_42_method_154_code_13) ?_
    show Steps p.tables e below (T174.setTop (mkF m 14 #[.val (.ref (A 11))] [(.int (1 : Int32))])) _
    refine XS.goto X174.here hx rfl (pc0 := 14) (pc' := 18) rfl (hb hby own_d_jdk_42_method_154_code_14) (by decide) (by decide) ?_
    show Steps p.tables e below (T174.setTop (mkF m 18 #[.val (.ref (A 11))] [(.int (1 : Int32))])) _
    exact retN X174 hx (t := .boolean) Bd.returns (by simp) (hb hby own_d_jdk_42_method_154_code_18) hr
  · show PQ (some (.int (1 : Int32))) h0 n0 _ T174.heap _
    rw [e174]
    exact ⟨rfl, N0, rfl⟩
theorem own_ef_rm45 (m : MethodId) (p1 : Int32) (A : Nat → Addr) (K : Nat → ClassId) (cs : Int32)  : entryFrame m #[(.ref (A 17)), (.int (0 : Int32))] 2 = mkF m 0 #[.val (.ref (A 17)), .val (.int (0 : Int32))] [] := by first | (simp [entryFrame, mkF, argsToLocals, Value.category, maxLocals]; done) | rfl
set_option maxRecDepth 65536 in
set_option maxHeartbeats 40000000 in
theorem rm45 (l : Launch) (Z : State) (a0 : Array Value) (hw : ∀ d ∈ tables_1, d.before a0 Z = true) (ws : List Jvm.Cond) (h0 : Heap) (n0 : Nat) (p1 : Int32) (A : Nat → Addr) (K : Nat → ClassId) (cs : Int32)  (EN : own_St Z A K cs) (OL0 : Old Z n0 h0) :
    MetFree l own_m8 (head1 (Jvm.Cond.code own_m8 jdk_43_method_2_code 2 (some .char) :: ws) ({ frames := 2, cells := 0, slots := 0, locals := 27 } : Room)) (fun a U => a = #[(.ref (A 17)), (.int (0 : Int32))] ∧ Z.Warmed39 U.vm ∧ U.heap = h0) (fun _ _ _ _ _ => True) (fun _ U o U' => ∃ v L, o = .returned v ∧ (PQ (some (.int (62 : Int32))) h0 n0) v U'.heap L ∧ FrameEnd U o U' L ({ frames := 2, cells := 0, slots := 0, locals := 27 } : Room).cells ({ frames := 2, cells := 0, slots := 0, locals := 27 } : Room).slots) := by
  refine MetFree.of_bodySF (plainFor_of_name own_pn1) hisR ?_
  intro p e s m args below meth c s₁ Bd hml0 hP hK
  obtain ⟨rfl, hZ, hh⟩ := hP
  have hx := Bd.exec
  have hby := Bd.bytes
  have hml : c.maxLocals = 2 := hml0
  have hown : s.vm.findClass "java/lang/StringLatin1" = some m.cls := findClass_of_methodNamed Bd.named
  have hnm := (name_of_methodNamed Bd.named Bd.method).1
  have X0 : Stand p l e ({ frames := 2, cells := 0, slots := 0, locals := 27 } : Room) s m #[(.ref (A 17)), (.int (0 : Int32))] below meth c s₁ [] 0 0 := Stand.of_body Bd
  have e0 : s₁.heap = h0 := by rw [← hh, Bd.state]; rfl
  have N0 := Fr.nil n0
  have pre0 : ∀ t, Steps p.tables e below (s₁.setTop (mkF m 0 #[.val (.ref (A 17)), .val (.int (0 : Int32))] [])) t → Steps p.tables e below (s₁.setTop (entryFrame m #[(.ref (A 17)), (.int (0 : Int32))] 2)) t := fun t k => castTop (own_ef_rm45 m p1 A K cs ) k
  have KK0 : Keep h0 h0 [] := Keep.refl _ _
  obtain ⟨cl177, Ar177, -, Sz177, Nn177, -, -⟩ := (id (EN.2.2.2.2.1.2.2.2.1.ext OL0.2))
  obtain ⟨_, _, ⟨T178, L178, k178, n178⟩, -, X178, ⟨Lc178, hQ178, l178, y178, z178⟩, st178⟩ := Jvm.LawKit.callS X0 hx (y := own_m10) hown (mvT hZ (hw _ (List.mem_of_getElem? (i := 56) rfl))) (mvT hZ (hw _ (List.mem_of_getElem? (i := 57) rfl))) (mvT hZ (hw _ (List.mem_of_getElem? (i := 12) rfl))) (mvT hZ (hw _ (List.mem_of_getElem? (i := 58) rfl))) (by decide) (backOf (W := 0) (rm9 l Z a0 hw [] h0 n0 p1 A K cs EN OL0) hZ (hw _ (List.mem_of_getElem? (i := 58) rfl)) (hw _ (List.mem_of_getElem? (i := 12) rfl)) (by decide) (by decide)) (g := (mkF m 3 #[.val (.ref (A 17)), .val (.int (0 : Int32))] [(.int (1 : Int32)), (.int (0 : Int32))])) rfl (by rw [hml]; rfl) (argsL := [(.int (0 : Int32)), (.int (1 : Int32))]) (rest := []) (lenOf own_pd7 rfl) rfl (by show 2 * 0 + _ ≤ _; exact Nat.le_of_eq rfl) (hb hby own_d_jdk_43_method_2_code_3) (fun _ _ => ⟨rfl, e0, (by decide : 0 + 0 ≤ _), (by decide : 0 + 0 ≤ _)⟩)
  dsimp only [Pt.U, Pt.locs, Pt.cells, Pt.slots] at X178 l178 y178 z178 st178 hQ178
  subst l178 y178 z178
  obtain ⟨rfl, N178q, e178⟩ := hQ178
  have N178 := Fr.app N0 N178q
  obtain ⟨cl179, Ar179, q179, Sz179, Nn179, Hh179, Gg179⟩ := (id (EN.2.2.2.2.1.2.2.2.1.ext OL0.2))
  have hin179 : ¬ ((0 : Int32) < 0 ∨ cl179.slots.size ≤ ((0 : Int32)).toNatClampNeg) := inb_of Sz179 ⟨by decide, by decide⟩
  have hat179 : cl179.slots[((0 : Int32)).toNatClampNeg]? = some (.int (62 : Int32)) := Has.at Hh179 hin179 rfl
  obtain ⟨fs, hr, hrun, hended, hW, hsame⟩ := X178.leave (v := some (.int (62 : Int32))) (fun h => by rw [Bd.returns] at h; cases h)
  refine ⟨_, _, pre0 _ ?_, hrun, hended, _, _, rfl, ?_, ⟨_, rfl⟩, hW, hsame.mono (by decide) (by decide)⟩
  · show Steps p.tables e below (s₁.setTop (mkF m 0 #[.val (.ref (A 17)), .val (.int (0 : Int32))] [])) _
    refine XS.iloadN X0.here hx rfl (hb hby own_d_jdk_43_method_2_code_0) rfl ?_
    show Steps p.tables e below (s₁.setTop (mkF m 1 #[.val (.ref (A 17)), .val (.int (0 : Int32))] [(.int (0 : Int32))])) _
    refine XS.aloadN X0.here hx rfl (hb hby own_d_jdk_43_method_2_code_1) rfl rfl ?_
    show Steps p.tables e below (s₁.setTop (mkF m 2 #[.val (.ref (A 17)), .val (.int (0 : Int32))] [(.ref (A 17)), (.int (0 : Int32))])) _
    refine X0.arraylength hx (by rw [e0]; exact Ar177.1) (State.isArrayOf_alike hZ.alike Ar177.2.1) (g := (mkF m 2 #[.val (.ref (A 17)), .val (.int (0 : Int32))] [(.ref (A 17)), (.int (0 : Int32))])) rfl rfl (hb hby own_d_jdk_43_method_2_code_2) _ ?_
    rw [len_of Sz177 Nn177]
    show Steps p.tables e below (s₁.setTop (mkF m 3 #[.val (.ref (A 17)), .val (.int (0 : Int32))] [(.int (1 : Int32)), (.int (0 : Int32))])) _
    refine st178 _ ?_
    show Steps p.tables e below (T178.setTop (mkF m 6 #[.val (.ref (A 17)), .val (.int (0 : Int32))] [])) _
    refine XS.aloadN X178.here hx rfl (hb hby own_d_jdk_43_method_2_code_6) rfl rfl ?_
    show Steps p.tables e below (T178.setTop (mkF m 7 #[.val (.ref (A 17)), .val (.int (0 : Int32))] [(.ref (A 17))])) _
    refine XS.iloadN X178.here hx rfl (hb hby own_d_jdk_43_method_2_code_7) rfl ?_
    show Steps p.tables e below (T178.setTop (mkF m 8 #[.val (.ref (A 17)), .val (.int (0 : Int32))] [(.int (0 : Int32)), (.ref (A 17))])) _
    refine X178.baloadBytes hx (j := (0 : Int32)) (v := (.int (62 : Int32))) (by rw [e178]; exact Ar179.1) (State.isArrayOf_alike hZ.alike Ar179.2.1) Ar179.2.2 hin179 hat179 (g := (mkF m 8 #[.val (.ref (A 17)), .val (.int (0 : Int32))] [(.int (0 : Int32)), (.ref (A 17))])) rfl rfl (hb hby own_d_jdk_43_method_2_code_8) _ ?_
    show Steps p.tables e below (T178.setTop (mkF m 9 #[.val (.ref (A 17)), .val (.int (0 : Int32))] [(.int (62 : Int32))])) _
    refine XS.sipush X178.here hx rfl (hb hby own_d_jdk_43_method_2_code_9) ?_
    show Steps p.tables e below (T178.setTop (mkF m 12 #[.val (.ref (A 17)), .val (.int (0 : Int32))] [(.int (255 : Int32)), (.int (62 : Int32))])) _
    refine XS.iand X178.here hx rfl (hb hby own_d_jdk_43_method_2_code_12) rfl ?_
    show Steps p.tables e below (T178.setTop (mkF m 13 #[.val (.ref (A 17)), .val (.int (0 : Int32))] [(.int (62 : Int32))])) _
    refine XS.i2c X178.here hx rfl (hb hby own_d_jdk_43_method_2_code_13) rfl ?_
    show Steps p.tables e below (T178.setTop (mkF m 14 #[.val (.ref (A 17)), .val (.int (0 : Int32))] [(.int (62 : Int32))])) _
    exact retN X178 hx (t := .char) Bd.returns (by simp) (hb hby own_d_jdk_43_method_2_code_14) hr
  · show PQ (some (.int (62 : Int32))) h0 n0 _ T178.heap _
    rw [e178]
    exact ⟨rfl, N178, rfl⟩
theorem own_ef_rm43 (m : MethodId) (p1 : Int32) (A : Nat → Addr) (K : Nat → ClassId) (cs : Int32)  : entryFrame m #[(.ref (A 11)), (.int (0 : Int32))] 2 = mkF m 0 #[.val (.ref (A 11)), .val (.int (0 : Int32))] [] := by first | (simp [entryFrame, mkF, argsToLocals, Value.category, maxLocals]; done) | rfl
set_option maxRecDepth 65536 in
set_option maxHeartbeats 40000000 in
theorem rm43 (l : Launch) (Z : State) (a0 : Array Value) (hw : ∀ d ∈ tables_1, d.before a0 Z = true) (ws : List Jvm.Cond) (h0 : Heap) (n0 : Nat) (p1 : Int32) (A : Nat → Addr) (K : Nat → ClassId) (cs : Int32)  (EN : own_St Z A K cs) (OL0 : Old Z n0 h0) :
    MetFree l own_m0 (head1 (Jvm.Cond.code own_m0 jdk_42_method_56_code 2 (some .char) :: ws) ({ frames := 3, cells := 0, slots := 0, locals := 40 } : Room)) (fun a U => a = #[(.ref (A 11)), (.int (0 : Int32))] ∧ Z.Warmed39 U.vm ∧ U.heap = h0) (fun _ _ _ _ _ => True) (fun _ U o U' => ∃ v L, o = .returned v ∧ (PQ (some (.int (62 : Int32))) h0 n0) v U'.heap L ∧ FrameEnd U o U' L ({ frames := 3, cells := 0, slots := 0, locals := 40 } : Room).cells ({ frames := 3, cells := 0, slots := 0, locals := 40 } : Room).slots) := by
  refine MetFree.of_bodySF (plainFor_of_name own_pn2) hisR ?_
  intro p e s m args below meth c s₁ Bd hml0 hP hK
  obtain ⟨rfl, hZ, hh⟩ := hP
  have hx := Bd.exec
  have hby := Bd.bytes
  have hml : c.maxLocals = 2 := hml0
  have hown : s.vm.findClass "java/lang/String" = some m.cls := findClass_of_methodNamed Bd.named
  have hnm := (name_of_methodNamed Bd.named Bd.method).1
  have X0 : Stand p l e ({ frames := 3, cells := 0, slots := 0, locals := 40 } : Room) s m #[(.ref (A 11)), (.int (0 : Int32))] below meth c s₁ [] 0 0 := Stand.of_body Bd
  have e0 : s₁.heap = h0 := by rw [← hh, Bd.state]; rfl
  have N0 := Fr.nil n0
  have pre0 : ∀ t, Steps p.tables e below (s₁.setTop (mkF m 0 #[.val (.ref (A 11)), .val (.int (0 : Int32))] [])) t → Steps p.tables e below (s₁.setTop (entryFrame m #[(.ref (A 11)), (.int (0 : Int32))] 2)) t := fun t k => castTop (own_ef_rm43 m p1 A K cs ) k
  have KK0 : Keep h0 h0 [] := Keep.refl _ _
  obtain ⟨cq175, kq175, q175a, q175b, q175c⟩ := isOf hZ e0 (EN.2.2.1.2.2.2.2.2.2.2.1.ext OL0.2)
  obtain ⟨_, _, ⟨T175, L175, k175, n175⟩, -, X175, ⟨Lc175, hQ175, l175, y175, z175⟩, st175⟩ := X0.virtualBack hx (y := own_m6) (z := own_m6) hown (mvT hZ (hw _ (List.mem_of_getElem? (i := 48) rfl))) (mvT hZ (hw _ (List.mem_of_getElem? (i := 49) rfl))) (notFace_of_selects (args := #[]) (mvT hZ (hw _ (List.mem_of_getElem? (i := 51) rfl)))) (mvT hZ (hw _ (List.mem_of_getElem? (i := 51) rfl))) (mvT hZ (hw _ (List.mem_of_getElem? (i := 50) rfl))) (by decide) (backOf (W := 0) (rm44 l Z a0 hw [] h0 n0 p1 A K cs EN OL0) hZ (hw _ (List.mem_of_getElem? (i := 52) rfl)) (hw _ (List.mem_of_getElem? (i := 12) rfl)) (by decide) (by decide)) q175a q175c (g := (mkF m 1 #[.val (.ref (A 11)), .val (.int (0 : Int32))] [(.ref (A 11))])) rfl (by rw [hml]; rfl) (Steps.refl _) (argsL := []) (rest := []) (lenOf own_pd5 rfl) rfl (by show 2 * 0 + _ ≤ _; exact Nat.le_of_eq rfl) (hb hby own_d_jdk_42_method_56_code_1) (fun _ _ => ⟨rfl, e0, (by decide : 0 + 0 ≤ _), (by decide : 0 + 0 ≤ _)⟩)
  dsimp only [Pt.U, Pt.locs, Pt.cells, Pt.slots] at X175 l175 y175 z175 st175 hQ175
  subst l175 y175 z175
  obtain ⟨rfl, N175q, e175⟩ := hQ175
  have N175 := Fr.app N0 N175q
  obtain ⟨T176, X176, e176, st176⟩ := getF X175 hx hZ hown (host := "") (Or.inl (hw _ (List.mem_of_getElem? (i := 28) rfl))) Via.refl e175 (EN.2.2.2.2.1.2.2.1.ext OL0.2) (g := (mkF m 8 #[.val (.ref (A 11)), .val (.int (0 : Int32))] [(.ref (A 11))])) rfl rfl (hb hby own_d_jdk_42_method_56_code_8)
  obtain ⟨_, _, ⟨T180, L180, k180, n180⟩, -, X180, ⟨Lc180, hQ180, l180, y180, z180⟩, st180⟩ := Jvm.LawKit.callS X176 hx (y := own_m8) hown (mvT hZ (hw _ (List.mem_of_getElem? (i := 53) rfl))) (mvT hZ (hw _ (List.mem_of_getElem? (i := 54) rfl))) (mvT hZ (hw _ (List.mem_of_getElem? (i := 31) rfl))) (mvT hZ (hw _ (List.mem_of_getElem? (i := 55) rfl))) (by decide) (backOf (W := 0) (rm45 l Z a0 hw [] h0 n0 p1 A K cs EN OL0) hZ (hw _ (List.mem_of_getElem? (i := 55) rfl)) (hw _ (List.mem_of_getElem? (i := 31) rfl)) (by decide) (by decide)) (g := (mkF m 12 #[.val (.ref (A 11)), .val (.int (0 : Int32))] [(.int (0 : Int32)), (.ref (A 17))])) rfl (by rw [hml]; rfl) (argsL := [(.ref (A 17)), (.int (0 : Int32))]) (rest := []) (lenOf own_pd8 rfl) rfl (by show 2 * 0 + _ ≤ _; exact Nat.le_of_eq rfl) (hb hby own_d_jdk_42_method_56_code_12) (fun _ _ => ⟨rfl, e176, (by decide : 0 + 0 ≤ _), (by decide : 0 + 0 ≤ _)⟩)
  dsimp only [Pt.U, Pt.locs, Pt.cells, Pt.slots] at X180 l180 y180 z180 st180 hQ180
  subst l180 y180 z180
  obtain ⟨rfl, N180q, e180⟩ := hQ180
  have N180 := Fr.app N175 N180q
  obtain ⟨fs, hr, hrun, hended, hW, hsame⟩ := X180.leave (v := some (.int (62 : Int32))) (fun h => by rw [Bd.returns] at h; cases h)
  refine ⟨_, _, pre0 _ ?_, hrun, hended, _, _, rfl, ?_, ⟨_, rfl⟩, hW, hsame.mono (by decide) (by decide)⟩
  · show Steps p.tables e below (s₁.setTop (mkF m 0 #[.val (.ref (A 11)), .val (.int (0 : Int32))] [])) _
    refine XS.aloadN X0.here hx rfl (hb hby own_d_jdk_42_method_56_code_0) rfl rfl ?_
    show Steps p.tables e below (s₁.setTop (mkF m 1 #[.val (.ref (A 11)), .val (.int (0 : Int32))] [(.ref (A 11))])) _
    refine st175.trans ?_
    show Steps p.tables e below (T175.setTop (mkF m 4 #[.val (.ref (A 11)), .val (.int (0 : Int32))] [(.int (1 : Int32))])) _
    refine XS.ifNo X175.here hx rfl (hb hby own_d_jdk_42_method_56_code_4) rfl ((if0 _ _).trans (feq (by decide : ¬ ((1 : Int32) = (0 : Int32)))).1) ?_
    show Steps p.tables e below (T175.setTop (mkF m 7 #[.val (.ref (A 11)), .val (.int (0 : Int32))] [])) _
    refine XS.aloadN X175.here hx rfl (hb hby own_d_jdk_42_method_56_code_7) rfl rfl ?_
    show Steps p.tables e below (T175.setTop (mkF m 8 #[.val (.ref (A 11)), .val (.int (0 : Int32))] [(.ref (A 11))])) _
    refine st176 _ ?_
    show Steps p.tables e below (T176.setTop (mkF m 11 #[.val (.ref (A 11)), .val (.int (0 : Int32))] [(.ref (A 17))])) _
    refine XS.iloadN X176.here hx rfl (hb hby own_d_jdk_42_method_56_code_11) rfl ?_
    show Steps p.tables e below (T176.setTop (mkF m 12 #[.val (.ref (A 11)), .val (.int (0 : Int32))] [(.int (0 : Int32)), (.ref (A 17))])) _
    refine st180 _ ?_
    show Steps p.tables e below (T180.setTop (mkF m 15 #[.val (.ref (A 11)), .val (.int (0 : Int32))] [(.int (62 : Int32))])) _
    exact retN X180 hx (t := .char) Bd.returns (by simp) (hb hby own_d_jdk_42_method_56_code_15) hr
  · show PQ (some (.int (62 : Int32))) h0 n0 _ T180.heap _
    rw [e180]
    exact ⟨rfl, N180, rfl⟩
theorem own_ef_rm46 (m : MethodId) (p1 : Int32) (A : Nat → Addr) (K : Nat → ClassId) (cs : Int32)  : entryFrame m #[(.ref (A 4))] 1 = mkF m 0 #[.val (.ref (A 4))] [] := by first | (simp [entryFrame, mkF, argsToLocals, Value.category, maxLocals]; done) | rfl
set_option maxRecDepth 65536 in
set_option maxHeartbeats 40000000 in
theorem rm46 (l : Launch) (Z : State) (a0 : Array Value) (hw : ∀ d ∈ tables_1, d.before a0 Z = true) (ws : List Jvm.Cond) (h0 : Heap) (n0 : Nat) (p1 : Int32) (A : Nat → Addr) (K : Nat → ClassId) (cs : Int32)  (EN : own_St Z A K cs) (OL0 : Old Z n0 h0) :
    MetFree l own_m3 (head1 (Jvm.Cond.code own_m3 prog_57_method_5_code 1 (some .boolean) :: ws) ({ frames := 0, cells := 0, slots := 0, locals := 0 } : Room)) (fun a U => a = #[(.ref (A 4))] ∧ Z.Warmed39 U.vm ∧ U.heap = h0) (fun _ _ _ _ _ => True) (fun _ U o U' => ∃ v L, o = .returned v ∧ (PQ (some (.int (1 : Int32))) h0 n0) v U'.heap L ∧ FrameEnd U o U' L ({ frames := 0, cells := 0, slots := 0, locals := 0 } : Room).cells ({ frames := 0, cells := 0, slots := 0, locals := 0 } : Room).slots) := by
  refine MetFree.of_bodySF (plainFor_of_name own_pn0) hisR ?_
  intro p e s m args below meth c s₁ Bd hml0 hP hK
  obtain ⟨rfl, hZ, hh⟩ := hP
  have hx := Bd.exec
  have hby := Bd.bytes
  have hml : c.maxLocals = 1 := hml0
  have hown : s.vm.findClass "com/example/cargoweft/cargoweft/core/FlexibleSearch$Operator" = some m.cls := findClass_of_methodNamed Bd.named
  have hnm := (name_of_methodNamed Bd.named Bd.method).1
  have X0 : Stand p l e ({ frames := 0, cells := 0, slots := 0, locals := 0 } : Room) s m #[(.ref (A 4))] below meth c s₁ [] 0 0 := Stand.of_body Bd
  have e0 : s₁.heap = h0 := by rw [← hh, Bd.state]; rfl
  have N0 := Fr.nil n0
  have pre0 : ∀ t, Steps p.tables e below (s₁.setTop (mkF m 0 #[.val (.ref (A 4))] [])) t → Steps p.tables e below (s₁.setTop (entryFrame m #[(.ref (A 4))] 1)) t := fun t k => castTop (own_ef_rm46 m p1 A K cs ) k
  have KK0 : Keep h0 h0 [] := Keep.refl _ _
  obtain ⟨T183, X183, e183, st183⟩ := getS2 X0 hx hZ hown (host := "") (Or.inl (hw _ (List.mem_of_getElem? (i := 69) rfl))) Via.refl e0 (EN.1.1.ext OL0.2) (g := (mkF m 1 #[.val (.ref (A 4))] [(.ref (A 4))])) rfl (hb hby own_d_prog_57_method_5_code_1)
  obtain ⟨T184, X184, e184, st184⟩ := getS2 X183 hx hZ hown (host := "") (Or.inl (hw _ (List.mem_of_getElem? (i := 72) rfl))) Via.refl e183 (EN.1.2.2.1.ext OL0.2) (g := (mkF m 8 #[.val (.ref (A 4))] [(.ref (A 4))])) rfl (hb hby own_d_prog_57_method_5_code_8)
  obtain ⟨fs, hr, hrun, hended, hW, hsame⟩ := X184.leave (v := some (.int (1 : Int32))) (fun h => by rw [Bd.returns] at h; cases h)
  refine ⟨_, _, pre0 _ ?_, hrun, hended, _, _, rfl, ?_, ⟨_, rfl⟩, hW, hsame.mono (by decide) (by decide)⟩
  · show Steps p.tables e below (s₁.setTop (mkF m 0 #[.val (.ref (A 4))] [])) _
    refine XS.aloadN X0.here hx rfl (hb hby own_d_prog_57_method_5_code_0) rfl rfl ?_
    show Steps p.tables e below (s₁.setTop (mkF m 1 #[.val (.ref (A 4))] [(.ref (A 4))])) _
    refine st183 _ ?_
    show Steps p.tables e below (T183.setTop (mkF m 4 #[.val (.ref (A 4))] [(.ref (A 0)), (.ref (A 4))])) _
    refine Jvm.RoadKit.acmp (g := (mkF m 4 #[.val (.ref (A 4))] [(.ref (A 0)), (.ref (A 4))])) X183 hx rfl rfl rfl (pc0 := 4) (pc' := 7) (same := false) rfl (hb hby own_d_prog_57_method_5_code_4) rfl (decide_eq_false fun q => (Fld.ne EN.2.2.2.2.2.2.1.2.2.1 EN.2.2.2.2.2.1.2.2.1 (fun h => by injection h with h; exact absurd h (by decide))) (Value.ref.inj q)) (by decide) (by decide) ?_
    show Steps p.tables e below (T183.setTop (mkF m 7 #[.val (.ref (A 4))] [])) _
    refine XS.aloadN X183.here hx rfl (hb hby own_d_prog_57_method_5_code_7) rfl rfl ?_
    show Steps p.tables e below (T183.setTop (mkF m 8 #[.val (.ref (A 4))] [(.ref (A 4))])) _
    refine st184 _ ?_
    show Steps p.tables e below (T184.setTop (mkF m 11 #[.val (.ref (A 4))] [(.ref (A 1)), (.ref (A 4))])) _
    refine Jvm.RoadKit.acmp (g := (mkF m 11 #[.val (.ref (A 4))] [(.ref (A 1)), (.ref (A 4))])) X184 hx rfl rfl rfl (pc0 := 11) (pc' := 14) (same := false) rfl (hb hby own_d_prog_57_method_5_code_11) rfl (decide_eq_false fun q => (Fld.ne EN.2.2.2.2.2.2.1.2.2.1 EN.2.2.2.2.2.1.2.2.2.1 (fun h => by injection h with h; exact absurd h (by decide))) (Value.ref.inj q)) (by decide) (by decide) ?_
    show Steps p.tables e below (T184.setTop (mkF m 14 #[.val (.ref (A 4))] [])) _
    refine XS.iconst X184.here hx rfl (hb hby own_d_prog_57_method_5_code_14) ?_
    show Steps p.tables e below (T184.setTop (mkF m 15 #[.val (.ref (A 4))] [(.int (1 : Int32))])) _
    refine XS.goto X184.here hx rfl (pc0 := 15) (pc' := 19) rfl (hb hby own_d_prog_57_method_5_code_15) (by decide) (by decide) ?_
    show Steps p.tables e below (T184.setTop (mkF m 19 #[.val (.ref (A 4))] [(.int (1 : Int32))])) _
    exact retN X184 hx (t := .boolean) Bd.returns (by simp) (hb hby own_d_prog_57_method_5_code_19) hr
  · show PQ (some (.int (1 : Int32))) h0 n0 _ T184.heap _
    rw [e184]
    exact ⟨rfl, N0, rfl⟩
theorem own_ef_rm47 (m : MethodId) (p1 : Int32) (A : Nat → Addr) (K : Nat → ClassId) (cs : Int32)  : entryFrame m #[(.ref (A 5))] 1 = mkF m 0 #[.val (.ref (A 5))] [] := by first | (simp [entryFrame, mkF, argsToLocals, Value.category, maxLocals]; done) | rfl
set_option maxRecDepth 65536 in
set_option maxHeartbeats 40000000 in
theorem rm47 (l : Launch) (Z : State) (a0 : Array Value) (hw : ∀ d ∈ tables_1, d.before a0 Z = true) (ws : List Jvm.Cond) (h0 : Heap) (n0 : Nat) (p1 : Int32) (A : Nat → Addr) (K : Nat → ClassId) (cs : Int32)  (EN : own_St Z A K cs) (OL0 : Old Z n0 h0) :
    MetFree l own_m1 (head1 (Jvm.Cond.code own_m1 prog_57_method_4_code 1 (some (.object "java/lang/String")) :: ws) ({ frames := 0, cells := 0, slots := 0, locals := 0 } : Room)) (fun a U => a = #[(.ref (A 5))] ∧ Z.Warmed39 U.vm ∧ U.heap = h0) (fun _ _ _ _ _ => True) (fun _ U o U' => ∃ v L, o = .returned v ∧ (PQ (some (.ref (A 10))) h0 n0) v U'.heap L ∧ FrameEnd U o U' L ({ frames := 0, cells := 0, slots := 0, locals := 0 } : Room).cells ({ frames := 0, cells := 0, slots := 0, locals := 0 } : Room).slots) := by
  refine MetFree.of_bodySF (plainFor_of_name own_pn0) hisR ?_
  intro p e s m args below meth c s₁ Bd hml0 hP hK
  obtain ⟨rfl, hZ, hh⟩ := hP
  have hx := Bd.exec
  have hby := Bd.bytes
  have hml : c.maxLocals = 1 := hml0
  have hown : s.vm.findClass "com/example/cargoweft/cargoweft/core/FlexibleSearch$Operator" = some m.cls := findClass_of_methodNamed Bd.named
  have hnm := (name_of_methodNamed Bd.named Bd.method).1
  have X0 : Stand p l e ({ frames := 0, cells := 0, slots := 0, locals := 0 } : Room) s m #[(.ref (A 5))] below meth c s₁ [] 0 0 := Stand.of_body Bd
  have e0 : s₁.heap = h0 := by rw [← hh, Bd.state]; rfl
  have N0 := Fr.nil n0
  have pre0 : ∀ t, Steps p.tables e below (s₁.setTop (mkF m 0 #[.val (.ref (A 5))] [])) t → Steps p.tables e below (s₁.setTop (entryFrame m #[(.ref (A 5))] 1)) t := fun t k => castTop (own_ef_rm47 m p1 A K cs ) k
  have KK0 : Keep h0 h0 [] := Keep.refl _ _
  obtain ⟨T187, X187, e187, st187⟩ := getF X0 hx hZ hown (host := "") (Or.inl (hw _ (List.mem_of_getElem? (i := 9) rfl))) Via.refl e0 (EN.2.2.1.2.2.2.2.1.ext OL0.2) (g := (mkF m 1 #[.val (.ref (A 5))] [(.ref (A 5))])) rfl rfl (hb hby own_d_prog_57_method_4_code_1)
  obtain ⟨fs, hr, hrun, hended, hW, hsame⟩ := X187.leave (v := some (.ref (A 10))) (fun h => by rw [Bd.returns] at h; cases h)
  refine ⟨_, _, pre0 _ ?_, hrun, hended, _, _, rfl, ?_, ⟨_, rfl⟩, hW, hsame.mono (by decide) (by decide)⟩
  · show Steps p.tables e below (s₁.setTop (mkF m 0 #[.val (.ref (A 5))] [])) _
    refine XS.aloadN X0.here hx rfl (hb hby own_d_prog_57_method_4_code_0) rfl rfl ?_
    show Steps p.tables e below (s₁.setTop (mkF m 1 #[.val (.ref (A 5))] [(.ref (A 5))])) _
    refine st187 _ ?_
    show Steps p.tables e below (T187.setTop (mkF m 4 #[.val (.ref (A 5))] [(.ref (A 10))])) _
    exact retOut X187 hx Bd.returns rfl (Or.inr (Or.inr (Or.inr (Or.inr ⟨rfl, rfl, rfl⟩)))) (hb hby own_d_prog_57_method_4_code_4) hr
  · show PQ (some (.ref (A 10))) h0 n0 _ T187.heap _
    rw [e187]
    exact ⟨rfl, N0, rfl⟩
theorem own_ef_rm49 (m : MethodId) (p1 : Int32) (A : Nat → Addr) (K : Nat → ClassId) (cs : Int32)  (sb190 : Addr) (kc190 : ClassId) : entryFrame m #[(.ref (A 16)), (.ref sb190)] 3 = mkF m 0 #[.val (.ref (A 16)), .val (.ref sb190), .unset] [] := by first | (simp [entryFrame, mkF, argsToLocals, Value.category, maxLocals]; done) | rfl
set_option maxRecDepth 65536 in
set_option maxHeartbeats 40000000 in
theorem rm49 (l : Launch) (Z : State) (a0 : Array Value) (hw : ∀ d ∈ tables_1, d.before a0 Z = true) (ws : List Jvm.Cond) (h0 : Heap) (n0 : Nat) (p1 : Int32) (A : Nat → Addr) (K : Nat → ClassId) (cs : Int32)  (sb190 : Addr) (kc190 : ClassId) (EN : own_St Z A K cs) (OL0 : Old Z n0 h0) (G_A_sb190 : Arv Z h0 sb190 kc190 .byte (2 : Int32) [(.int (60 : Int32)), (.int (62 : Int32))] (.int (0 : Int32))) :
    MetFree l own_m7 (head1 (Jvm.Cond.code own_m7 jdk_43_method_13_code 3 (some .boolean) :: ws) ({ frames := 0, cells := 0, slots := 0, locals := 0 } : Room)) (fun a U => a = #[(.ref (A 16)), (.ref sb190)] ∧ Z.Warmed39 U.vm ∧ U.heap = h0) (fun _ _ _ _ _ => True) (fun _ U o U' => ∃ v L, o = .returned v ∧ (PQ (some (.int (0 : Int32))) h0 n0) v U'.heap L ∧ FrameEnd U o U' L ({ frames := 0, cells := 0, slots := 0, locals := 0 } : Room).cells ({ frames := 0, cells := 0, slots := 0, locals := 0 } : Room).slots) := by
  refine MetFree.of_bodySF (plainFor_of_name own_pn1) hisR ?_
  intro p e s m args below meth c s₁ Bd hml0 hP hK
  obtain ⟨rfl, hZ, hh⟩ := hP
  have hx := Bd.exec
  have hby := Bd.bytes
  have hml : c.maxLocals = 3 := hml0
  have hown : s.vm.findClass "java/lang/StringLatin1" = some m.cls := findClass_of_methodNamed Bd.named
  have hnm := (name_of_methodNamed Bd.named Bd.method).1
  have X0 : Stand p l e ({ frames := 0, cells := 0, slots := 0, locals := 0 } : Room) s m #[(.ref (A 16)), (.ref sb190)] below meth c s₁ [] 0 0 := Stand.of_body Bd
  have e0 : s₁.heap = h0 := by rw [← hh, Bd.state]; rfl
  have N0 := Fr.nil n0
  have pre0 : ∀ t, Steps p.tables e below (s₁.setTop (mkF m 0 #[.val (.ref (A 16)), .val (.ref sb190), .unset] [])) t → Steps p.tables e below (s₁.setTop (entryFrame m #[(.ref (A 16)), (.ref sb190)] 3)) t := fun t k => castTop (own_ef_rm49 m p1 A K cs sb190 kc190) k
  have KK0 : Keep h0 h0 [] := Keep.refl _ _
  obtain ⟨cl198, Ar198, -, Sz198, Nn198, -, -⟩ := (id (EN.2.2.2.2.1.2.1.ext OL0.2))
  obtain ⟨cl199, Ar199, -, Sz199, Nn199, -, -⟩ := (id G_A_sb190)
  obtain ⟨cl200, Ar200, -, Sz200, Nn200, -, -⟩ := (id (EN.2.2.2.2.1.2.1.ext OL0.2))
  obtain ⟨cl201, Ar201, q201, Sz201, Nn201, Hh201, Gg201⟩ := (id (EN.2.2.2.2.1.2.1.ext OL0.2))
  have hin201 : ¬ ((0 : Int32) < 0 ∨ cl201.slots.size ≤ ((0 : Int32)).toNatClampNeg) := inb_of Sz201 ⟨by decide, by decide⟩
  have hat201 : cl201.slots[((0 : Int32)).toNatClampNeg]? = some (.int (62 : Int32)) := Has.at Hh201 hin201 rfl
  obtain ⟨cl202, Ar202, q202, Sz202, Nn202, Hh202, Gg202⟩ := (id G_A_sb190)
  have hin202 : ¬ ((0 : Int32) < 0 ∨ cl202.slots.size ≤ ((0 : Int32)).toNatClampNeg) := inb_of Sz202 ⟨by decide, by decide⟩
  have hat202 : cl202.slots[((0 : Int32)).toNatClampNeg]? = some (.int (60 : Int32)) := Has.at Hh202 hin202 rfl
  obtain ⟨fs, hr, hrun, hended, hW, hsame⟩ := X0.leave (v := some (.int (0 : Int32))) (fun h => by rw [Bd.returns] at h; cases h)
  refine ⟨_, _, pre0 _ ?_, hrun, hended, _, _, rfl, ?_, ⟨_, rfl⟩, hW, hsame.mono (by decide) (by decide)⟩
  · show Steps p.tables e below (s₁.setTop (mkF m 0 #[.val (.ref (A 16)), .val (.ref sb190), .unset] [])) _
    refine XS.aloadN X0.here hx rfl (hb hby own_d_jdk_43_method_13_code_0) rfl rfl ?_
    show Steps p.tables e below (s₁.setTop (mkF m 1 #[.val (.ref (A 16)), .val (.ref sb190), .unset] [(.ref (A 16))])) _
    refine X0.arraylength hx (by rw [e0]; exact Ar198.1) (State.isArrayOf_alike hZ.alike Ar198.2.1) (g := (mkF m 1 #[.val (.ref (A 16)), .val (.ref sb190), .unset] [(.ref (A 16))])) rfl rfl (hb hby own_d_jdk_43_method_13_code_1) _ ?_
    rw [len_of Sz198 Nn198]
    show Steps p.tables e below (s₁.setTop (mkF m 2 #[.val (.ref (A 16)), .val (.ref sb190), .unset] [(.int (2 : Int32))])) _
    refine XS.aloadN X0.here hx rfl (hb hby own_d_jdk_43_method_13_code_2) rfl rfl ?_
    show Steps p.tables e below (s₁.setTop (mkF m 3 #[.val (.ref (A 16)), .val (.ref sb190), .unset] [(.ref sb190), (.int (2 : Int32))])) _
    refine X0.arraylength hx (by rw [e0]; exact Ar199.1) (State.isArrayOf_alike hZ.alike Ar199.2.1) (g := (mkF m 3 #[.val (.ref (A 16)), .val (.ref sb190), .unset] [(.ref sb190), (.int (2 : Int32))])) rfl rfl (hb hby own_d_jdk_43_method_13_code_3) _ ?_
    rw [len_of Sz199 Nn199]
    show Steps p.tables e below (s₁.setTop (mkF m 4 #[.val (.ref (A 16)), .val (.ref sb190), .unset] [(.int (2 : Int32)), (.int (2 : Int32))])) _
    refine XS.icmpNo X0.here hx rfl (hb hby own_d_jdk_43_method_13_code_4) rfl (teq (by decide : (2 : Int32) = (2 : Int32))).2 ?_
    show Steps p.tables e below (s₁.setTop (mkF m 7 #[.val (.ref (A 16)), .val (.ref sb190), .unset] [])) _
    refine XS.iconst X0.here hx rfl (hb hby own_d_jdk_43_method_13_code_7) ?_
    show Steps p.tables e below (s₁.setTop (mkF m 8 #[.val (.ref (A 16)), .val (.ref sb190), .unset] [(.int (0 : Int32))])) _
    refine XS.istoreN X0.here hx rfl (hb hby own_d_jdk_43_method_13_code_8) rfl (l' := #[.val (.ref (A 16)), .val (.ref sb190), .val (.int (0 : Int32))]) rfl ?_
    show Steps p.tables e below (s₁.setTop (mkF m 9 #[.val (.ref (A 16)), .val (.ref sb190), .val (.int (0 : Int32))] [])) _
    refine XS.iloadN X0.here hx rfl (hb hby own_d_jdk_43_method_13_code_9) rfl ?_
    show Steps p.tables e below (s₁.setTop (mkF m 10 #[.val (.ref (A 16)), .val (.ref sb190), .val (.int (0 : Int32))] [(.int (0 : Int32))])) _
    refine XS.aloadN X0.here hx rfl (hb hby own_d_jdk_43_method_13_code_10) rfl rfl ?_
    show Steps p.tables e below (s₁.setTop (mkF m 11 #[.val (.ref (A 16)), .val (.ref sb190), .val (.int (0 : Int32))] [(.ref (A 16)), (.int (0 : Int32))])) _
    refine X0.arraylength hx (by rw [e0]; exact Ar200.1) (State.isArrayOf_alike hZ.alike Ar200.2.1) (g := (mkF m 11 #[.val (.ref (A 16)), .val (.ref sb190), .val (.int (0 : Int32))] [(.ref (A 16)), (.int (0 : Int32))])) rfl rfl (hb hby own_d_jdk_43_method_13_code_11) _ ?_
    rw [len_of Sz200 Nn200]
    show Steps p.tables e below (s₁.setTop (mkF m 12 #[.val (.ref (A 16)), .val (.ref sb190), .val (.int (0 : Int32))] [(.int (2 : Int32)), (.int (0 : Int32))])) _
    refine XS.icmpNo X0.here hx rfl (hb hby own_d_jdk_43_method_13_code_12) rfl (tlt (by decide : (0 : Int32) < (2 : Int32))).2.1 ?_
    show Steps p.tables e below (s₁.setTop (mkF m 15 #[.val (.ref (A 16)), .val (.ref sb190), .val (.int (0 : Int32))] [])) _
    refine XS.aloadN X0.here hx rfl (hb hby own_d_jdk_43_method_13_code_15) rfl rfl ?_
    show Steps p.tables e below (s₁.setTop (mkF m 16 #[.val (.ref (A 16)), .val (.ref sb190), .val (.int (0 : Int32))] [(.ref (A 16))])) _
    refine XS.iloadN X0.here hx rfl (hb hby own_d_jdk_43_method_13_code_16) rfl ?_
    show Steps p.tables e below (s₁.setTop (mkF m 17 #[.val (.ref (A 16)), .val (.ref sb190), .val (.int (0 : Int32))] [(.int (0 : Int32)), (.ref (A 16))])) _
    refine X0.baloadBytes hx (j := (0 : Int32)) (v := (.int (62 : Int32))) (by rw [e0]; exact Ar201.1) (State.isArrayOf_alike hZ.alike Ar201.2.1) Ar201.2.2 hin201 hat201 (g := (mkF m 17 #[.val (.ref (A 16)), .val (.ref sb190), .val (.int (0 : Int32))] [(.int (0 : Int32)), (.ref (A 16))])) rfl rfl (hb hby own_d_jdk_43_method_13_code_17) _ ?_
    show Steps p.tables e below (s₁.setTop (mkF m 18 #[.val (.ref (A 16)), .val (.ref sb190), .val (.int (0 : Int32))] [(.int (62 : Int32))])) _
    refine XS.aloadN X0.here hx rfl (hb hby own_d_jdk_43_method_13_code_18) rfl rfl ?_
    show Steps p.tables e below (s₁.setTop (mkF m 19 #[.val (.ref (A 16)), .val (.ref sb190), .val (.int (0 : Int32))] [(.ref sb190), (.int (62 : Int32))])) _
    refine XS.iloadN X0.here hx rfl (hb hby own_d_jdk_43_method_13_code_19) rfl ?_
    show Steps p.tables e below (s₁.setTop (mkF m 20 #[.val (.ref (A 16)), .val (.ref sb190), .val (.int (0 : Int32))] [(.int (0 : Int32)), (.ref sb190), (.int (62 : Int32))])) _
    refine X0.baloadBytes hx (j := (0 : Int32)) (v := (.int (60 : Int32))) (by rw [e0]; exact Ar202.1) (State.isArrayOf_alike hZ.alike Ar202.2.1) Ar202.2.2 hin202 hat202 (g := (mkF m 20 #[.val (.ref (A 16)), .val (.ref sb190), .val (.int (0 : Int32))] [(.int (0 : Int32)), (.ref sb190), (.int (62 : Int32))])) rfl rfl (hb hby own_d_jdk_43_method_13_code_20) _ ?_
    show Steps p.tables e below (s₁.setTop (mkF m 21 #[.val (.ref (A 16)), .val (.ref sb190), .val (.int (0 : Int32))] [(.int (60 : Int32)), (.int (62 : Int32))])) _
    refine XS.icmpNo X0.here hx rfl (hb hby own_d_jdk_43_method_13_code_21) rfl (feq (by decide : ¬ ((62 : Int32) = (60 : Int32)))).1 ?_
    show Steps p.tables e below (s₁.setTop (mkF m 24 #[.val (.ref (A 16)), .val (.ref sb190), .val (.int (0 : Int32))] [])) _
    refine XS.iconst X0.here hx rfl (hb hby own_d_jdk_43_method_13_code_24) ?_
    show Steps p.tables e below (s₁.setTop (mkF m 25 #[.val (.ref (A 16)), .val (.ref sb190), .val (.int (0 : Int32))] [(.int (0 : Int32))])) _
    exact retN X0 hx (t := .boolean) Bd.returns (by simp) (hb hby own_d_jdk_43_method_13_code_25) hr
  · show PQ (some (.int (0 : Int32))) h0 n0 _ s₁.heap _
    rw [e0]
    exact ⟨rfl, N0, rfl⟩
theorem own_ef_rm48 (m : MethodId) (p1 : Int32) (A : Nat → Addr) (K : Nat → ClassId) (cs : Int32)  (sb190 : Addr) (sa190 : Addr) (kc190 : ClassId) : entryFrame m #[(.ref (A 10)), (.ref sa190)] 3 = mkF m 0 #[.val (.ref (A 10)), .val (.ref sa190), .unset] [] := by first | (simp [entryFrame, mkF, argsToLocals, Value.category, maxLocals]; done) | rfl
set_option maxRecDepth 65536 in
set_option maxHeartbeats 40000000 in
theorem rm48 (l : Launch) (Z : State) (a0 : Array Value) (hw : ∀ d ∈ tables_1, d.before a0 Z = true) (ws : List Jvm.Cond) (h0 : Heap) (n0 : Nat) (p1 : Int32) (A : Nat → Addr) (K : Nat → ClassId) (cs : Int32)  (sb190 : Addr) (sa190 : Addr) (kc190 : ClassId) (EN : own_St Z A K cs) (OL0 : Old Z n0 h0) (G_F_sa190_java_lang_String_value : Fld Z h0 sa190 "java/lang/String" "value" "[B" (.ref sb190)) (G_A_sb190 : Arv Z h0 sb190 kc190 .byte (2 : Int32) [(.int (60 : Int32)), (.int (62 : Int32))] (.int (0 : Int32))) (G_E_sa190 : Exa Z h0 sa190 "java/lang/String") (G_F_sa190_java_lang_String_coder : Fld Z h0 sa190 "java/lang/String" "coder" "B" (.int (0 : Int32))) :
    MetFree l own_m2 (head1 (Jvm.Cond.code own_m2 jdk_42_method_66_code 3 (some .boolean) :: ws) ({ frames := 1, cells := 0, slots := 0, locals := 14 } : Room)) (fun a U => a = #[(.ref (A 10)), (.ref sa190)] ∧ Z.Warmed39 U.vm ∧ U.heap = h0) (fun _ _ _ _ _ => True) (fun _ U o U' => ∃ v L, o = .returned v ∧ (PQ (some (.int (0 : Int32))) h0 n0) v U'.heap L ∧ FrameEnd U o U' L ({ frames := 1, cells := 0, slots := 0, locals := 14 } : Room).cells ({ frames := 1, cells := 0, slots := 0, locals := 14 } : Room).slots) := by
  refine MetFree.of_bodySF (plainFor_of_name own_pn2) hisR ?_
  intro p e s m args below meth c s₁ Bd hml0 hP hK
  obtain ⟨rfl, hZ, hh⟩ := hP
  have hx := Bd.exec
  have hby := Bd.bytes
  have hml : c.maxLocals = 3 := hml0
  have hown : s.vm.findClass "java/lang/String" = some m.cls := findClass_of_methodNamed Bd.named
  have hnm := (name_of_methodNamed Bd.named Bd.method).1
  have X0 : Stand p l e ({ frames := 1, cells := 0, slots := 0, locals := 14 } : Room) s m #[(.ref (A 10)), (.ref sa190)] below meth c s₁ [] 0 0 := Stand.of_body Bd
  have e0 : s₁.heap = h0 := by rw [← hh, Bd.state]; rfl
  have N0 := Fr.nil n0
  have pre0 : ∀ t, Steps p.tables e below (s₁.setTop (mkF m 0 #[.val (.ref (A 10)), .val (.ref sa190), .unset] [])) t → Steps p.tables e below (s₁.setTop (entryFrame m #[(.ref (A 10)), (.ref sa190)] 3)) t := fun t k => castTop (own_ef_rm48 m p1 A K cs sb190 sa190 kc190) k
  have KK0 : Keep h0 h0 [] := Keep.refl _ _
  obtain ⟨T191, X191, e191, st191⟩ := instY X0 hx hZ hown (hw _ (List.mem_of_getElem? (i := 24) rfl)) e0 (Ins.self G_E_sa190) (g := (mkF m 8 #[.val (.ref (A 10)), .val (.ref sa190), .unset] [(.ref sa190)])) rfl rfl (hb hby own_d_jdk_42_method_66_code_8)
  obtain ⟨T192, X192, e192, st192⟩ := castY X191 hx hZ hown (hw _ (List.mem_of_getElem? (i := 24) rfl)) e191 (Ins.self G_E_sa190) (g := (mkF m 15 #[.val (.ref (A 10)), .val (.ref sa190), .unset] [(.ref sa190)])) rfl rfl (hb hby own_d_jdk_42_method_66_code_15)
  obtain ⟨T193, X193, e193, st193⟩ := getS2 X192 hx hZ hown (host := "") (Or.inl (hw _ (List.mem_of_getElem? (i := 26) rfl))) Via.refl e192 (EN.2.2.2.2.1.2.2.2.2.1.ext OL0.2) (g := (mkF m 19 #[.val (.ref (A 10)), .val (.ref sa190), .val (.ref sa190)] [])) rfl (hb hby own_d_jdk_42_method_66_code_19)
  obtain ⟨T194, X194, e194, st194⟩ := getF X193 hx hZ hown (host := "") (Or.inl (hw _ (List.mem_of_getElem? (i := 27) rfl))) Via.refl e193 (EN.2.2.2.2.2.1.2.2.2.2.2.2.2.1.ext OL0.2) (g := (mkF m 26 #[.val (.ref (A 10)), .val (.ref sa190), .val (.ref sa190)] [(.ref (A 10))])) rfl rfl (hb hby own_d_jdk_42_method_66_code_26)
  obtain ⟨T195, X195, e195, st195⟩ := getF X194 hx hZ hown (host := "") (Or.inl (hw _ (List.mem_of_getElem? (i := 27) rfl))) Via.refl e194 G_F_sa190_java_lang_String_coder (g := (mkF m 30 #[.val (.ref (A 10)), .val (.ref sa190), .val (.ref sa190)] [(.ref sa190), (.int (0 : Int32))])) rfl rfl (hb hby own_d_jdk_42_method_66_code_30)
  obtain ⟨T196, X196, e196, st196⟩ := getF X195 hx hZ hown (host := "") (Or.inl (hw _ (List.mem_of_getElem? (i := 28) rfl))) Via.refl e195 (EN.2.2.2.2.1.1.ext OL0.2) (g := (mkF m 37 #[.val (.ref (A 10)), .val (.ref sa190), .val (.ref sa190)] [(.ref (A 10))])) rfl rfl (hb hby own_d_jdk_42_method_66_code_37)
  obtain ⟨T197, X197, e197, st197⟩ := getF X196 hx hZ hown (host := "") (Or.inl (hw _ (List.mem_of_getElem? (i := 28) rfl))) Via.refl e196 G_F_sa190_java_lang_String_value (g := (mkF m 41 #[.val (.ref (A 10)), .val (.ref sa190), .val (.ref sa190)] [(.ref sa190), (.ref (A 16))])) rfl rfl (hb hby own_d_jdk_42_method_66_code_41)
  obtain ⟨_, _, ⟨T203, L203, k203, n203⟩, -, X203, ⟨Lc203, hQ203, l203, y203, z203⟩, st203⟩ := Jvm.LawKit.callS X197 hx (y := own_m7) hown (mvT hZ (hw _ (List.mem_of_getElem? (i := 29) rfl))) (mvT hZ (hw _ (List.mem_of_getElem? (i := 30) rfl))) (mvT hZ (hw _ (List.mem_of_getElem? (i := 31) rfl))) (mvT hZ (hw _ (List.mem_of_getElem? (i := 32) rfl))) (by decide) (backOf (W := 0) (rm49 l Z a0 hw [] h0 n0 p1 A K cs sb190 kc190 EN OL0 G_A_sb190) hZ (hw _ (List.mem_of_getElem? (i := 32) rfl)) (hw _ (List.mem_of_getElem? (i := 31) rfl)) (by decide) (by decide)) (g := (mkF m 44 #[.val (.ref (A 10)), .val (.ref sa190), .val (.ref sa190)] [(.ref sb190), (.ref (A 16))])) rfl (by rw [hml]; rfl) (argsL := [(.ref (A 16)), (.ref sb190)]) (rest := []) (lenOf own_pd1 rfl) rfl (by show 2 * 0 + _ ≤ _; exact Nat.le_of_eq rfl) (hb hby own_d_jdk_42_method_66_code_44) (fun _ _ => ⟨rfl, e197, (by decide : 0 + 0 ≤ _), (by decide : 0 + 0 ≤ _)⟩)
  dsimp only [Pt.U, Pt.locs, Pt.cells, Pt.slots] at X203 l203 y203 z203 st203 hQ203
  subst l203 y203 z203
  obtain ⟨rfl, N203q, e203⟩ := hQ203
  have N203 := Fr.app N0 N203q
  obtain ⟨fs, hr, hrun, hended, hW, hsame⟩ := X203.leave (v := some (.int (0 : Int32))) (fun h => by rw [Bd.returns] at h; cases h)
  refine ⟨_, _, pre0 _ ?_, hrun, hended, _, _, rfl, ?_, ⟨_, rfl⟩, hW, hsame.mono (by decide) (by decide)⟩
  · show Steps p.tables e below (s₁.setTop (mkF m 0 #[.val (.ref (A 10)), .val (.ref sa190), .unset] [])) _
    refine XS.aloadN X0.here hx rfl (hb hby own_d_jdk_42_method_66_code_0) rfl rfl ?_
    show Steps p.tables e below (s₁.setTop (mkF m 1 #[.val (.ref (A 10)), .val (.ref sa190), .unset] [(.ref (A 10))])) _
    refine XS.aloadN X0.here hx rfl (hb hby own_d_jdk_42_method_66_code_1) rfl rfl ?_
    show Steps p.tables e below (s₁.setTop (mkF m 2 #[.val (.ref (A 10)), .val (.ref sa190), .unset] [(.ref sa190), (.ref (A 10))])) _
    refine Jvm.RoadKit.acmp (g := (mkF m 2 #[.val (.ref (A 10)), .val (.ref sa190), .unset] [(.ref sa190), (.ref (A 10))])) X0 hx rfl rfl rfl (pc0 := 2) (pc' := 7) (same := false) rfl (hb hby own_d_jdk_42_method_66_code_2) rfl (decide_eq_false fun q => (Fld.ne (EN.2.2.2.2.1.1.ext OL0.2) G_F_sa190_java_lang_String_value (fun h => arv_ne (EN.2.2.2.2.1.2.1.ext OL0.2) G_A_sb190 (Or.inr ⟨0, by decide, fun h => by injection h with h; exact absurd h (by decide)⟩) (Value.ref.inj h))) (Value.ref.inj q)) (by decide) (by decide) ?_
    show Steps p.tables e below (s₁.setTop (mkF m 7 #[.val (.ref (A 10)), .val (.ref sa190), .unset] [])) _
    refine XS.aloadN X0.here hx rfl (hb hby own_d_jdk_42_method_66_code_7) rfl rfl ?_
    show Steps p.tables e below (s₁.setTop (mkF m 8 #[.val (.ref (A 10)), .val (.ref sa190), .unset] [(.ref sa190)])) _
    refine st191 _ ?_
    show Steps p.tables e below (T191.setTop (mkF m 11 #[.val (.ref (A 10)), .val (.ref sa190), .unset] [(.int (1 : Int32))])) _
    refine XS.ifNo X191.here hx rfl (hb hby own_d_jdk_42_method_66_code_11) rfl ((if0 _ _).trans (feq (by decide : ¬ ((1 : Int32) = (0 : Int32)))).1) ?_
    show Steps p.tables e below (T191.setTop (mkF m 14 #[.val (.ref (A 10)), .val (.ref sa190), .unset] [])) _
    refine XS.aloadN X191.here hx rfl (hb hby own_d_jdk_42_method_66_code_14) rfl rfl ?_
    show Steps p.tables e below (T191.setTop (mkF m 15 #[.val (.ref (A 10)), .val (.ref sa190), .unset] [(.ref sa190)])) _
    refine st192 _ ?_
    show Steps p.tables e below (T192.setTop (mkF m 18 #[.val (.ref (A 10)), .val (.ref sa190), .unset] [(.ref sa190)])) _
    refine XS.astoreN X192.here hx rfl (hb hby own_d_jdk_42_method_66_code_18) rfl rfl (l' := #[.val (.ref (A 10)), .val (.ref sa190), .val (.ref sa190)]) rfl ?_
    show Steps p.tables e below (T192.setTop (mkF m 19 #[.val (.ref (A 10)), .val (.ref sa190), .val (.ref sa190)] [])) _
    refine st193 _ ?_
    show Steps p.tables e below (T193.setTop (mkF m 22 #[.val (.ref (A 10)), .val (.ref sa190), .val (.ref sa190)] [(.int cs)])) _
    refine XS.ifNo X193.here hx rfl (hb hby own_d_jdk_42_method_66_code_22) rfl ((if0 _ _).trans (feq EN.2.2.2.2.1.2.2.2.2.2.1).1) ?_
    show Steps p.tables e below (T193.setTop (mkF m 25 #[.val (.ref (A 10)), .val (.ref sa190), .val (.ref sa190)] [])) _
    refine XS.aloadN X193.here hx rfl (hb hby own_d_jdk_42_method_66_code_25) rfl rfl ?_
    show Steps p.tables e below (T193.setTop (mkF m 26 #[.val (.ref (A 10)), .val (.ref sa190), .val (.ref sa190)] [(.ref (A 10))])) _
    refine st194 _ ?_
    show Steps p.tables e below (T194.setTop (mkF m 29 #[.val (.ref (A 10)), .val (.ref sa190), .val (.ref sa190)] [(.int (0 : Int32))])) _
    refine XS.aloadN X194.here hx rfl (hb hby own_d_jdk_42_method_66_code_29) rfl rfl ?_
    show Steps p.tables e below (T194.setTop (mkF m 30 #[.val (.ref (A 10)), .val (.ref sa190), .val (.ref sa190)] [(.ref sa190), (.int (0 : Int32))])) _
    refine st195 _ ?_
    show Steps p.tables e below (T195.setTop (mkF m 33 #[.val (.ref (A 10)), .val (.ref sa190), .val (.ref sa190)] [(.int (0 : Int32)), (.int (0 : Int32))])) _
    refine XS.icmpNo X195.here hx rfl (hb hby own_d_jdk_42_method_66_code_33) rfl (teq (by decide : (0 : Int32) = (0 : Int32))).2 ?_
    show Steps p.tables e below (T195.setTop (mkF m 36 #[.val (.ref (A 10)), .val (.ref sa190), .val (.ref sa190)] [])) _
    refine XS.aloadN X195.here hx rfl (hb hby own_d_jdk_42_method_66_code_36) rfl rfl ?_
    show Steps p.tables e below (T195.setTop (mkF m 37 #[.val (.ref (A 10)), .val (.ref sa190), .val (.ref sa190)] [(.ref (A 10))])) _
    refine st196 _ ?_
    show Steps p.tables e below (T196.setTop (mkF m 40 #[.val (.ref (A 10)), .val (.ref sa190), .val (.ref sa190)] [(.ref (A 16))])) _
    refine XS.aloadN X196.here hx rfl (hb hby own_d_jdk_42_method_66_code_40) rfl rfl ?_
    show Steps p.tables e below (T196.setTop (mkF m 41 #[.val (.ref (A 10)), .val (.ref sa190), .val (.ref sa190)] [(.ref sa190), (.ref (A 16))])) _
    refine st197 _ ?_
    show Steps p.tables e below (T197.setTop (mkF m 44 #[.val (.ref (A 10)), .val (.ref sa190), .val (.ref sa190)] [(.ref sb190), (.ref (A 16))])) _
    refine st203 _ ?_
    show Steps p.tables e below (T203.setTop (mkF m 47 #[.val (.ref (A 10)), .val (.ref sa190), .val (.ref sa190)] [(.int (0 : Int32))])) _
    refine XS.ifYes X203.here hx rfl (pc0 := 47) (pc' := 54) rfl (hb hby own_d_jdk_42_method_66_code_47) rfl ((if0 _ _).trans (teq (by decide : (0 : Int32) = (0 : Int32))).1) (by decide) (by decide) ?_
    show Steps p.tables e below (T203.setTop (mkF m 54 #[.val (.ref (A 10)), .val (.ref sa190), .val (.ref sa190)] [])) _
    refine XS.iconst X203.here hx rfl (hb hby own_d_jdk_42_method_66_code_54) ?_
    show Steps p.tables e below (T203.setTop (mkF m 55 #[.val (.ref (A 10)), .val (.ref sa190), .val (.ref sa190)] [(.int (0 : Int32))])) _
    exact retN X203 hx (t := .boolean) Bd.returns (by simp) (hb hby own_d_jdk_42_method_66_code_55) hr
  · show PQ (some (.int (0 : Int32))) h0 n0 _ T203.heap _
    rw [e203]
    exact ⟨rfl, N203, rfl⟩
theorem own_ef_rm51 (m : MethodId) (p1 : Int32) (A : Nat → Addr) (K : Nat → ClassId) (cs : Int32)  : entryFrame m #[(.ref (A 10))] 1 = mkF m 0 #[.val (.ref (A 10))] [] := by first | (simp [entryFrame, mkF, argsToLocals, Value.category, maxLocals]; done) | rfl
set_option maxRecDepth 65536 in
set_option maxHeartbeats 40000000 in
theorem rm51 (l : Launch) (Z : State) (a0 : Array Value) (hw : ∀ d ∈ tables_1, d.before a0 Z = true) (ws : List Jvm.Cond) (h0 : Heap) (n0 : Nat) (p1 : Int32) (A : Nat → Addr) (K : Nat → ClassId) (cs : Int32)  (EN : own_St Z A K cs) (OL0 : Old Z n0 h0) :
    MetFree l own_m4 (head1 (Jvm.Cond.code own_m4 jdk_42_method_152_code 1 (some .byte) :: ws) ({ frames := 0, cells := 0, slots := 0, locals := 0 } : Room)) (fun a U => a = #[(.ref (A 10))] ∧ Z.Warmed39 U.vm ∧ U.heap = h0) (fun _ _ _ _ _ => True) (fun _ U o U' => ∃ v L, o = .returned v ∧ (PQ (some (.int (0 : Int32))) h0 n0) v U'.heap L ∧ FrameEnd U o U' L ({ frames := 0, cells := 0, slots := 0, locals := 0 } : Room).cells ({ frames := 0, cells := 0, slots := 0, locals := 0 } : Room).slots) := by
  refine MetFree.of_bodySF (plainFor_of_name own_pn2) hisR ?_
  intro p e s m args below meth c s₁ Bd hml0 hP hK
  obtain ⟨rfl, hZ, hh⟩ := hP
  have hx := Bd.exec
  have hby := Bd.bytes
  have hml : c.maxLocals = 1 := hml0
  have hown : s.vm.findClass "java/lang/String" = some m.cls := findClass_of_methodNamed Bd.named
  have hnm := (name_of_methodNamed Bd.named Bd.method).1
  have X0 : Stand p l e ({ frames := 0, cells := 0, slots := 0, locals := 0 } : Room) s m #[(.ref (A 10))] below meth c s₁ [] 0 0 := Stand.of_body Bd
  have e0 : s₁.heap = h0 := by rw [← hh, Bd.state]; rfl
  have N0 := Fr.nil n0
  have pre0 : ∀ t, Steps p.tables e below (s₁.setTop (mkF m 0 #[.val (.ref (A 10))] [])) t → Steps p.tables e below (s₁.setTop (entryFrame m #[(.ref (A 10))] 1)) t := fun t k => castTop (own_ef_rm51 m p1 A K cs ) k
  have KK0 : Keep h0 h0 [] := Keep.refl _ _
  obtain ⟨T207, X207, e207, st207⟩ := getS2 X0 hx hZ hown (host := "") (Or.inl (hw _ (List.mem_of_getElem? (i := 26) rfl))) Via.refl e0 (EN.2.2.2.2.1.2.2.2.2.1.ext OL0.2) (g := (mkF m 0 #[.val (.ref (A 10))] [])) rfl (hb hby own_d_jdk_42_method_152_code_0)
  obtain ⟨T208, X208, e208, st208⟩ := getF X207 hx hZ hown (host := "") (Or.inl (hw _ (List.mem_of_getElem? (i := 27) rfl))) Via.refl e207 (EN.2.2.2.2.2.1.2.2.2.2.2.2.2.1.ext OL0.2) (g := (mkF m 7 #[.val (.ref (A 10))] [(.ref (A 10))])) rfl rfl (hb hby own_d_jdk_42_method_152_code_7)
  obtain ⟨fs, hr, hrun, hended, hW, hsame⟩ := X208.leave (v := some (.int (0 : Int32))) (fun h => by rw [Bd.returns] at h; cases h)
  refine ⟨_, _, pre0 _ ?_, hrun, hended, _, _, rfl, ?_, ⟨_, rfl⟩, hW, hsame.mono (by decide) (by decide)⟩
  · show Steps p.tables e below (s₁.setTop (mkF m 0 #[.val (.ref (A 10))] [])) _
    refine st207 _ ?_
    show Steps p.tables e below (T207.setTop (mkF m 3 #[.val (.ref (A 10))] [(.int cs)])) _
    refine XS.ifNo X207.here hx rfl (hb hby own_d_jdk_42_method_152_code_3) rfl ((if0 _ _).trans (feq EN.2.2.2.2.1.2.2.2.2.2.1).1) ?_
    show Steps p.tables e below (T207.setTop (mkF m 6 #[.val (.ref (A 10))] [])) _
    refine XS.aloadN X207.here hx rfl (hb hby own_d_jdk_42_method_152_code_6) rfl rfl ?_
    show Steps p.tables e below (T207.setTop (mkF m 7 #[.val (.ref (A 10))] [(.ref (A 10))])) _
    refine st208 _ ?_
    show Steps p.tables e below (T208.setTop (mkF m 10 #[.val (.ref (A 10))] [(.int (0 : Int32))])) _
    refine XS.goto X208.here hx rfl (pc0 := 10) (pc' := 14) rfl (hb hby own_d_jdk_42_method_152_code_10) (by decide) (by decide) ?_
    show Steps p.tables e below (T208.setTop (mkF m 14 #[.val (.ref (A 10))] [(.int (0 : Int32))])) _
    exact retN X208 hx (t := .byte) Bd.returns (by simp) (hb hby own_d_jdk_42_method_152_code_14) hr
  · show PQ (some (.int (0 : Int32))) h0 n0 _ T208.heap _
    rw [e208]
    exact ⟨rfl, N0, rfl⟩
theorem own_ef_rm50 (m : MethodId) (p1 : Int32) (A : Nat → Addr) (K : Nat → ClassId) (cs : Int32)  : entryFrame m #[(.ref (A 10))] 1 = mkF m 0 #[.val (.ref (A 10))] [] := by first | (simp [entryFrame, mkF, argsToLocals, Value.category, maxLocals]; done) | rfl
set_option maxRecDepth 65536 in
set_option maxHeartbeats 40000000 in
theorem rm50 (l : Launch) (Z : State) (a0 : Array Value) (hw : ∀ d ∈ tables_1, d.before a0 Z = true) (ws : List Jvm.Cond) (h0 : Heap) (n0 : Nat) (p1 : Int32) (A : Nat → Addr) (K : Nat → ClassId) (cs : Int32)  (EN : own_St Z A K cs) (OL0 : Old Z n0 h0) :
    MetFree l own_m5 (head1 (Jvm.Cond.code own_m5 jdk_42_method_54_code 1 (some .int) :: ws) ({ frames := 1, cells := 0, slots := 0, locals := 13 } : Room)) (fun a U => a = #[(.ref (A 10))] ∧ Z.Warmed39 U.vm ∧ U.heap = h0) (fun _ _ _ _ _ => True) (fun _ U o U' => ∃ v L, o = .returned v ∧ (PQ (some (.int (2 : Int32))) h0 n0) v U'.heap L ∧ FrameEnd U o U' L ({ frames := 1, cells := 0, slots := 0, locals := 13 } : Room).cells ({ frames := 1, cells := 0, slots := 0, locals := 13 } : Room).slots) := by
  refine MetFree.of_bodySF (plainFor_of_name own_pn2) hisR ?_
  intro p e s m args below meth c s₁ Bd hml0 hP hK
  obtain ⟨rfl, hZ, hh⟩ := hP
  have hx := Bd.exec
  have hby := Bd.bytes
  have hml : c.maxLocals = 1 := hml0
  have hown : s.vm.findClass "java/lang/String" = some m.cls := findClass_of_methodNamed Bd.named
  have hnm := (name_of_methodNamed Bd.named Bd.method).1
  have X0 : Stand p l e ({ frames := 1, cells := 0, slots := 0, locals := 13 } : Room) s m #[(.ref (A 10))] below meth c s₁ [] 0 0 := Stand.of_body Bd
  have e0 : s₁.heap = h0 := by rw [← hh, Bd.state]; rfl
  have N0 := Fr.nil n0
  have pre0 : ∀ t, Steps p.tables e below (s₁.setTop (mkF m 0 #[.val (.ref (A 10))] [])) t → Steps p.tables e below (s₁.setTop (entryFrame m #[(.ref (A 10))] 1)) t := fun t k => castTop (own_ef_rm50 m p1 A K cs ) k
  have KK0 : Keep h0 h0 [] := Keep.refl _ _
  obtain ⟨T205, X205, e205, st205⟩ := getF X0 hx hZ hown (host := "") (Or.inl (hw _ (List.mem_of_getElem? (i := 28) rfl))) Via.refl e0 (EN.2.2.2.2.1.1.ext OL0.2) (g := (mkF m 1 #[.val (.ref (A 10))] [(.ref (A 10))])) rfl rfl (hb hby own_d_jdk_42_method_54_code_1)
  obtain ⟨cl206, Ar206, -, Sz206, Nn206, -, -⟩ := (id (EN.2.2.2.2.1.2.1.ext OL0.2))
  obtain ⟨cq209, kq209, q209a, q209b, q209c⟩ := isOf hZ e205 (EN.2.2.1.2.2.2.2.2.1.ext OL0.2)
  obtain ⟨_, _, ⟨T209, L209, k209, n209⟩, -, X209, ⟨Lc209, hQ209, l209, y209, z209⟩, st209⟩ := X205.virtualBack hx (y := own_m4) (z := own_m4) hown (mvT hZ (hw _ (List.mem_of_getElem? (i := 38) rfl))) (mvT hZ (hw _ (List.mem_of_getElem? (i := 39) rfl))) (notFace_of_selects (args := #[]) (mvT hZ (hw _ (List.mem_of_getElem? (i := 41) rfl)))) (mvT hZ (hw _ (List.mem_of_getElem? (i := 41) rfl))) (mvT hZ (hw _ (List.mem_of_getElem? (i := 40) rfl))) (by decide) (backOf (W := 1) (rm51 l Z a0 hw [] h0 n0 p1 A K cs EN OL0) hZ (hw _ (List.mem_of_getElem? (i := 42) rfl)) (hw _ (List.mem_of_getElem? (i := 12) rfl)) (by decide) (by decide)) q209a q209c (g := (mkF m 6 #[.val (.ref (A 10))] [(.ref (A 10)), (.int (2 : Int32))])) rfl (by rw [hml]; rfl) (Steps.refl _) (argsL := []) (rest := [(.int (2 : Int32))]) (lenOf own_pd3 rfl) rfl (by show 2 * 0 + _ ≤ _; exact Nat.le_of_eq rfl) (hb hby own_d_jdk_42_method_54_code_6) (fun _ _ => ⟨rfl, e205, (by decide : 0 + 0 ≤ _), (by decide : 0 + 0 ≤ _)⟩)
  dsimp only [Pt.U, Pt.locs, Pt.cells, Pt.slots] at X209 l209 y209 z209 st209 hQ209
  subst l209 y209 z209
  obtain ⟨rfl, N209q, e209⟩ := hQ209
  have N209 := Fr.app N0 N209q
  obtain ⟨fs, hr, hrun, hended, hW, hsame⟩ := X209.leave (v := some (.int (2 : Int32))) (fun h => by rw [Bd.returns] at h; cases h)
  refine ⟨_, _, pre0 _ ?_, hrun, hended, _, _, rfl, ?_, ⟨_, rfl⟩, hW, hsame.mono (by decide) (by decide)⟩
  · show Steps p.tables e below (s₁.setTop (mkF m 0 #[.val (.ref (A 10))] [])) _
    refine XS.aloadN X0.here hx rfl (hb hby own_d_jdk_42_method_54_code_0) rfl rfl ?_
    show Steps p.tables e below (s₁.setTop (mkF m 1 #[.val (.ref (A 10))] [(.ref (A 10))])) _
    refine st205 _ ?_
    show Steps p.tables e below (T205.setTop (mkF m 4 #[.val (.ref (A 10))] [(.ref (A 16))])) _
    refine X205.arraylength hx (by rw [e205]; exact Ar206.1) (State.isArrayOf_alike hZ.alike Ar206.2.1) (g := (mkF m 4 #[.val (.ref (A 10))] [(.ref (A 16))])) rfl rfl (hb hby own_d_jdk_42_method_54_code_4) _ ?_
    rw [len_of Sz206 Nn206]
    show Steps p.tables e below (T205.setTop (mkF m 5 #[.val (.ref (A 10))] [(.int (2 : Int32))])) _
    refine XS.aloadN X205.here hx rfl (hb hby own_d_jdk_42_method_54_code_5) rfl rfl ?_
    show Steps p.tables e below (T205.setTop (mkF m 6 #[.val (.ref (A 10))] [(.ref (A 10)), (.int (2 : Int32))])) _
    refine st209.trans ?_
    show Steps p.tables e below (T209.setTop (mkF m 9 #[.val (.ref (A 10))] [(.int (0 : Int32)), (.int (2 : Int32))])) _
    refine XS.ishr X209.here hx rfl (hb hby own_d_jdk_42_method_54_code_9) rfl ?_
    show Steps p.tables e below (T209.setTop (mkF m 10 #[.val (.ref (A 10))] [(.int (2 : Int32))])) _
    exact retI X209 hx Bd.returns (hb hby own_d_jdk_42_method_54_code_10) hr
  · show PQ (some (.int (2 : Int32))) h0 n0 _ T209.heap _
    rw [e209]
    exact ⟨rfl, N209, rfl⟩
theorem own_ef_rm53 (m : MethodId) (p1 : Int32) (A : Nat → Addr) (K : Nat → ClassId) (cs : Int32)  : entryFrame m #[(.ref (A 10))] 1 = mkF m 0 #[.val (.ref (A 10))] [] := by first | (simp [entryFrame, mkF, argsToLocals, Value.category, maxLocals]; done) | rfl
set_option maxRecDepth 65536 in
set_option maxHeartbeats 40000000 in
theorem rm53 (l : Launch) (Z : State) (a0 : Array Value) (hw : ∀ d ∈ tables_1, d.before a0 Z = true) (ws : List Jvm.Cond) (h0 : Heap) (n0 : Nat) (p1 : Int32) (A : Nat → Addr) (K : Nat → ClassId) (cs : Int32)  (EN : own_St Z A K cs) (OL0 : Old Z n0 h0) :
    MetFree l own_m6 (head1 (Jvm.Cond.code own_m6 jdk_42_method_154_code 1 (some .boolean) :: ws) ({ frames := 0, cells := 0, slots := 0, locals := 0 } : Room)) (fun a U => a = #[(.ref (A 10))] ∧ Z.Warmed39 U.vm ∧ U.heap = h0) (fun _ _ _ _ _ => True) (fun _ U o U' => ∃ v L, o = .returned v ∧ (PQ (some (.int (1 : Int32))) h0 n0) v U'.heap L ∧ FrameEnd U o U' L ({ frames := 0, cells := 0, slots := 0, locals := 0 } : Room).cells ({ frames := 0, cells := 0, slots := 0, locals := 0 } : Room).slots) := by
  refine MetFree.of_bodySF (plainFor_of_name own_pn2) hisR ?_
  intro p e s m args below meth c s₁ Bd hml0 hP hK
  obtain ⟨rfl, hZ, hh⟩ := hP
  have hx := Bd.exec
  have hby := Bd.bytes
  have hml : c.maxLocals = 1 := hml0
  have hown : s.vm.findClass "java/lang/String" = some m.cls := findClass_of_methodNamed Bd.named
  have hnm := (name_of_methodNamed Bd.named Bd.method).1
  have X0 : Stand p l e ({ frames := 0, cells := 0, slots := 0, locals := 0 } : Room) s m #[(.ref (A 10))] below meth c s₁ [] 0 0 := Stand.of_body Bd
  have e0 : s₁.heap = h0 := by rw [← hh, Bd.state]; rfl
  have N0 := Fr.nil n0
  have pre0 : ∀ t, Steps p.tables e below (s₁.setTop (mkF m 0 #[.val (.ref (A 10))] [])) t → Steps p.tables e below (s₁.setTop (entryFrame m #[(.ref (A 10))] 1)) t := fun t k => castTop (own_ef_rm53 m p1 A K cs ) k
  have KK0 : Keep h0 h0 [] := Keep.refl _ _
  obtain ⟨T211, X211, e211, st211⟩ := getS2 X0 hx hZ hown (host := "") (Or.inl (hw _ (List.mem_of_getElem? (i := 26) rfl))) Via.refl e0 (EN.2.2.2.2.1.2.2.2.2.1.ext OL0.2) (g := (mkF m 0 #[.val (.ref (A 10))] [])) rfl (hb hby own_d_jdk_42_method_154_code_0)
  obtain ⟨T212, X212, e212, st212⟩ := getF X211 hx hZ hown (host := "") (Or.inl (hw _ (List.mem_of_getElem? (i := 27) rfl))) Via.refl e211 (EN.2.2.2.2.2.1.2.2.2.2.2.2.2.1.ext OL0.2) (g := (mkF m 7 #[.val (.ref (A 10))] [(.ref (A 10))])) rfl rfl (hb hby own_d_jdk_42_method_154_code_7)
  obtain ⟨fs, hr, hrun, hended, hW, hsame⟩ := X212.leave (v := some (.int (1 : Int32))) (fun h => by rw [Bd.returns] at h; cases h)
  refine ⟨_, _, pre0 _ ?_, hrun, hended, _, _, rfl, ?_, ⟨_, rfl⟩, hW, hsame.mono (by decide) (by decide)⟩
  · show Steps p.tables e below (s₁.setTop (mkF m 0 #[.val (.ref (A 10))] [])) _
    refine st211 _ ?_
    show Steps p.tables e below (T211.setTop (mkF m 3 #[.val (.ref (A 10))] [(.int cs)])) _
    refine XS.ifNo X211.here hx rfl (hb hby own_d_jdk_42_method_154_code_3) rfl ((if0 _ _).trans (feq EN.2.2.2.2.1.2.2.2.2.2.1).1) ?_
    show Steps p.tables e below (T211.setTop (mkF m 6 #[.val (.ref (A 10))] [])) _
    refine XS.aloadN X211.here hx rfl (hb hby own_d_jdk_42_method_154_code_6) rfl rfl ?_
    show Steps p.tables e below (T211.setTop (mkF m 7 #[.val (.ref (A 10))] [(.ref (A 10))])) _
    refine st212 _ ?_
    show Steps p.tables e below (T212.setTop (mkF m 10 #[.val (.ref (A 10))] [(.int (0 : Int32))])) _
    refine XS.ifNo X212.here hx rfl (hb hby own_d_jdk_42_method_154_code_10) rfl ((if0 _ _).trans (teq (by decide : (0 : Int32) = (0 : Int32))).2) ?_
    show Steps p.tables e below (T212.setTop (mkF m 13 #[.val (.ref (A 10))] [])) _
    refine XS.iconst X212.here hx rfl (hb hby own_d_jdk_42_method_154_code_13) ?_
    show Steps p.tables e below (T212.setTop (mkF m 14 #[.val (.ref (A 10))] [(.int (1 : Int32))])) _
    refine XS.goto X212.here hx rfl (pc0 := 14) (pc' := 18) rfl (hb hby own_d_jdk_42_method_154_code_14) (by decide) (by decide) ?_
    show Steps p.tables e below (T212.setTop (mkF m 18 #[.val (.ref (A 10))] [(.int (1 : Int32))])) _
    exact retN X212 hx (t := .boolean) Bd.returns (by simp) (hb hby own_d_jdk_42_method_154_code_18) hr
  · show PQ (some (.int (1 : Int32))) h0 n0 _ T212.heap _
    rw [e212]
    exact ⟨rfl, N0, rfl⟩
theorem own_ef_rm54 (m : MethodId) (p1 : Int32) (A : Nat → Addr) (K : Nat → ClassId) (cs : Int32)  : entryFrame m #[(.ref (A 16)), (.int (0 : Int32))] 2 = mkF m 0 #[.val (.ref (A 16)), .val (.int (0 : Int32))] [] := by first | (simp [entryFrame, mkF, argsToLocals, Value.category, maxLocals]; done) | rfl
set_option maxRecDepth 65536 in
set_option maxHeartbeats 40000000 in
theorem rm54 (l : Launch) (Z : State) (a0 : Array Value) (hw : ∀ d ∈ tables_1, d.before a0 Z = true) (ws : List Jvm.Cond) (h0 : Heap) (n0 : Nat) (p1 : Int32) (A : Nat → Addr) (K : Nat → ClassId) (cs : Int32)  (EN : own_St Z A K cs) (OL0 : Old Z n0 h0) :
    MetFree l own_m8 (head1 (Jvm.Cond.code own_m8 jdk_43_method_2_code 2 (some .char) :: ws) ({ frames := 2, cells := 0, slots := 0, locals := 27 } : Room)) (fun a U => a = #[(.ref (A 16)), (.int (0 : Int32))] ∧ Z.Warmed39 U.vm ∧ U.heap = h0) (fun _ _ _ _ _ => True) (fun _ U o U' => ∃ v L, o = .returned v ∧ (PQ (some (.int (62 : Int32))) h0 n0) v U'.heap L ∧ FrameEnd U o U' L ({ frames := 2, cells := 0, slots := 0, locals := 27 } : Room).cells ({ frames := 2, cells := 0, slots := 0, locals := 27 } : Room).slots) := by
  refine MetFree.of_bodySF (plainFor_of_name own_pn1) hisR ?_
  intro p e s m args below meth c s₁ Bd hml0 hP hK
  obtain ⟨rfl, hZ, hh⟩ := hP
  have hx := Bd.exec
  have hby := Bd.bytes
  have hml : c.maxLocals = 2 := hml0
  have hown : s.vm.findClass "java/lang/StringLatin1" = some m.cls := findClass_of_methodNamed Bd.named
  have hnm := (name_of_methodNamed Bd.named Bd.method).1
  have X0 : Stand p l e ({ frames := 2, cells := 0, slots := 0, locals := 27 } : Room) s m #[(.ref (A 16)), (.int (0 : Int32))] below meth c s₁ [] 0 0 := Stand.of_body Bd
  have e0 : s₁.heap = h0 := by rw [← hh, Bd.state]; rfl
  have N0 := Fr.nil n0
  have pre0 : ∀ t, Steps p.tables e below (s₁.setTop (mkF m 0 #[.val (.ref (A 16)), .val (.int (0 : Int32))] [])) t → Steps p.tables e below (s₁.setTop (entryFrame m #[(.ref (A 16)), (.int (0 : Int32))] 2)) t := fun t k => castTop (own_ef_rm54 m p1 A K cs ) k
  have KK0 : Keep h0 h0 [] := Keep.refl _ _
  obtain ⟨cl215, Ar215, -, Sz215, Nn215, -, -⟩ := (id (EN.2.2.2.2.1.2.1.ext OL0.2))
  obtain ⟨_, _, ⟨T216, L216, k216, n216⟩, -, X216, ⟨Lc216, hQ216, l216, y216, z216⟩, st216⟩ := Jvm.LawKit.callS X0 hx (y := own_m10) hown (mvT hZ (hw _ (List.mem_of_getElem? (i := 56) rfl))) (mvT hZ (hw _ (List.mem_of_getElem? (i := 57) rfl))) (mvT hZ (hw _ (List.mem_of_getElem? (i := 12) rfl))) (mvT hZ (hw _ (List.mem_of_getElem? (i := 58) rfl))) (by decide) (backOf (W := 0) (rm34 l Z a0 hw [] h0 n0 p1 A K cs EN OL0) hZ (hw _ (List.mem_of_getElem? (i := 58) rfl)) (hw _ (List.mem_of_getElem? (i := 12) rfl)) (by decide) (by decide)) (g := (mkF m 3 #[.val (.ref (A 16)), .val (.int (0 : Int32))] [(.int (2 : Int32)), (.int (0 : Int32))])) rfl (by rw [hml]; rfl) (argsL := [(.int (0 : Int32)), (.int (2 : Int32))]) (rest := []) (lenOf own_pd7 rfl) rfl (by show 2 * 0 + _ ≤ _; exact Nat.le_of_eq rfl) (hb hby own_d_jdk_43_method_2_code_3) (fun _ _ => ⟨rfl, e0, (by decide : 0 + 0 ≤ _), (by decide : 0 + 0 ≤ _)⟩)
  dsimp only [Pt.U, Pt.locs, Pt.cells, Pt.slots] at X216 l216 y216 z216 st216 hQ216
  subst l216 y216 z216
  obtain ⟨rfl, N216q, e216⟩ := hQ216
  have N216 := Fr.app N0 N216q
  obtain ⟨cl217, Ar217, q217, Sz217, Nn217, Hh217, Gg217⟩ := (id (EN.2.2.2.2.1.2.1.ext OL0.2))
  have hin217 : ¬ ((0 : Int32) < 0 ∨ cl217.slots.size ≤ ((0 : Int32)).toNatClampNeg) := inb_of Sz217 ⟨by decide, by decide⟩
  have hat217 : cl217.slots[((0 : Int32)).toNatClampNeg]? = some (.int (62 : Int32)) := Has.at Hh217 hin217 rfl
  obtain ⟨fs, hr, hrun, hended, hW, hsame⟩ := X216.leave (v := some (.int (62 : Int32))) (fun h => by rw [Bd.returns] at h; cases h)
  refine ⟨_, _, pre0 _ ?_, hrun, hended, _, _, rfl, ?_, ⟨_, rfl⟩, hW, hsame.mono (by decide) (by decide)⟩
  · show Steps p.tables e below (s₁.setTop (mkF m 0 #[.val (.ref (A 16)), .val (.int (0 : Int32))] [])) _
    refine XS.iloadN X0.here hx rfl (hb hby own_d_jdk_43_method_2_code_0) rfl ?_
    show Steps p.tables e below (s₁.setTop (mkF m 1 #[.val (.ref (A 16)), .val (.int (0 : Int32))] [(.int (0 : Int32))])) _
    refine XS.aloadN X0.here hx rfl (hb hby own_d_jdk_43_method_2_code_1) rfl rfl ?_
    show Steps p.tables e below (s₁.setTop (mkF m 2 #[.val (.ref (A 16)), .val (.int (0 : Int32))] [(.ref (A 16)), (.int (0 : Int32))])) _
    refine X0.arraylength hx (by rw [e0]; exact Ar215.1) (State.isArrayOf_alike hZ.alike Ar215.2.1) (g := (mkF m 2 #[.val (.ref (A 16)), .val (.int (0 : Int32))] [(.ref (A 16)), (.int (0 : Int32))])) rfl rfl (hb hby own_d_jdk_43_method_2_code_2) _ ?_
    rw [len_of Sz215 Nn215]
    show Steps p.tables e below (s₁.setTop (mkF m 3 #[.val (.ref (A 16)), .val (.int (0 : Int32))] [(.int (2 : Int32)), (.int (0 : Int32))])) _
    refine st216 _ ?_
    show Steps p.tables e below (T216.setTop (mkF m 6 #[.val (.ref (A 16)), .val (.int (0 : Int32))] [])) _
    refine XS.aloadN X216.here hx rfl (hb hby own_d_jdk_43_method_2_code_6) rfl rfl ?_
    show Steps p.tables e below (T216.setTop (mkF m 7 #[.val (.ref (A 16)), .val (.int (0 : Int32))] [(.ref (A 16))])) _
    refine XS.iloadN X216.here hx rfl (hb hby own_d_jdk_43_method_2_code_7) rfl ?_
    show Steps p.tables e below (T216.setTop (mkF m 8 #[.val (.ref (A 16)), .val (.int (0 : Int32))] [(.int (0 : Int32)), (.ref (A 16))])) _
    refine X216.baloadBytes hx (j := (0 : Int32)) (v := (.int (62 : Int32))) (by rw [e216]; exact Ar217.1) (State.isArrayOf_alike hZ.alike Ar217.2.1) Ar217.2.2 hin217 hat217 (g := (mkF m 8 #[.val (.ref (A 16)), .val (.int (0 : Int32))] [(.int (0 : Int32)), (.ref (A 16))])) rfl rfl (hb hby own_d_jdk_43_method_2_code_8) _ ?_
    show Steps p.tables e below (T216.setTop (mkF m 9 #[.val (.ref (A 16)), .val (.int (0 : Int32))] [(.int (62 : Int32))])) _
    refine XS.sipush X216.here hx rfl (hb hby own_d_jdk_43_method_2_code_9) ?_
    show Steps p.tables e below (T216.setTop (mkF m 12 #[.val (.ref (A 16)), .val (.int (0 : Int32))] [(.int (255 : Int32)), (.int (62 : Int32))])) _
    refine XS.iand X216.here hx rfl (hb hby own_d_jdk_43_method_2_code_12) rfl ?_
    show Steps p.tables e below (T216.setTop (mkF m 13 #[.val (.ref (A 16)), .val (.int (0 : Int32))] [(.int (62 : Int32))])) _
    refine XS.i2c X216.here hx rfl (hb hby own_d_jdk_43_method_2_code_13) rfl ?_
    show Steps p.tables e below (T216.setTop (mkF m 14 #[.val (.ref (A 16)), .val (.int (0 : Int32))] [(.int (62 : Int32))])) _
    exact retN X216 hx (t := .char) Bd.returns (by simp) (hb hby own_d_jdk_43_method_2_code_14) hr
  · show PQ (some (.int (62 : Int32))) h0 n0 _ T216.heap _
    rw [e216]
    exact ⟨rfl, N216, rfl⟩
theorem own_ef_rm52 (m : MethodId) (p1 : Int32) (A : Nat → Addr) (K : Nat → ClassId) (cs : Int32)  : entryFrame m #[(.ref (A 10)), (.int (0 : Int32))] 2 = mkF m 0 #[.val (.ref (A 10)), .val (.int (0 : Int32))] [] := by first | (simp [entryFrame, mkF, argsToLocals, Value.category, maxLocals]; done) | rfl
set_option maxRecDepth 65536 in
set_option maxHeartbeats 40000000 in
theorem rm52 (l : Launch) (Z : State) (a0 : Array Value) (hw : ∀ d ∈ tables_1, d.before a0 Z = true) (ws : List Jvm.Cond) (h0 : Heap) (n0 : Nat) (p1 : Int32) (A : Nat → Addr) (K : Nat → ClassId) (cs : Int32)  (EN : own_St Z A K cs) (OL0 : Old Z n0 h0) :
    MetFree l own_m0 (head1 (Jvm.Cond.code own_m0 jdk_42_method_56_code 2 (some .char) :: ws) ({ frames := 3, cells := 0, slots := 0, locals := 40 } : Room)) (fun a U => a = #[(.ref (A 10)), (.int (0 : Int32))] ∧ Z.Warmed39 U.vm ∧ U.heap = h0) (fun _ _ _ _ _ => True) (fun _ U o U' => ∃ v L, o = .returned v ∧ (PQ (some (.int (62 : Int32))) h0 n0) v U'.heap L ∧ FrameEnd U o U' L ({ frames := 3, cells := 0, slots := 0, locals := 40 } : Room).cells ({ frames := 3, cells := 0, slots := 0, locals := 40 } : Room).slots) := by
  refine MetFree.of_bodySF (plainFor_of_name own_pn2) hisR ?_
  intro p e s m args below meth c s₁ Bd hml0 hP hK
  obtain ⟨rfl, hZ, hh⟩ := hP
  have hx := Bd.exec
  have hby := Bd.bytes
  have hml : c.maxLocals = 2 := hml0
  have hown : s.vm.findClass "java/lang/String" = some m.cls := findClass_of_methodNamed Bd.named
  have hnm := (name_of_methodNamed Bd.named Bd.method).1
  have X0 : Stand p l e ({ frames := 3, cells := 0, slots := 0, locals := 40 } : Room) s m #[(.ref (A 10)), (.int (0 : Int32))] below meth c s₁ [] 0 0 := Stand.of_body Bd
  have e0 : s₁.heap = h0 := by rw [← hh, Bd.state]; rfl
  have N0 := Fr.nil n0
  have pre0 : ∀ t, Steps p.tables e below (s₁.setTop (mkF m 0 #[.val (.ref (A 10)), .val (.int (0 : Int32))] [])) t → Steps p.tables e below (s₁.setTop (entryFrame m #[(.ref (A 10)), (.int (0 : Int32))] 2)) t := fun t k => castTop (own_ef_rm52 m p1 A K cs ) k
  have KK0 : Keep h0 h0 [] := Keep.refl _ _
  obtain ⟨cq213, kq213, q213a, q213b, q213c⟩ := isOf hZ e0 (EN.2.2.1.2.2.2.2.2.1.ext OL0.2)
  obtain ⟨_, _, ⟨T213, L213, k213, n213⟩, -, X213, ⟨Lc213, hQ213, l213, y213, z213⟩, st213⟩ := X0.virtualBack hx (y := own_m6) (z := own_m6) hown (mvT hZ (hw _ (List.mem_of_getElem? (i := 48) rfl))) (mvT hZ (hw _ (List.mem_of_getElem? (i := 49) rfl))) (notFace_of_selects (args := #[]) (mvT hZ (hw _ (List.mem_of_getElem? (i := 51) rfl)))) (mvT hZ (hw _ (List.mem_of_getElem? (i := 51) rfl))) (mvT hZ (hw _ (List.mem_of_getElem? (i := 50) rfl))) (by decide) (backOf (W := 0) (rm53 l Z a0 hw [] h0 n0 p1 A K cs EN OL0) hZ (hw _ (List.mem_of_getElem? (i := 52) rfl)) (hw _ (List.mem_of_getElem? (i := 12) rfl)) (by decide) (by decide)) q213a q213c (g := (mkF m 1 #[.val (.ref (A 10)), .val (.int (0 : Int32))] [(.ref (A 10))])) rfl (by rw [hml]; rfl) (Steps.refl _) (argsL := []) (rest := []) (lenOf own_pd5 rfl) rfl (by show 2 * 0 + _ ≤ _; exact Nat.le_of_eq rfl) (hb hby own_d_jdk_42_method_56_code_1) (fun _ _ => ⟨rfl, e0, (by decide : 0 + 0 ≤ _), (by decide : 0 + 0 ≤ _)⟩)
  dsimp only [Pt.U, Pt.locs, Pt.cells, Pt.slots] at X213 l213 y213 z213 st213 hQ213
  subst l213 y213 z213
  obtain ⟨rfl, N213q, e213⟩ := hQ213
  have N213 := Fr.app N0 N213q
  obtain ⟨T214, X214, e214, st214⟩ := getF X213 hx hZ hown (host := "") (Or.inl (hw _ (List.mem_of_getElem? (i := 28) rfl))) Via.refl e213 (EN.2.2.2.2.1.1.ext OL0.2) (g := (mkF m 8 #[.val (.ref (A 10)), .val (.int (0 : Int32))] [(.ref (A 10))])) rfl rfl (hb hby own_d_jdk_42_method_56_code_8)
  obtain ⟨_, _, ⟨T218, L218, k218, n218⟩, -, X218, ⟨Lc218, hQ218, l218, y218, z218⟩, st218⟩ := Jvm.LawKit.callS X214 hx (y := own_m8) hown (mvT hZ (hw _ (List.mem_of_getElem? (i := 53) rfl))) (mvT hZ (hw _ (List.mem_of_getElem? (i := 54) rfl))) (mvT hZ (hw _ (List.mem_of_getElem? (i := 31) rfl))) (mvT hZ (hw _ (List.mem_of_getElem? (i := 55) rfl))) (by decide) (backOf (W := 0) (rm54 l Z a0 hw [] h0 n0 p1 A K cs EN OL0) hZ (hw _ (List.mem_of_getElem? (i := 55) rfl)) (hw _ (List.mem_of_getElem? (i := 31) rfl)) (by decide) (by decide)) (g := (mkF m 12 #[.val (.ref (A 10)), .val (.int (0 : Int32))] [(.int (0 : Int32)), (.ref (A 16))])) rfl (by rw [hml]; rfl) (argsL := [(.ref (A 16)), (.int (0 : Int32))]) (rest := []) (lenOf own_pd8 rfl) rfl (by show 2 * 0 + _ ≤ _; exact Nat.le_of_eq rfl) (hb hby own_d_jdk_42_method_56_code_12) (fun _ _ => ⟨rfl, e214, (by decide : 0 + 0 ≤ _), (by decide : 0 + 0 ≤ _)⟩)
  dsimp only [Pt.U, Pt.locs, Pt.cells, Pt.slots] at X218 l218 y218 z218 st218 hQ218
  subst l218 y218 z218
  obtain ⟨rfl, N218q, e218⟩ := hQ218
  have N218 := Fr.app N213 N218q
  obtain ⟨fs, hr, hrun, hended, hW, hsame⟩ := X218.leave (v := some (.int (62 : Int32))) (fun h => by rw [Bd.returns] at h; cases h)
  refine ⟨_, _, pre0 _ ?_, hrun, hended, _, _, rfl, ?_, ⟨_, rfl⟩, hW, hsame.mono (by decide) (by decide)⟩
  · show Steps p.tables e below (s₁.setTop (mkF m 0 #[.val (.ref (A 10)), .val (.int (0 : Int32))] [])) _
    refine XS.aloadN X0.here hx rfl (hb hby own_d_jdk_42_method_56_code_0) rfl rfl ?_
    show Steps p.tables e below (s₁.setTop (mkF m 1 #[.val (.ref (A 10)), .val (.int (0 : Int32))] [(.ref (A 10))])) _
    refine st213.trans ?_
    show Steps p.tables e below (T213.setTop (mkF m 4 #[.val (.ref (A 10)), .val (.int (0 : Int32))] [(.int (1 : Int32))])) _
    refine XS.ifNo X213.here hx rfl (hb hby own_d_jdk_42_method_56_code_4) rfl ((if0 _ _).trans (feq (by decide : ¬ ((1 : Int32) = (0 : Int32)))).1) ?_
    show Steps p.tables e below (T213.setTop (mkF m 7 #[.val (.ref (A 10)), .val (.int (0 : Int32))] [])) _
    refine XS.aloadN X213.here hx rfl (hb hby own_d_jdk_42_method_56_code_7) rfl rfl ?_
    show Steps p.tables e below (T213.setTop (mkF m 8 #[.val (.ref (A 10)), .val (.int (0 : Int32))] [(.ref (A 10))])) _
    refine st214 _ ?_
    show Steps p.tables e below (T214.setTop (mkF m 11 #[.val (.ref (A 10)), .val (.int (0 : Int32))] [(.ref (A 16))])) _
    refine XS.iloadN X214.here hx rfl (hb hby own_d_jdk_42_method_56_code_11) rfl ?_
    show Steps p.tables e below (T214.setTop (mkF m 12 #[.val (.ref (A 10)), .val (.int (0 : Int32))] [(.int (0 : Int32)), (.ref (A 16))])) _
    refine st218 _ ?_
    show Steps p.tables e below (T218.setTop (mkF m 15 #[.val (.ref (A 10)), .val (.int (0 : Int32))] [(.int (62 : Int32))])) _
    exact retN X218 hx (t := .char) Bd.returns (by simp) (hb hby own_d_jdk_42_method_56_code_15) hr
  · show PQ (some (.int (62 : Int32))) h0 n0 _ T218.heap _
    rw [e218]
    exact ⟨rfl, N218, rfl⟩
theorem own_ef_rm55 (m : MethodId) (p1 : Int32) (A : Nat → Addr) (K : Nat → ClassId) (cs : Int32)  : entryFrame m #[(.ref (A 5))] 1 = mkF m 0 #[.val (.ref (A 5))] [] := by first | (simp [entryFrame, mkF, argsToLocals, Value.category, maxLocals]; done) | rfl
set_option maxRecDepth 65536 in
set_option maxHeartbeats 40000000 in
theorem rm55 (l : Launch) (Z : State) (a0 : Array Value) (hw : ∀ d ∈ tables_1, d.before a0 Z = true) (ws : List Jvm.Cond) (h0 : Heap) (n0 : Nat) (p1 : Int32) (A : Nat → Addr) (K : Nat → ClassId) (cs : Int32)  (EN : own_St Z A K cs) (OL0 : Old Z n0 h0) :
    MetFree l own_m3 (head1 (Jvm.Cond.code own_m3 prog_57_method_5_code 1 (some .boolean) :: ws) ({ frames := 0, cells := 0, slots := 0, locals := 0 } : Room)) (fun a U => a = #[(.ref (A 5))] ∧ Z.Warmed39 U.vm ∧ U.heap = h0) (fun _ _ _ _ _ => True) (fun _ U o U' => ∃ v L, o = .returned v ∧ (PQ (some (.int (1 : Int32))) h0 n0) v U'.heap L ∧ FrameEnd U o U' L ({ frames := 0, cells := 0, slots := 0, locals := 0 } : Room).cells ({ frames := 0, cells := 0, slots := 0, locals := 0 } : Room).slots) := by
  refine MetFree.of_bodySF (plainFor_of_name own_pn0) hisR ?_
  intro p e s m args below meth c s₁ Bd hml0 hP hK
  obtain ⟨rfl, hZ, hh⟩ := hP
  have hx := Bd.exec
  have hby := Bd.bytes
  have hml : c.maxLocals = 1 := hml0
  have hown : s.vm.findClass "com/example/cargoweft/cargoweft/core/FlexibleSearch$Operator" = some m.cls := findClass_of_methodNamed Bd.named
  have hnm := (name_of_methodNamed Bd.named Bd.method).1
  have X0 : Stand p l e ({ frames := 0, cells := 0, slots := 0, locals := 0 } : Room) s m #[(.ref (A 5))] below meth c s₁ [] 0 0 := Stand.of_body Bd
  have e0 : s₁.heap = h0 := by rw [← hh, Bd.state]; rfl
  have N0 := Fr.nil n0
  have pre0 : ∀ t, Steps p.tables e below (s₁.setTop (mkF m 0 #[.val (.ref (A 5))] [])) t → Steps p.tables e below (s₁.setTop (entryFrame m #[(.ref (A 5))] 1)) t := fun t k => castTop (own_ef_rm55 m p1 A K cs ) k
  have KK0 : Keep h0 h0 [] := Keep.refl _ _
  obtain ⟨T221, X221, e221, st221⟩ := getS2 X0 hx hZ hown (host := "") (Or.inl (hw _ (List.mem_of_getElem? (i := 69) rfl))) Via.refl e0 (EN.1.1.ext OL0.2) (g := (mkF m 1 #[.val (.ref (A 5))] [(.ref (A 5))])) rfl (hb hby own_d_prog_57_method_5_code_1)
  obtain ⟨T222, X222, e222, st222⟩ := getS2 X221 hx hZ hown (host := "") (Or.inl (hw _ (List.mem_of_getElem? (i := 72) rfl))) Via.refl e221 (EN.1.2.2.1.ext OL0.2) (g := (mkF m 8 #[.val (.ref (A 5))] [(.ref (A 5))])) rfl (hb hby own_d_prog_57_method_5_code_8)
  obtain ⟨fs, hr, hrun, hended, hW, hsame⟩ := X222.leave (v := some (.int (1 : Int32))) (fun h => by rw [Bd.returns] at h; cases h)
  refine ⟨_, _, pre0 _ ?_, hrun, hended, _, _, rfl, ?_, ⟨_, rfl⟩, hW, hsame.mono (by decide) (by decide)⟩
  · show Steps p.tables e below (s₁.setTop (mkF m 0 #[.val (.ref (A 5))] [])) _
    refine XS.aloadN X0.here hx rfl (hb hby own_d_prog_57_method_5_code_0) rfl rfl ?_
    show Steps p.tables e below (s₁.setTop (mkF m 1 #[.val (.ref (A 5))] [(.ref (A 5))])) _
    refine st221 _ ?_
    show Steps p.tables e below (T221.setTop (mkF m 4 #[.val (.ref (A 5))] [(.ref (A 0)), (.ref (A 5))])) _
    refine Jvm.RoadKit.acmp (g := (mkF m 4 #[.val (.ref (A 5))] [(.ref (A 0)), (.ref (A 5))])) X221 hx rfl rfl rfl (pc0 := 4) (pc' := 7) (same := false) rfl (hb hby own_d_prog_57_method_5_code_4) rfl (decide_eq_false fun q => (Fld.ne EN.2.2.2.2.2.2.1.1 EN.2.2.2.2.2.1.2.2.1 (fun h => by injection h with h; exact absurd h (by decide))) (Value.ref.inj q)) (by decide) (by decide) ?_
    show Steps p.tables e below (T221.setTop (mkF m 7 #[.val (.ref (A 5))] [])) _
    refine XS.aloadN X221.here hx rfl (hb hby own_d_prog_57_method_5_code_7) rfl rfl ?_
    show Steps p.tables e below (T221.setTop (mkF m 8 #[.val (.ref (A 5))] [(.ref (A 5))])) _
    refine st222 _ ?_
    show Steps p.tables e below (T222.setTop (mkF m 11 #[.val (.ref (A 5))] [(.ref (A 1)), (.ref (A 5))])) _
    refine Jvm.RoadKit.acmp (g := (mkF m 11 #[.val (.ref (A 5))] [(.ref (A 1)), (.ref (A 5))])) X222 hx rfl rfl rfl (pc0 := 11) (pc' := 14) (same := false) rfl (hb hby own_d_prog_57_method_5_code_11) rfl (decide_eq_false fun q => (Fld.ne EN.2.2.2.2.2.2.1.1 EN.2.2.2.2.2.1.2.2.2.1 (fun h => by injection h with h; exact absurd h (by decide))) (Value.ref.inj q)) (by decide) (by decide) ?_
    show Steps p.tables e below (T222.setTop (mkF m 14 #[.val (.ref (A 5))] [])) _
    refine XS.iconst X222.here hx rfl (hb hby own_d_prog_57_method_5_code_14) ?_
    show Steps p.tables e below (T222.setTop (mkF m 15 #[.val (.ref (A 5))] [(.int (1 : Int32))])) _
    refine XS.goto X222.here hx rfl (pc0 := 15) (pc' := 19) rfl (hb hby own_d_prog_57_method_5_code_15) (by decide) (by decide) ?_
    show Steps p.tables e below (T222.setTop (mkF m 19 #[.val (.ref (A 5))] [(.int (1 : Int32))])) _
    exact retN X222 hx (t := .boolean) Bd.returns (by simp) (hb hby own_d_prog_57_method_5_code_19) hr
  · show PQ (some (.int (1 : Int32))) h0 n0 _ T222.heap _
    rw [e222]
    exact ⟨rfl, N0, rfl⟩
theorem own_pn4 : plainName "com/example/cargoweft/cargoweft/core/OperatorOrderedPinLaw" = true := by first | (simp [plainName, overriddenIn]; done) | decide +kernel
theorem own_ef_rm0 (m : MethodId) (p1 : Int32) (A : Nat → Addr) (K : Nat → ClassId) (cs : Int32) : entryFrame m #[(.int p1)] maxLocals = mkF m 0 #[.val (.int p1), .unset, .unset, .unset, .unset, .unset] [] := by first | (simp [entryFrame, mkF, argsToLocals, Value.category, maxLocals]; done) | rfl
set_option maxRecDepth 65536 in
set_option maxHeartbeats 40000000 in
theorem rm0 (l : Launch) (Z : State) (a0 : Array Value) (hw : ∀ d ∈ tables_1, d.before a0 Z = true) (ws : List Jvm.Cond) (h0 : Heap) (n0 : Nat) (p1 : Int32) (A : Nat → Addr) (K : Nat → ClassId) (cs : Int32) (EN : own_St Z A K cs) (hcw : Jvm.Lit.compactW.before a0 Z = true) (hc33 : Jvm.Lit.constHeld Z "com/example/cargoweft/cargoweft/core/OperatorOrderedPinLaw" 33) (eh0 : h0 = Z.heap) (en0 : n0 = Z.heap.size) :
    MetFree l x (head1 (Jvm.Cond.code x code maxLocals ret :: ws) room_1) (fun a U => a = #[(.int p1)] ∧ U.vm = Z.vm ∧ U.heap = Z.heap) (fun _ _ _ _ _ => True) (fun _ U o U' => ∃ v L, o = .returned v ∧ (LQ n0) v U'.heap L ∧ ReturnedEndW U o U' L room_1.cells room_1.slots) := by
  refine MetFree.of_bodySF (plainFor_of_name own_pn4) hisR ?_
  intro p e s m args below meth c s₁ Bd hml0 hP hK
  obtain ⟨rfl, hvm, hh⟩ := hP
  have hx := Bd.exec
  have hby := Bd.bytes
  have hml : c.maxLocals = 6 := hml0
  have hown : s.vm.findClass "com/example/cargoweft/cargoweft/core/OperatorOrderedPinLaw" = some m.cls := findClass_of_methodNamed Bd.named
  have hnm := (name_of_methodNamed Bd.named Bd.method).1
  have hZ : Z.Warmed39 s.vm := hvm ▸ State.Warmed39.refl Z
  have hS0 : s.Since s.vm 0 := (State.WarmedH.refl s).since 0
  have I0 : IB Z s.vm [] := hvm ▸ IB.start
  have hkeep : ∀ (b : Addr) (cl : Cell), Z.heap[b]? = some cl → s.heap[b]? = some cl := fun b cl q => by rw [hh]; exact q
  have hk0 : 0 ≤ h0.size := Nat.zero_le _
  have OL0 : Old Z n0 h0 := by rw [eh0, en0]; exact Old.start Z
  have X0 : Stand p l e room_1 (s.setVm s.vm) m #[(.int p1)] below meth c s₁ [] 0 0 := Stand.of_body Bd
  have e0 : s₁.heap = h0 := by rw [eh0, ← hh, Bd.state]; rfl
  have N0 := Fr.nil n0
  have pre0 : ∀ t, Steps p.tables e below (s₁.setTop (mkF m 0 #[.val (.int p1), .unset, .unset, .unset, .unset, .unset] [])) t → Steps p.tables e below (s₁.setTop (entryFrame m #[(.int p1)] maxLocals)) t := fun t k => castTop (own_ef_rm0 m p1 A K cs) k
  have KK0 : Keep h0 h0 [] := Keep.refl _ _
  have pre1 : ∀ t, Steps p.tables e below (s₁.setTop (mkF m 7 #[.val (.int p1), .unset, .unset, .unset, .unset, .unset] [(.int ((p1 &&& (2147483647 : Int32)) % (6 : Int32)))])) t → Steps p.tables e below (s₁.setTop (entryFrame m #[(.int p1)] maxLocals)) t := fun t k => pre0 t (by
    show Steps p.tables e below (s₁.setTop (mkF m 0 #[.val (.int p1), .unset, .unset, .unset, .unset, .unset] [])) _
    refine XS.iloadN X0.here hx rfl (hb hby at_0) rfl ?_
    show Steps p.tables e below (s₁.setTop (mkF m 1 #[.val (.int p1), .unset, .unset, .unset, .unset, .unset] [(.int p1)])) _
    refine X0.ldcInt hx hown (mvT hZ (hw _ (List.mem_of_getElem? (i := 0) rfl))) (g := (mkF m 1 #[.val (.int p1), .unset, .unset, .unset, .unset, .unset] [(.int p1)])) rfl (hb hby at_1) _ ?_
    show Steps p.tables e below (s₁.setTop (mkF m 3 #[.val (.int p1), .unset, .unset, .unset, .unset, .unset] [(.int (2147483647 : Int32)), (.int p1)])) _
    refine XS.iand X0.here hx rfl (hb hby at_3) rfl ?_
    show Steps p.tables e below (s₁.setTop (mkF m 4 #[.val (.int p1), .unset, .unset, .unset, .unset, .unset] [(.int (p1 &&& (2147483647 : Int32)))])) _
    refine XS.bipush X0.here hx rfl (hb hby at_4) ?_
    show Steps p.tables e below (s₁.setTop (mkF m 6 #[.val (.int p1), .unset, .unset, .unset, .unset, .unset] [(.int (6 : Int32)), (.int (p1 &&& (2147483647 : Int32)))])) _
    refine iremM X0 hx rfl (hb hby at_6) rfl (by decide) ?_
    exact k)
  obtain ⟨nn2, hn2, hk2⟩ := own_k p1
  match nn2, hn2, hk2 with
  | 0, _, hk2 =>
    obtain ⟨T3, X3, e3, st3⟩ := getS2 X0 hx hZ hown (host := "") (Or.inl (hw _ (List.mem_of_getElem? (i := 1) rfl))) Via.refl e0 (EN.1.1.ext OL0.2) (g := (mkF m 12 #[.val (.int p1), .val (.int (0 : Int32)), .unset, .unset, .unset, .unset] [])) rfl (hb hby at_12)
    obtain ⟨cq5, kq5, q5a, q5b, q5c⟩ := isOf hZ e3 (EN.1.2.1.ext OL0.2)
    obtain ⟨_, _, ⟨T5, L5, k5, n5⟩, -, X5, ⟨Lc5, hQ5, l5, y5, z5⟩, st5⟩ := X3.virtualBack hx (y := own_m1) (z := own_m1) hown (mvT hZ (hw _ (List.mem_of_getElem? (i := 4) rfl))) (mvT hZ (hw _ (List.mem_of_getElem? (i := 5) rfl))) (notFace_of_selects (args := #[]) (mvT hZ (hw _ (List.mem_of_getElem? (i := 7) rfl)))) (mvT hZ (hw _ (List.mem_of_getElem? (i := 7) rfl))) (mvT hZ (hw _ (List.mem_of_getElem? (i := 6) rfl))) (by decide) (backOf (W := 0) (rm1 l Z a0 hw [] h0 n0 p1 A K cs EN OL0) hZ (hw _ (List.mem_of_getElem? (i := 8) rfl)) (hw _ (List.mem_of_getElem? (i := 2) rfl)) (by decide) (by decide)) q5a q5c (g := (mkF m 84 #[.val (.int p1), .val (.int (0 : Int32)), .val (.ref (A 0)), .val (.int (0 : Int32)), .unset, .unset] [(.ref (A 0))])) rfl (by rw [hml]; rfl) (Steps.refl _) (argsL := []) (rest := []) (lenOf own_pd0 rfl) rfl (by show 2 * 0 + _ ≤ _; exact Nat.le_of_eq rfl) (hb hby at_84) (fun _ _ => ⟨rfl, e3, (by decide : 0 + 0 ≤ _), (by decide : 0 + 0 ≤ _)⟩)
    dsimp only [Pt.U, Pt.locs, Pt.cells, Pt.slots] at X5 l5 y5 z5 st5 hQ5
    subst l5 y5 z5
    obtain ⟨rfl, N5q, e5⟩ := hQ5
    have N5 := Fr.app N0 N5q
    have pre6 : ∀ t, Steps p.tables e below (T5.setTop (mkF m 91 #[.val (.int p1), .val (.int (0 : Int32)), .val (.ref (A 0)), .val (.int (0 : Int32)), .val (.ref (A 6)), .unset] [(.ref (A 6))])) t → Steps p.tables e below (s₁.setTop (entryFrame m #[(.int p1)] maxLocals)) t := fun t k => pre1 t (by
      show Steps p.tables e below (s₁.setTop (mkF m 7 #[.val (.int p1), .unset, .unset, .unset, .unset, .unset] [(.int ((p1 &&& (2147483647 : Int32)) % (6 : Int32)))])) _
      rw [hk2]
      show Steps p.tables e below (s₁.setTop (mkF m 7 #[.val (.int p1), .unset, .unset, .unset, .unset, .unset] [(.int (0 : Int32))])) _
      refine XS.istoreN X0.here hx rfl (hb hby at_7) rfl (l' := #[.val (.int p1), .val (.int (0 : Int32)), .unset, .unset, .unset, .unset]) rfl ?_
      show Steps p.tables e below (s₁.setTop (mkF m 8 #[.val (.int p1), .val (.int (0 : Int32)), .unset, .unset, .unset, .unset] [])) _
      refine XS.iloadN X0.here hx rfl (hb hby at_8) rfl ?_
      show Steps p.tables e below (s₁.setTop (mkF m 9 #[.val (.int p1), .val (.int (0 : Int32)), .unset, .unset, .unset, .unset] [(.int (0 : Int32))])) _
      refine XS.ifNo X0.here hx rfl (hb hby at_9) rfl ((if0 _ _).trans (teq (by decide : (0 : Int32) = (0 : Int32))).2) ?_
      show Steps p.tables e below (s₁.setTop (mkF m 12 #[.val (.int p1), .val (.int (0 : Int32)), .unset, .unset, .unset, .unset] [])) _
      refine st3 _ ?_
      show Steps p.tables e below (T3.setTop (mkF m 15 #[.val (.int p1), .val (.int (0 : Int32)), .unset, .unset, .unset, .unset] [(.ref (A 0))])) _
      refine XS.astoreN X3.here hx rfl (hb hby at_15) rfl rfl (l' := #[.val (.int p1), .val (.int (0 : Int32)), .val (.ref (A 0)), .unset, .unset, .unset]) rfl ?_
      show Steps p.tables e below (T3.setTop (mkF m 16 #[.val (.int p1), .val (.int (0 : Int32)), .val (.ref (A 0)), .unset, .unset, .unset] [])) _
      refine XS.iconst X3.here hx rfl (hb hby at_16) ?_
      show Steps p.tables e below (T3.setTop (mkF m 17 #[.val (.int p1), .val (.int (0 : Int32)), .val (.ref (A 0)), .unset, .unset, .unset] [(.int (0 : Int32))])) _
      refine XS.istoreN X3.here hx rfl (hb hby at_17) rfl (l' := #[.val (.int p1), .val (.int (0 : Int32)), .val (.ref (A 0)), .val (.int (0 : Int32)), .unset, .unset]) rfl ?_
      show Steps p.tables e below (T3.setTop (mkF m 18 #[.val (.int p1), .val (.int (0 : Int32)), .val (.ref (A 0)), .val (.int (0 : Int32)), .unset, .unset] [])) _
      refine XS.goto X3.here hx rfl (pc0 := 18) (pc' := 83) rfl (hb hby at_18) (by decide) (by decide) ?_
      show Steps p.tables e below (T3.setTop (mkF m 83 #[.val (.int p1), .val (.int (0 : Int32)), .val (.ref (A 0)), .val (.int (0 : Int32)), .unset, .unset] [])) _
      refine XS.aloadN X3.here hx rfl (hb hby at_83) rfl rfl ?_
      show Steps p.tables e below (T3.setTop (mkF m 84 #[.val (.int p1), .val (.int (0 : Int32)), .val (.ref (A 0)), .val (.int (0 : Int32)), .unset, .unset] [(.ref (A 0))])) _
      refine st5.trans ?_
      show Steps p.tables e below (T5.setTop (mkF m 87 #[.val (.int p1), .val (.int (0 : Int32)), .val (.ref (A 0)), .val (.int (0 : Int32)), .unset, .unset] [(.ref (A 6))])) _
      refine XS.astore X5.here hx rfl (hb hby at_87) rfl rfl (l' := #[.val (.int p1), .val (.int (0 : Int32)), .val (.ref (A 0)), .val (.int (0 : Int32)), .val (.ref (A 6)), .unset]) rfl ?_
      show Steps p.tables e below (T5.setTop (mkF m 89 #[.val (.int p1), .val (.int (0 : Int32)), .val (.ref (A 0)), .val (.int (0 : Int32)), .val (.ref (A 6)), .unset] [])) _
      refine XS.aload X5.here hx rfl (hb hby at_89) rfl rfl ?_
      exact k)
    obtain ⟨sa7, T7, h7, kk7, sb7, kc7, X7, e7, E7, hS7, hk7, hZ, hown, Es7, Cs7, Vs7, As7, la7, lb7, I7, st7⟩ := ldcSV (s := s) X5 hx hZ hown (hw _ (List.mem_of_getElem? (i := 11) rfl)) (own_strAtoms a0 Z hw) e5 hS0 hk0 (by rw [hh, ← en0]; exact N5) hkeep I0 (by decide) hc33 hcw (vs := [(.int (60 : Int32)), (.int (62 : Int32))]) (z := (2 : Int32)) ⟨by decide, by decide⟩ (by decide) (by decide) (g := (mkF m 91 #[.val (.int p1), .val (.int (0 : Int32)), .val (.ref (A 0)), .val (.int (0 : Int32)), .val (.ref (A 6)), .unset] [(.ref (A 6))])) rfl (hb hby at_91) (n := 8) (by decide) (by decide) (by decide) (by decide)
    have OL7 : Old Z n0 h7 := OL0.ext E7
    have KK7 : Keep h0 h7 [] := KK0.ext E7
    obtain ⟨cq18, kq18, q18a, q18b, q18c⟩ := isOf hZ e7 (EN.2.1.2.2.2.2.2.1.ext OL7.2)
    obtain ⟨_, _, ⟨T18, L18, k18, n18⟩, -, X18, ⟨Lc18, hQ18, l18, y18, z18⟩, st18⟩ := X7.virtualBack hx (y := own_m2) (z := own_m2) hown (mvT hZ (hw _ (List.mem_of_getElem? (i := 19) rfl))) (mvT hZ (hw _ (List.mem_of_getElem? (i := 20) rfl))) (notFace_of_selects (args := #[]) (mvT hZ (hw _ (List.mem_of_getElem? (i := 22) rfl)))) (mvT hZ (hw _ (List.mem_of_getElem? (i := 22) rfl))) (mvT hZ (hw _ (List.mem_of_getElem? (i := 21) rfl))) (by decide) (backOf (W := 0) (rm2 l Z a0 hw [] h7 n0 p1 A K cs sb7 sa7 kc7 EN OL7 Vs7 As7 Es7 Cs7) hZ (hw _ (List.mem_of_getElem? (i := 23) rfl)) (hw _ (List.mem_of_getElem? (i := 12) rfl)) (by decide) (by decide)) q18a q18c (g := (mkF m 93 #[.val (.int p1), .val (.int (0 : Int32)), .val (.ref (A 0)), .val (.int (0 : Int32)), .val (.ref (A 6)), .unset] [(.ref sa7), (.ref (A 6))])) rfl (by rw [hml]; rfl) (Steps.refl _) (argsL := [(.ref sa7)]) (rest := []) (lenOf own_pd2 rfl) rfl (by show 2 * 0 + _ ≤ _; exact Nat.le_of_eq rfl) (hb hby at_93) (fun _ _ => ⟨rfl, e7, (by decide : 2 + 0 ≤ _), (by decide : 12 + 0 ≤ _)⟩)
    dsimp only [Pt.U, Pt.locs, Pt.cells, Pt.slots] at X18 l18 y18 z18 st18 hQ18
    subst l18 y18 z18
    obtain ⟨rfl, N18q, e18⟩ := hQ18
    have N18 := Fr.app N5 N18q
    obtain ⟨cq24, kq24, q24a, q24b, q24c⟩ := isOf hZ e18 (EN.2.1.2.2.2.2.2.1.ext OL7.2)
    obtain ⟨_, _, ⟨T24, L24, k24, n24⟩, -, X24, ⟨Lc24, hQ24, l24, y24, z24⟩, st24⟩ := X18.virtualBack hx (y := own_m5) (z := own_m5) hown (mvT hZ (hw _ (List.mem_of_getElem? (i := 33) rfl))) (mvT hZ (hw _ (List.mem_of_getElem? (i := 34) rfl))) (notFace_of_selects (args := #[]) (mvT hZ (hw _ (List.mem_of_getElem? (i := 36) rfl)))) (mvT hZ (hw _ (List.mem_of_getElem? (i := 36) rfl))) (mvT hZ (hw _ (List.mem_of_getElem? (i := 35) rfl))) (by decide) (backOf (W := 0) (rm4 l Z a0 hw [] h7 n0 p1 A K cs EN OL7) hZ (hw _ (List.mem_of_getElem? (i := 37) rfl)) (hw _ (List.mem_of_getElem? (i := 12) rfl)) (by decide) (by decide)) q24a q24c (g := (mkF m 101 #[.val (.int p1), .val (.int (0 : Int32)), .val (.ref (A 0)), .val (.int (0 : Int32)), .val (.ref (A 6)), .unset] [(.ref (A 6))])) rfl (by rw [hml]; rfl) (Steps.refl _) (argsL := []) (rest := []) (lenOf own_pd4 rfl) rfl (by show 2 * 0 + _ ≤ _; exact Nat.le_of_eq rfl) (hb hby at_101) (fun _ _ => ⟨rfl, e18, (by decide : 2 + 0 ≤ _), (by decide : 12 + 0 ≤ _)⟩)
    dsimp only [Pt.U, Pt.locs, Pt.cells, Pt.slots] at X24 l24 y24 z24 st24 hQ24
    subst l24 y24 z24
    obtain ⟨rfl, N24q, e24⟩ := hQ24
    have N24 := Fr.app N18 N24q
    obtain ⟨cq39, kq39, q39a, q39b, q39c⟩ := isOf hZ e24 (EN.2.1.2.2.2.2.2.1.ext OL7.2)
    obtain ⟨_, _, ⟨T39, L39, k39, n39⟩, -, X39, ⟨Lc39, hQ39, l39, y39, z39⟩, st39⟩ := X24.virtualBack hx (y := own_m0) (z := own_m0) hown (mvT hZ (hw _ (List.mem_of_getElem? (i := 43) rfl))) (mvT hZ (hw _ (List.mem_of_getElem? (i := 44) rfl))) (notFace_of_selects (args := #[]) (mvT hZ (hw _ (List.mem_of_getElem? (i := 46) rfl)))) (mvT hZ (hw _ (List.mem_of_getElem? (i := 46) rfl))) (mvT hZ (hw _ (List.mem_of_getElem? (i := 45) rfl))) (by decide) (backOf (W := 0) (rm6 l Z a0 hw [] h7 n0 p1 A K cs EN OL7) hZ (hw _ (List.mem_of_getElem? (i := 47) rfl)) (hw _ (List.mem_of_getElem? (i := 12) rfl)) (by decide) (by decide)) q39a q39c (g := (mkF m 110 #[.val (.int p1), .val (.int (0 : Int32)), .val (.ref (A 0)), .val (.int (0 : Int32)), .val (.ref (A 6)), .unset] [(.int (0 : Int32)), (.ref (A 6))])) rfl (by rw [hml]; rfl) (Steps.refl _) (argsL := [(.int (0 : Int32))]) (rest := []) (lenOf own_pd9 rfl) rfl (by show 2 * 0 + _ ≤ _; exact Nat.le_of_eq rfl) (hb hby at_110) (fun _ _ => ⟨rfl, e24, (by decide : 2 + 0 ≤ _), (by decide : 12 + 0 ≤ _)⟩)
    dsimp only [Pt.U, Pt.locs, Pt.cells, Pt.slots] at X39 l39 y39 z39 st39 hQ39
    subst l39 y39 z39
    obtain ⟨rfl, N39q, e39⟩ := hQ39
    have N39 := Fr.app N24 N39q
    obtain ⟨cq40, kq40, q40a, q40b, q40c⟩ := isOf hZ e39 (EN.2.1.2.2.2.2.2.1.ext OL7.2)
    obtain ⟨_, _, ⟨T40, L40, k40, n40⟩, -, X40, ⟨Lc40, hQ40, l40, y40, z40⟩, st40⟩ := X39.virtualBack hx (y := own_m0) (z := own_m0) hown (mvT hZ (hw _ (List.mem_of_getElem? (i := 43) rfl))) (mvT hZ (hw _ (List.mem_of_getElem? (i := 44) rfl))) (notFace_of_selects (args := #[]) (mvT hZ (hw _ (List.mem_of_getElem? (i := 46) rfl)))) (mvT hZ (hw _ (List.mem_of_getElem? (i := 46) rfl))) (mvT hZ (hw _ (List.mem_of_getElem? (i := 45) rfl))) (by decide) (backOf (W := 0) (rm6 l Z a0 hw [] h7 n0 p1 A K cs EN OL7) hZ (hw _ (List.mem_of_getElem? (i := 47) rfl)) (hw _ (List.mem_of_getElem? (i := 12) rfl)) (by decide) (by decide)) q40a q40c (g := (mkF m 121 #[.val (.int p1), .val (.int (0 : Int32)), .val (.ref (A 0)), .val (.int (0 : Int32)), .val (.ref (A 6)), .unset] [(.int (0 : Int32)), (.ref (A 6))])) rfl (by rw [hml]; rfl) (Steps.refl _) (argsL := [(.int (0 : Int32))]) (rest := []) (lenOf own_pd9 rfl) rfl (by show 2 * 0 + _ ≤ _; exact Nat.le_of_eq rfl) (hb hby at_121) (fun _ _ => ⟨rfl, e39, (by decide : 2 + 0 ≤ _), (by decide : 12 + 0 ≤ _)⟩)
    dsimp only [Pt.U, Pt.locs, Pt.cells, Pt.slots] at X40 l40 y40 z40 st40 hQ40
    subst l40 y40 z40
    obtain ⟨rfl, N40q, e40⟩ := hQ40
    have N40 := Fr.app N39 N40q
    obtain ⟨cq42, kq42, q42a, q42b, q42c⟩ := isOf hZ e40 (EN.1.2.1.ext OL7.2)
    obtain ⟨_, _, ⟨T42, L42, k42, n42⟩, -, X42, ⟨Lc42, hQ42, l42, y42, z42⟩, st42⟩ := X40.virtualBack hx (y := own_m3) (z := own_m3) hown (mvT hZ (hw _ (List.mem_of_getElem? (i := 64) rfl))) (mvT hZ (hw _ (List.mem_of_getElem? (i := 65) rfl))) (notFace_of_selects (args := #[]) (mvT hZ (hw _ (List.mem_of_getElem? (i := 67) rfl)))) (mvT hZ (hw _ (List.mem_of_getElem? (i := 67) rfl))) (mvT hZ (hw _ (List.mem_of_getElem? (i := 66) rfl))) (by decide) (backOf (W := 0) (rm12 l Z a0 hw [] h7 n0 p1 A K cs EN OL7) hZ (hw _ (List.mem_of_getElem? (i := 68) rfl)) (hw _ (List.mem_of_getElem? (i := 2) rfl)) (by decide) (by decide)) q42a q42c (g := (mkF m 137 #[.val (.int p1), .val (.int (0 : Int32)), .val (.ref (A 0)), .val (.int (0 : Int32)), .val (.ref (A 6)), .val (.int (0 : Int32))] [(.ref (A 0))])) rfl (by rw [hml]; rfl) (Steps.refl _) (argsL := []) (rest := []) (lenOf own_pd5 rfl) rfl (by show 2 * 0 + _ ≤ _; exact Nat.le_of_eq rfl) (hb hby at_137) (fun _ _ => ⟨rfl, e40, (by decide : 2 + 0 ≤ _), (by decide : 12 + 0 ≤ _)⟩)
    dsimp only [Pt.U, Pt.locs, Pt.cells, Pt.slots] at X42 l42 y42 z42 st42 hQ42
    subst l42 y42 z42
    obtain ⟨rfl, N42q, e42⟩ := hQ42
    have N42 := Fr.app N40 N42q
    obtain ⟨fs, hr, hrun, hended, hEW⟩ := X42.leaveW (s := s) hS7 (by rw [e42]; exact hk7) (v := some (.int (1 : Int32))) (fun h => by rw [Bd.returns] at h; cases h)
    refine ⟨_, _, pre6 _ ?_, hrun, hended, _, _, rfl, ?_, hEW.1, hEW.2.1, hEW.2.2.1, hEW.2.2.2.mono (by decide) (by decide)⟩
    · show Steps p.tables e below (T5.setTop (mkF m 91 #[.val (.int p1), .val (.int (0 : Int32)), .val (.ref (A 0)), .val (.int (0 : Int32)), .val (.ref (A 6)), .unset] [(.ref (A 6))])) _
      refine st7 _ ?_
      show Steps p.tables e below (T7.setTop (mkF m 93 #[.val (.int p1), .val (.int (0 : Int32)), .val (.ref (A 0)), .val (.int (0 : Int32)), .val (.ref (A 6)), .unset] [(.ref sa7), (.ref (A 6))])) _
      refine st18.trans ?_
      show Steps p.tables e below (T18.setTop (mkF m 96 #[.val (.int p1), .val (.int (0 : Int32)), .val (.ref (A 0)), .val (.int (0 : Int32)), .val (.ref (A 6)), .unset] [(.int (0 : Int32))])) _
      refine XS.ifNo X18.here hx rfl (hb hby at_96) rfl ((if0 _ _).trans (teq (by decide : (0 : Int32) = (0 : Int32))).2) ?_
      show Steps p.tables e below (T18.setTop (mkF m 99 #[.val (.int p1), .val (.int (0 : Int32)), .val (.ref (A 0)), .val (.int (0 : Int32)), .val (.ref (A 6)), .unset] [])) _
      refine XS.aload X18.here hx rfl (hb hby at_99) rfl rfl ?_
      show Steps p.tables e below (T18.setTop (mkF m 101 #[.val (.int p1), .val (.int (0 : Int32)), .val (.ref (A 0)), .val (.int (0 : Int32)), .val (.ref (A 6)), .unset] [(.ref (A 6))])) _
      refine st24.trans ?_
      show Steps p.tables e below (T24.setTop (mkF m 104 #[.val (.int p1), .val (.int (0 : Int32)), .val (.ref (A 0)), .val (.int (0 : Int32)), .val (.ref (A 6)), .unset] [(.int (1 : Int32))])) _
      refine XS.ifNo X24.here hx rfl (hb hby at_104) rfl ((if0 _ _).trans (tlt (by decide : (0 : Int32) < (1 : Int32))).2.2.2) ?_
      show Steps p.tables e below (T24.setTop (mkF m 107 #[.val (.int p1), .val (.int (0 : Int32)), .val (.ref (A 0)), .val (.int (0 : Int32)), .val (.ref (A 6)), .unset] [])) _
      refine XS.aload X24.here hx rfl (hb hby at_107) rfl rfl ?_
      show Steps p.tables e below (T24.setTop (mkF m 109 #[.val (.int p1), .val (.int (0 : Int32)), .val (.ref (A 0)), .val (.int (0 : Int32)), .val (.ref (A 6)), .unset] [(.ref (A 6))])) _
      refine XS.iconst X24.here hx rfl (hb hby at_109) ?_
      show Steps p.tables e below (T24.setTop (mkF m 110 #[.val (.int p1), .val (.int (0 : Int32)), .val (.ref (A 0)), .val (.int (0 : Int32)), .val (.ref (A 6)), .unset] [(.int (0 : Int32)), (.ref (A 6))])) _
      refine st39.trans ?_
      show Steps p.tables e below (T39.setTop (mkF m 113 #[.val (.int p1), .val (.int (0 : Int32)), .val (.ref (A 0)), .val (.int (0 : Int32)), .val (.ref (A 6)), .unset] [(.int (61 : Int32))])) _
      refine XS.bipush X39.here hx rfl (hb hby at_113) ?_
      show Steps p.tables e below (T39.setTop (mkF m 115 #[.val (.int p1), .val (.int (0 : Int32)), .val (.ref (A 0)), .val (.int (0 : Int32)), .val (.ref (A 6)), .unset] [(.int (60 : Int32)), (.int (61 : Int32))])) _
      refine XS.icmpNo X39.here hx rfl (hb hby at_115) rfl (feq (by decide : ¬ ((61 : Int32) = (60 : Int32)))).1 ?_
      show Steps p.tables e below (T39.setTop (mkF m 118 #[.val (.int p1), .val (.int (0 : Int32)), .val (.ref (A 0)), .val (.int (0 : Int32)), .val (.ref (A 6)), .unset] [])) _
      refine XS.aload X39.here hx rfl (hb hby at_118) rfl rfl ?_
      show Steps p.tables e below (T39.setTop (mkF m 120 #[.val (.int p1), .val (.int (0 : Int32)), .val (.ref (A 0)), .val (.int (0 : Int32)), .val (.ref (A 6)), .unset] [(.ref (A 6))])) _
      refine XS.iconst X39.here hx rfl (hb hby at_120) ?_
      show Steps p.tables e below (T39.setTop (mkF m 121 #[.val (.int p1), .val (.int (0 : Int32)), .val (.ref (A 0)), .val (.int (0 : Int32)), .val (.ref (A 6)), .unset] [(.int (0 : Int32)), (.ref (A 6))])) _
      refine st40.trans ?_
      show Steps p.tables e below (T40.setTop (mkF m 124 #[.val (.int p1), .val (.int (0 : Int32)), .val (.ref (A 0)), .val (.int (0 : Int32)), .val (.ref (A 6)), .unset] [(.int (61 : Int32))])) _
      refine XS.bipush X40.here hx rfl (hb hby at_124) ?_
      show Steps p.tables e below (T40.setTop (mkF m 126 #[.val (.int p1), .val (.int (0 : Int32)), .val (.ref (A 0)), .val (.int (0 : Int32)), .val (.ref (A 6)), .unset] [(.int (62 : Int32)), (.int (61 : Int32))])) _
      refine XS.icmpYes X40.here hx rfl (pc0 := 126) (pc' := 133) rfl (hb hby at_126) rfl (feq (by decide : ¬ ((61 : Int32) = (62 : Int32)))).2 (by decide) (by decide) ?_
      show Steps p.tables e below (T40.setTop (mkF m 133 #[.val (.int p1), .val (.int (0 : Int32)), .val (.ref (A 0)), .val (.int (0 : Int32)), .val (.ref (A 6)), .unset] [])) _
      refine XS.iconst X40.here hx rfl (hb hby at_133) ?_
      show Steps p.tables e below (T40.setTop (mkF m 134 #[.val (.int p1), .val (.int (0 : Int32)), .val (.ref (A 0)), .val (.int (0 : Int32)), .val (.ref (A 6)), .unset] [(.int (0 : Int32))])) _
      refine XS.istore X40.here hx rfl (hb hby at_134) rfl (l' := #[.val (.int p1), .val (.int (0 : Int32)), .val (.ref (A 0)), .val (.int (0 : Int32)), .val (.ref (A 6)), .val (.int (0 : Int32))]) rfl ?_
      show Steps p.tables e below (T40.setTop (mkF m 136 #[.val (.int p1), .val (.int (0 : Int32)), .val (.ref (A 0)), .val (.int (0 : Int32)), .val (.ref (A 6)), .val (.int (0 : Int32))] [])) _
      refine XS.aloadN X40.here hx rfl (hb hby at_136) rfl rfl ?_
      show Steps p.tables e below (T40.setTop (mkF m 137 #[.val (.int p1), .val (.int (0 : Int32)), .val (.ref (A 0)), .val (.int (0 : Int32)), .val (.ref (A 6)), .val (.int (0 : Int32))] [(.ref (A 0))])) _
      refine st42.trans ?_
      show Steps p.tables e below (T42.setTop (mkF m 140 #[.val (.int p1), .val (.int (0 : Int32)), .val (.ref (A 0)), .val (.int (0 : Int32)), .val (.ref (A 6)), .val (.int (0 : Int32))] [(.int (0 : Int32))])) _
      refine XS.iloadN X42.here hx rfl (hb hby at_140) rfl ?_
      show Steps p.tables e below (T42.setTop (mkF m 141 #[.val (.int p1), .val (.int (0 : Int32)), .val (.ref (A 0)), .val (.int (0 : Int32)), .val (.ref (A 6)), .val (.int (0 : Int32))] [(.int (0 : Int32)), (.int (0 : Int32))])) _
      refine XS.icmpNo X42.here hx rfl (hb hby at_141) rfl (teq (by decide : (0 : Int32) = (0 : Int32))).2 ?_
      show Steps p.tables e below (T42.setTop (mkF m 144 #[.val (.int p1), .val (.int (0 : Int32)), .val (.ref (A 0)), .val (.int (0 : Int32)), .val (.ref (A 6)), .val (.int (0 : Int32))] [])) _
      refine XS.iloadN X42.here hx rfl (hb hby at_144) rfl ?_
      show Steps p.tables e below (T42.setTop (mkF m 145 #[.val (.int p1), .val (.int (0 : Int32)), .val (.ref (A 0)), .val (.int (0 : Int32)), .val (.ref (A 6)), .val (.int (0 : Int32))] [(.int (0 : Int32))])) _
      refine XS.iload X42.here hx rfl (hb hby at_145) rfl ?_
      show Steps p.tables e below (T42.setTop (mkF m 147 #[.val (.int p1), .val (.int (0 : Int32)), .val (.ref (A 0)), .val (.int (0 : Int32)), .val (.ref (A 6)), .val (.int (0 : Int32))] [(.int (0 : Int32)), (.int (0 : Int32))])) _
      refine XS.icmpNo X42.here hx rfl (hb hby at_147) rfl (teq (by decide : (0 : Int32) = (0 : Int32))).2 ?_
      show Steps p.tables e below (T42.setTop (mkF m 150 #[.val (.int p1), .val (.int (0 : Int32)), .val (.ref (A 0)), .val (.int (0 : Int32)), .val (.ref (A 6)), .val (.int (0 : Int32))] [])) _
      refine XS.iconst X42.here hx rfl (hb hby at_150) ?_
      show Steps p.tables e below (T42.setTop (mkF m 151 #[.val (.int p1), .val (.int (0 : Int32)), .val (.ref (A 0)), .val (.int (0 : Int32)), .val (.ref (A 6)), .val (.int (0 : Int32))] [(.int (1 : Int32))])) _
      refine XS.goto X42.here hx rfl (pc0 := 151) (pc' := 155) rfl (hb hby at_151) (by decide) (by decide) ?_
      show Steps p.tables e below (T42.setTop (mkF m 155 #[.val (.int p1), .val (.int (0 : Int32)), .val (.ref (A 0)), .val (.int (0 : Int32)), .val (.ref (A 6)), .val (.int (0 : Int32))] [(.int (1 : Int32))])) _
      exact retN X42 hx (t := .boolean) Bd.returns (by simp) (hb hby at_155) hr
    · show LQ n0 _ T42.heap _
      exact ⟨rfl, N42, trivial⟩
  | 1, _, hk2 =>
    obtain ⟨T43, X43, e43, st43⟩ := getS2 X0 hx hZ hown (host := "") (Or.inl (hw _ (List.mem_of_getElem? (i := 76) rfl))) Via.refl e0 (EN.1.2.2.1.ext OL0.2) (g := (mkF m 26 #[.val (.int p1), .val (.int (1 : Int32)), .unset, .unset, .unset, .unset] [])) rfl (hb hby at_26)
    obtain ⟨cq45, kq45, q45a, q45b, q45c⟩ := isOf hZ e43 (EN.1.2.2.2.1.ext OL0.2)
    obtain ⟨_, _, ⟨T45, L45, k45, n45⟩, -, X45, ⟨Lc45, hQ45, l45, y45, z45⟩, st45⟩ := X43.virtualBack hx (y := own_m1) (z := own_m1) hown (mvT hZ (hw _ (List.mem_of_getElem? (i := 4) rfl))) (mvT hZ (hw _ (List.mem_of_getElem? (i := 5) rfl))) (notFace_of_selects (args := #[]) (mvT hZ (hw _ (List.mem_of_getElem? (i := 7) rfl)))) (mvT hZ (hw _ (List.mem_of_getElem? (i := 7) rfl))) (mvT hZ (hw _ (List.mem_of_getElem? (i := 6) rfl))) (by decide) (backOf (W := 0) (rm13 l Z a0 hw [] h0 n0 p1 A K cs EN OL0) hZ (hw _ (List.mem_of_getElem? (i := 8) rfl)) (hw _ (List.mem_of_getElem? (i := 2) rfl)) (by decide) (by decide)) q45a q45c (g := (mkF m 84 #[.val (.int p1), .val (.int (1 : Int32)), .val (.ref (A 1)), .val (.int (0 : Int32)), .unset, .unset] [(.ref (A 1))])) rfl (by rw [hml]; rfl) (Steps.refl _) (argsL := []) (rest := []) (lenOf own_pd0 rfl) rfl (by show 2 * 0 + _ ≤ _; exact Nat.le_of_eq rfl) (hb hby at_84) (fun _ _ => ⟨rfl, e43, (by decide : 0 + 0 ≤ _), (by decide : 0 + 0 ≤ _)⟩)
    dsimp only [Pt.U, Pt.locs, Pt.cells, Pt.slots] at X45 l45 y45 z45 st45 hQ45
    subst l45 y45 z45
    obtain ⟨rfl, N45q, e45⟩ := hQ45
    have N45 := Fr.app N0 N45q
    have pre46 : ∀ t, Steps p.tables e below (T45.setTop (mkF m 91 #[.val (.int p1), .val (.int (1 : Int32)), .val (.ref (A 1)), .val (.int (0 : Int32)), .val (.ref (A 9)), .unset] [(.ref (A 9))])) t → Steps p.tables e below (s₁.setTop (entryFrame m #[(.int p1)] maxLocals)) t := fun t k => pre1 t (by
      show Steps p.tables e below (s₁.setTop (mkF m 7 #[.val (.int p1), .unset, .unset, .unset, .unset, .unset] [(.int ((p1 &&& (2147483647 : Int32)) % (6 : Int32)))])) _
      rw [hk2]
      show Steps p.tables e below (s₁.setTop (mkF m 7 #[.val (.int p1), .unset, .unset, .unset, .unset, .unset] [(.int (1 : Int32))])) _
      refine XS.istoreN X0.here hx rfl (hb hby at_7) rfl (l' := #[.val (.int p1), .val (.int (1 : Int32)), .unset, .unset, .unset, .unset]) rfl ?_
      show Steps p.tables e below (s₁.setTop (mkF m 8 #[.val (.int p1), .val (.int (1 : Int32)), .unset, .unset, .unset, .unset] [])) _
      refine XS.iloadN X0.here hx rfl (hb hby at_8) rfl ?_
      show Steps p.tables e below (s₁.setTop (mkF m 9 #[.val (.int p1), .val (.int (1 : Int32)), .unset, .unset, .unset, .unset] [(.int (1 : Int32))])) _
      refine XS.ifYes X0.here hx rfl (pc0 := 9) (pc' := 21) rfl (hb hby at_9) rfl ((if0 _ _).trans (feq (by decide : ¬ ((1 : Int32) = (0 : Int32)))).2) (by decide) (by decide) ?_
      show Steps p.tables e below (s₁.setTop (mkF m 21 #[.val (.int p1), .val (.int (1 : Int32)), .unset, .unset, .unset, .unset] [])) _
      refine XS.iloadN X0.here hx rfl (hb hby at_21) rfl ?_
      show Steps p.tables e below (s₁.setTop (mkF m 22 #[.val (.int p1), .val (.int (1 : Int32)), .unset, .unset, .unset, .unset] [(.int (1 : Int32))])) _
      refine XS.iconst X0.here hx rfl (hb hby at_22) ?_
      show Steps p.tables e below (s₁.setTop (mkF m 23 #[.val (.int p1), .val (.int (1 : Int32)), .unset, .unset, .unset, .unset] [(.int (1 : Int32)), (.int (1 : Int32))])) _
      refine XS.icmpNo X0.here hx rfl (hb hby at_23) rfl (teq (by decide : (1 : Int32) = (1 : Int32))).2 ?_
      show Steps p.tables e below (s₁.setTop (mkF m 26 #[.val (.int p1), .val (.int (1 : Int32)), .unset, .unset, .unset, .unset] [])) _
      refine st43 _ ?_
      show Steps p.tables e below (T43.setTop (mkF m 29 #[.val (.int p1), .val (.int (1 : Int32)), .unset, .unset, .unset, .unset] [(.ref (A 1))])) _
      refine XS.astoreN X43.here hx rfl (hb hby at_29) rfl rfl (l' := #[.val (.int p1), .val (.int (1 : Int32)), .val (.ref (A 1)), .unset, .unset, .unset]) rfl ?_
      show Steps p.tables e below (T43.setTop (mkF m 30 #[.val (.int p1), .val (.int (1 : Int32)), .val (.ref (A 1)), .unset, .unset, .unset] [])) _
      refine XS.iconst X43.here hx rfl (hb hby at_30) ?_
      show Steps p.tables e below (T43.setTop (mkF m 31 #[.val (.int p1), .val (.int (1 : Int32)), .val (.ref (A 1)), .unset, .unset, .unset] [(.int (0 : Int32))])) _
      refine XS.istoreN X43.here hx rfl (hb hby at_31) rfl (l' := #[.val (.int p1), .val (.int (1 : Int32)), .val (.ref (A 1)), .val (.int (0 : Int32)), .unset, .unset]) rfl ?_
      show Steps p.tables e below (T43.setTop (mkF m 32 #[.val (.int p1), .val (.int (1 : Int32)), .val (.ref (A 1)), .val (.int (0 : Int32)), .unset, .unset] [])) _
      refine XS.goto X43.here hx rfl (pc0 := 32) (pc' := 83) rfl (hb hby at_32) (by decide) (by decide) ?_
      show Steps p.tables e below (T43.setTop (mkF m 83 #[.val (.int p1), .val (.int (1 : Int32)), .val (.ref (A 1)), .val (.int (0 : Int32)), .unset, .unset] [])) _
      refine XS.aloadN X43.here hx rfl (hb hby at_83) rfl rfl ?_
      show Steps p.tables e below (T43.setTop (mkF m 84 #[.val (.int p1), .val (.int (1 : Int32)), .val (.ref (A 1)), .val (.int (0 : Int32)), .unset, .unset] [(.ref (A 1))])) _
      refine st45.trans ?_
      show Steps p.tables e below (T45.setTop (mkF m 87 #[.val (.int p1), .val (.int (1 : Int32)), .val (.ref (A 1)), .val (.int (0 : Int32)), .unset, .unset] [(.ref (A 9))])) _
      refine XS.astore X45.here hx rfl (hb hby at_87) rfl rfl (l' := #[.val (.int p1), .val (.int (1 : Int32)), .val (.ref (A 1)), .val (.int (0 : Int32)), .val (.ref (A 9)), .unset]) rfl ?_
      show Steps p.tables e below (T45.setTop (mkF m 89 #[.val (.int p1), .val (.int (1 : Int32)), .val (.ref (A 1)), .val (.int (0 : Int32)), .val (.ref (A 9)), .unset] [])) _
      refine XS.aload X45.here hx rfl (hb hby at_89) rfl rfl ?_
      exact k)
    obtain ⟨sa47, T47, h47, kk47, sb47, kc47, X47, e47, E47, hS47, hk47, hZ, hown, Es47, Cs47, Vs47, As47, la47, lb47, I47, st47⟩ := ldcSV (s := s) X45 hx hZ hown (hw _ (List.mem_of_getElem? (i := 11) rfl)) (own_strAtoms a0 Z hw) e45 hS0 hk0 (by rw [hh, ← en0]; exact N45) hkeep I0 (by decide) hc33 hcw (vs := [(.int (60 : Int32)), (.int (62 : Int32))]) (z := (2 : Int32)) ⟨by decide, by decide⟩ (by decide) (by decide) (g := (mkF m 91 #[.val (.int p1), .val (.int (1 : Int32)), .val (.ref (A 1)), .val (.int (0 : Int32)), .val (.ref (A 9)), .unset] [(.ref (A 9))])) rfl (hb hby at_91) (n := 8) (by decide) (by decide) (by decide) (by decide)
    have OL47 : Old Z n0 h47 := OL0.ext E47
    have KK47 : Keep h0 h47 [] := KK0.ext E47
    obtain ⟨cq67, kq67, q67a, q67b, q67c⟩ := isOf hZ e47 (EN.2.2.1.2.2.2.1.ext OL47.2)
    obtain ⟨_, _, ⟨T67, L67, k67, n67⟩, -, X67, ⟨Lc67, hQ67, l67, y67, z67⟩, st67⟩ := X47.virtualBack hx (y := own_m2) (z := own_m2) hown (mvT hZ (hw _ (List.mem_of_getElem? (i := 19) rfl))) (mvT hZ (hw _ (List.mem_of_getElem? (i := 20) rfl))) (notFace_of_selects (args := #[]) (mvT hZ (hw _ (List.mem_of_getElem? (i := 22) rfl)))) (mvT hZ (hw _ (List.mem_of_getElem? (i := 22) rfl))) (mvT hZ (hw _ (List.mem_of_getElem? (i := 21) rfl))) (by decide) (backOf (W := 0) (rm14 l Z a0 hw [] h47 n0 p1 A K cs sb47 sa47 kc47 EN OL47 Vs47 As47 Es47 Cs47) hZ (hw _ (List.mem_of_getElem? (i := 23) rfl)) (hw _ (List.mem_of_getElem? (i := 12) rfl)) (by decide) (by decide)) q67a q67c (g := (mkF m 93 #[.val (.int p1), .val (.int (1 : Int32)), .val (.ref (A 1)), .val (.int (0 : Int32)), .val (.ref (A 9)), .unset] [(.ref sa47), (.ref (A 9))])) rfl (by rw [hml]; rfl) (Steps.refl _) (argsL := [(.ref sa47)]) (rest := []) (lenOf own_pd2 rfl) rfl (by show 2 * 0 + _ ≤ _; exact Nat.le_of_eq rfl) (hb hby at_93) (fun _ _ => ⟨rfl, e47, (by decide : 2 + 0 ≤ _), (by decide : 12 + 0 ≤ _)⟩)
    dsimp only [Pt.U, Pt.locs, Pt.cells, Pt.slots] at X67 l67 y67 z67 st67 hQ67
    subst l67 y67 z67
    obtain ⟨rfl, N67q, e67⟩ := hQ67
    have N67 := Fr.app N45 N67q
    obtain ⟨cq70, kq70, q70a, q70b, q70c⟩ := isOf hZ e67 (EN.1.2.2.2.1.ext OL47.2)
    obtain ⟨_, _, ⟨T70, L70, k70, n70⟩, -, X70, ⟨Lc70, hQ70, l70, y70, z70⟩, st70⟩ := X67.virtualBack hx (y := own_m3) (z := own_m3) hown (mvT hZ (hw _ (List.mem_of_getElem? (i := 64) rfl))) (mvT hZ (hw _ (List.mem_of_getElem? (i := 65) rfl))) (notFace_of_selects (args := #[]) (mvT hZ (hw _ (List.mem_of_getElem? (i := 67) rfl)))) (mvT hZ (hw _ (List.mem_of_getElem? (i := 67) rfl))) (mvT hZ (hw _ (List.mem_of_getElem? (i := 66) rfl))) (by decide) (backOf (W := 0) (rm16 l Z a0 hw [] h47 n0 p1 A K cs EN OL47) hZ (hw _ (List.mem_of_getElem? (i := 68) rfl)) (hw _ (List.mem_of_getElem? (i := 2) rfl)) (by decide) (by decide)) q70a q70c (g := (mkF m 137 #[.val (.int p1), .val (.int (1 : Int32)), .val (.ref (A 1)), .val (.int (0 : Int32)), .val (.ref (A 9)), .val (.int (0 : Int32))] [(.ref (A 1))])) rfl (by rw [hml]; rfl) (Steps.refl _) (argsL := []) (rest := []) (lenOf own_pd5 rfl) rfl (by show 2 * 0 + _ ≤ _; exact Nat.le_of_eq rfl) (hb hby at_137) (fun _ _ => ⟨rfl, e67, (by decide : 2 + 0 ≤ _), (by decide : 12 + 0 ≤ _)⟩)
    dsimp only [Pt.U, Pt.locs, Pt.cells, Pt.slots] at X70 l70 y70 z70 st70 hQ70
    subst l70 y70 z70
    obtain ⟨rfl, N70q, e70⟩ := hQ70
    have N70 := Fr.app N67 N70q
    obtain ⟨fs, hr, hrun, hended, hEW⟩ := X70.leaveW (s := s) hS47 (by rw [e70]; exact hk47) (v := some (.int (1 : Int32))) (fun h => by rw [Bd.returns] at h; cases h)
    refine ⟨_, _, pre46 _ ?_, hrun, hended, _, _, rfl, ?_, hEW.1, hEW.2.1, hEW.2.2.1, hEW.2.2.2.mono (by decide) (by decide)⟩
    · show Steps p.tables e below (T45.setTop (mkF m 91 #[.val (.int p1), .val (.int (1 : Int32)), .val (.ref (A 1)), .val (.int (0 : Int32)), .val (.ref (A 9)), .unset] [(.ref (A 9))])) _
      refine st47 _ ?_
      show Steps p.tables e below (T47.setTop (mkF m 93 #[.val (.int p1), .val (.int (1 : Int32)), .val (.ref (A 1)), .val (.int (0 : Int32)), .val (.ref (A 9)), .unset] [(.ref sa47), (.ref (A 9))])) _
      refine st67.trans ?_
      show Steps p.tables e below (T67.setTop (mkF m 96 #[.val (.int p1), .val (.int (1 : Int32)), .val (.ref (A 1)), .val (.int (0 : Int32)), .val (.ref (A 9)), .unset] [(.int (1 : Int32))])) _
      refine XS.ifYes X67.here hx rfl (pc0 := 96) (pc' := 133) rfl (hb hby at_96) rfl ((if0 _ _).trans (feq (by decide : ¬ ((1 : Int32) = (0 : Int32)))).2) (by decide) (by decide) ?_
      show Steps p.tables e below (T67.setTop (mkF m 133 #[.val (.int p1), .val (.int (1 : Int32)), .val (.ref (A 1)), .val (.int (0 : Int32)), .val (.ref (A 9)), .unset] [])) _
      refine XS.iconst X67.here hx rfl (hb hby at_133) ?_
      show Steps p.tables e below (T67.setTop (mkF m 134 #[.val (.int p1), .val (.int (1 : Int32)), .val (.ref (A 1)), .val (.int (0 : Int32)), .val (.ref (A 9)), .unset] [(.int (0 : Int32))])) _
      refine XS.istore X67.here hx rfl (hb hby at_134) rfl (l' := #[.val (.int p1), .val (.int (1 : Int32)), .val (.ref (A 1)), .val (.int (0 : Int32)), .val (.ref (A 9)), .val (.int (0 : Int32))]) rfl ?_
      show Steps p.tables e below (T67.setTop (mkF m 136 #[.val (.int p1), .val (.int (1 : Int32)), .val (.ref (A 1)), .val (.int (0 : Int32)), .val (.ref (A 9)), .val (.int (0 : Int32))] [])) _
      refine XS.aloadN X67.here hx rfl (hb hby at_136) rfl rfl ?_
      show Steps p.tables e below (T67.setTop (mkF m 137 #[.val (.int p1), .val (.int (1 : Int32)), .val (.ref (A 1)), .val (.int (0 : Int32)), .val (.ref (A 9)), .val (.int (0 : Int32))] [(.ref (A 1))])) _
      refine st70.trans ?_
      show Steps p.tables e below (T70.setTop (mkF m 140 #[.val (.int p1), .val (.int (1 : Int32)), .val (.ref (A 1)), .val (.int (0 : Int32)), .val (.ref (A 9)), .val (.int (0 : Int32))] [(.int (0 : Int32))])) _
      refine XS.iloadN X70.here hx rfl (hb hby at_140) rfl ?_
      show Steps p.tables e below (T70.setTop (mkF m 141 #[.val (.int p1), .val (.int (1 : Int32)), .val (.ref (A 1)), .val (.int (0 : Int32)), .val (.ref (A 9)), .val (.int (0 : Int32))] [(.int (0 : Int32)), (.int (0 : Int32))])) _
      refine XS.icmpNo X70.here hx rfl (hb hby at_141) rfl (teq (by decide : (0 : Int32) = (0 : Int32))).2 ?_
      show Steps p.tables e below (T70.setTop (mkF m 144 #[.val (.int p1), .val (.int (1 : Int32)), .val (.ref (A 1)), .val (.int (0 : Int32)), .val (.ref (A 9)), .val (.int (0 : Int32))] [])) _
      refine XS.iloadN X70.here hx rfl (hb hby at_144) rfl ?_
      show Steps p.tables e below (T70.setTop (mkF m 145 #[.val (.int p1), .val (.int (1 : Int32)), .val (.ref (A 1)), .val (.int (0 : Int32)), .val (.ref (A 9)), .val (.int (0 : Int32))] [(.int (0 : Int32))])) _
      refine XS.iload X70.here hx rfl (hb hby at_145) rfl ?_
      show Steps p.tables e below (T70.setTop (mkF m 147 #[.val (.int p1), .val (.int (1 : Int32)), .val (.ref (A 1)), .val (.int (0 : Int32)), .val (.ref (A 9)), .val (.int (0 : Int32))] [(.int (0 : Int32)), (.int (0 : Int32))])) _
      refine XS.icmpNo X70.here hx rfl (hb hby at_147) rfl (teq (by decide : (0 : Int32) = (0 : Int32))).2 ?_
      show Steps p.tables e below (T70.setTop (mkF m 150 #[.val (.int p1), .val (.int (1 : Int32)), .val (.ref (A 1)), .val (.int (0 : Int32)), .val (.ref (A 9)), .val (.int (0 : Int32))] [])) _
      refine XS.iconst X70.here hx rfl (hb hby at_150) ?_
      show Steps p.tables e below (T70.setTop (mkF m 151 #[.val (.int p1), .val (.int (1 : Int32)), .val (.ref (A 1)), .val (.int (0 : Int32)), .val (.ref (A 9)), .val (.int (0 : Int32))] [(.int (1 : Int32))])) _
      refine XS.goto X70.here hx rfl (pc0 := 151) (pc' := 155) rfl (hb hby at_151) (by decide) (by decide) ?_
      show Steps p.tables e below (T70.setTop (mkF m 155 #[.val (.int p1), .val (.int (1 : Int32)), .val (.ref (A 1)), .val (.int (0 : Int32)), .val (.ref (A 9)), .val (.int (0 : Int32))] [(.int (1 : Int32))])) _
      exact retN X70 hx (t := .boolean) Bd.returns (by simp) (hb hby at_155) hr
    · show LQ n0 _ T70.heap _
      exact ⟨rfl, N70, trivial⟩
  | 2, _, hk2 =>
    obtain ⟨T71, X71, e71, st71⟩ := getS2 X0 hx hZ hown (host := "") (Or.inl (hw _ (List.mem_of_getElem? (i := 74) rfl))) Via.refl e0 (EN.1.2.2.2.2.1.ext OL0.2) (g := (mkF m 40 #[.val (.int p1), .val (.int (2 : Int32)), .unset, .unset, .unset, .unset] [])) rfl (hb hby at_40)
    obtain ⟨cq73, kq73, q73a, q73b, q73c⟩ := isOf hZ e71 (EN.1.2.2.2.2.2.1.ext OL0.2)
    obtain ⟨_, _, ⟨T73, L73, k73, n73⟩, -, X73, ⟨Lc73, hQ73, l73, y73, z73⟩, st73⟩ := X71.virtualBack hx (y := own_m1) (z := own_m1) hown (mvT hZ (hw _ (List.mem_of_getElem? (i := 4) rfl))) (mvT hZ (hw _ (List.mem_of_getElem? (i := 5) rfl))) (notFace_of_selects (args := #[]) (mvT hZ (hw _ (List.mem_of_getElem? (i := 7) rfl)))) (mvT hZ (hw _ (List.mem_of_getElem? (i := 7) rfl))) (mvT hZ (hw _ (List.mem_of_getElem? (i := 6) rfl))) (by decide) (backOf (W := 0) (rm17 l Z a0 hw [] h0 n0 p1 A K cs EN OL0) hZ (hw _ (List.mem_of_getElem? (i := 8) rfl)) (hw _ (List.mem_of_getElem? (i := 2) rfl)) (by decide) (by decide)) q73a q73c (g := (mkF m 84 #[.val (.int p1), .val (.int (2 : Int32)), .val (.ref (A 2)), .val (.int (1 : Int32)), .unset, .unset] [(.ref (A 2))])) rfl (by rw [hml]; rfl) (Steps.refl _) (argsL := []) (rest := []) (lenOf own_pd0 rfl) rfl (by show 2 * 0 + _ ≤ _; exact Nat.le_of_eq rfl) (hb hby at_84) (fun _ _ => ⟨rfl, e71, (by decide : 0 + 0 ≤ _), (by decide : 0 + 0 ≤ _)⟩)
    dsimp only [Pt.U, Pt.locs, Pt.cells, Pt.slots] at X73 l73 y73 z73 st73 hQ73
    subst l73 y73 z73
    obtain ⟨rfl, N73q, e73⟩ := hQ73
    have N73 := Fr.app N0 N73q
    have pre74 : ∀ t, Steps p.tables e below (T73.setTop (mkF m 91 #[.val (.int p1), .val (.int (2 : Int32)), .val (.ref (A 2)), .val (.int (1 : Int32)), .val (.ref (A 8)), .unset] [(.ref (A 8))])) t → Steps p.tables e below (s₁.setTop (entryFrame m #[(.int p1)] maxLocals)) t := fun t k => pre1 t (by
      show Steps p.tables e below (s₁.setTop (mkF m 7 #[.val (.int p1), .unset, .unset, .unset, .unset, .unset] [(.int ((p1 &&& (2147483647 : Int32)) % (6 : Int32)))])) _
      rw [hk2]
      show Steps p.tables e below (s₁.setTop (mkF m 7 #[.val (.int p1), .unset, .unset, .unset, .unset, .unset] [(.int (2 : Int32))])) _
      refine XS.istoreN X0.here hx rfl (hb hby at_7) rfl (l' := #[.val (.int p1), .val (.int (2 : Int32)), .unset, .unset, .unset, .unset]) rfl ?_
      show Steps p.tables e below (s₁.setTop (mkF m 8 #[.val (.int p1), .val (.int (2 : Int32)), .unset, .unset, .unset, .unset] [])) _
      refine XS.iloadN X0.here hx rfl (hb hby at_8) rfl ?_
      show Steps p.tables e below (s₁.setTop (mkF m 9 #[.val (.int p1), .val (.int (2 : Int32)), .unset, .unset, .unset, .unset] [(.int (2 : Int32))])) _
      refine XS.ifYes X0.here hx rfl (pc0 := 9) (pc' := 21) rfl (hb hby at_9) rfl ((if0 _ _).trans (feq (by decide : ¬ ((2 : Int32) = (0 : Int32)))).2) (by decide) (by decide) ?_
      show Steps p.tables e below (s₁.setTop (mkF m 21 #[.val (.int p1), .val (.int (2 : Int32)), .unset, .unset, .unset, .unset] [])) _
      refine XS.iloadN X0.here hx rfl (hb hby at_21) rfl ?_
      show Steps p.tables e below (s₁.setTop (mkF m 22 #[.val (.int p1), .val (.int (2 : Int32)), .unset, .unset, .unset, .unset] [(.int (2 : Int32))])) _
      refine XS.iconst X0.here hx rfl (hb hby at_22) ?_
      show Steps p.tables e below (s₁.setTop (mkF m 23 #[.val (.int p1), .val (.int (2 : Int32)), .unset, .unset, .unset, .unset] [(.int (1 : Int32)), (.int (2 : Int32))])) _
      refine XS.icmpYes X0.here hx rfl (pc0 := 23) (pc' := 35) rfl (hb hby at_23) rfl (feq (by decide : ¬ ((2 : Int32) = (1 : Int32)))).2 (by decide) (by decide) ?_
      show Steps p.tables e below (s₁.setTop (mkF m 35 #[.val (.int p1), .val (.int (2 : Int32)), .unset, .unset, .unset, .unset] [])) _
      refine XS.iloadN X0.here hx rfl (hb hby at_35) rfl ?_
      show Steps p.tables e below (s₁.setTop (mkF m 36 #[.val (.int p1), .val (.int (2 : Int32)), .unset, .unset, .unset, .unset] [(.int (2 : Int32))])) _
      refine XS.iconst X0.here hx rfl (hb hby at_36) ?_
      show Steps p.tables e below (s₁.setTop (mkF m 37 #[.val (.int p1), .val (.int (2 : Int32)), .unset, .unset, .unset, .unset] [(.int (2 : Int32)), (.int (2 : Int32))])) _
      refine XS.icmpNo X0.here hx rfl (hb hby at_37) rfl (teq (by decide : (2 : Int32) = (2 : Int32))).2 ?_
      show Steps p.tables e below (s₁.setTop (mkF m 40 #[.val (.int p1), .val (.int (2 : Int32)), .unset, .unset, .unset, .unset] [])) _
      refine st71 _ ?_
      show Steps p.tables e below (T71.setTop (mkF m 43 #[.val (.int p1), .val (.int (2 : Int32)), .unset, .unset, .unset, .unset] [(.ref (A 2))])) _
      refine XS.astoreN X71.here hx rfl (hb hby at_43) rfl rfl (l' := #[.val (.int p1), .val (.int (2 : Int32)), .val (.ref (A 2)), .unset, .unset, .unset]) rfl ?_
      show Steps p.tables e below (T71.setTop (mkF m 44 #[.val (.int p1), .val (.int (2 : Int32)), .val (.ref (A 2)), .unset, .unset, .unset] [])) _
      refine XS.iconst X71.here hx rfl (hb hby at_44) ?_
      show Steps p.tables e below (T71.setTop (mkF m 45 #[.val (.int p1), .val (.int (2 : Int32)), .val (.ref (A 2)), .unset, .unset, .unset] [(.int (1 : Int32))])) _
      refine XS.istoreN X71.here hx rfl (hb hby at_45) rfl (l' := #[.val (.int p1), .val (.int (2 : Int32)), .val (.ref (A 2)), .val (.int (1 : Int32)), .unset, .unset]) rfl ?_
      show Steps p.tables e below (T71.setTop (mkF m 46 #[.val (.int p1), .val (.int (2 : Int32)), .val (.ref (A 2)), .val (.int (1 : Int32)), .unset, .unset] [])) _
      refine XS.goto X71.here hx rfl (pc0 := 46) (pc' := 83) rfl (hb hby at_46) (by decide) (by decide) ?_
      show Steps p.tables e below (T71.setTop (mkF m 83 #[.val (.int p1), .val (.int (2 : Int32)), .val (.ref (A 2)), .val (.int (1 : Int32)), .unset, .unset] [])) _
      refine XS.aloadN X71.here hx rfl (hb hby at_83) rfl rfl ?_
      show Steps p.tables e below (T71.setTop (mkF m 84 #[.val (.int p1), .val (.int (2 : Int32)), .val (.ref (A 2)), .val (.int (1 : Int32)), .unset, .unset] [(.ref (A 2))])) _
      refine st73.trans ?_
      show Steps p.tables e below (T73.setTop (mkF m 87 #[.val (.int p1), .val (.int (2 : Int32)), .val (.ref (A 2)), .val (.int (1 : Int32)), .unset, .unset] [(.ref (A 8))])) _
      refine XS.astore X73.here hx rfl (hb hby at_87) rfl rfl (l' := #[.val (.int p1), .val (.int (2 : Int32)), .val (.ref (A 2)), .val (.int (1 : Int32)), .val (.ref (A 8)), .unset]) rfl ?_
      show Steps p.tables e below (T73.setTop (mkF m 89 #[.val (.int p1), .val (.int (2 : Int32)), .val (.ref (A 2)), .val (.int (1 : Int32)), .val (.ref (A 8)), .unset] [])) _
      refine XS.aload X73.here hx rfl (hb hby at_89) rfl rfl ?_
      exact k)
    obtain ⟨sa75, T75, h75, kk75, sb75, kc75, X75, e75, E75, hS75, hk75, hZ, hown, Es75, Cs75, Vs75, As75, la75, lb75, I75, st75⟩ := ldcSV (s := s) X73 hx hZ hown (hw _ (List.mem_of_getElem? (i := 11) rfl)) (own_strAtoms a0 Z hw) e73 hS0 hk0 (by rw [hh, ← en0]; exact N73) hkeep I0 (by decide) hc33 hcw (vs := [(.int (60 : Int32)), (.int (62 : Int32))]) (z := (2 : Int32)) ⟨by decide, by decide⟩ (by decide) (by decide) (g := (mkF m 91 #[.val (.int p1), .val (.int (2 : Int32)), .val (.ref (A 2)), .val (.int (1 : Int32)), .val (.ref (A 8)), .unset] [(.ref (A 8))])) rfl (hb hby at_91) (n := 8) (by decide) (by decide) (by decide) (by decide)
    have OL75 : Old Z n0 h75 := OL0.ext E75
    have KK75 : Keep h0 h75 [] := KK0.ext E75
    obtain ⟨cq86, kq86, q86a, q86b, q86c⟩ := isOf hZ e75 (EN.2.2.1.2.1.ext OL75.2)
    obtain ⟨_, _, ⟨T86, L86, k86, n86⟩, -, X86, ⟨Lc86, hQ86, l86, y86, z86⟩, st86⟩ := X75.virtualBack hx (y := own_m2) (z := own_m2) hown (mvT hZ (hw _ (List.mem_of_getElem? (i := 19) rfl))) (mvT hZ (hw _ (List.mem_of_getElem? (i := 20) rfl))) (notFace_of_selects (args := #[]) (mvT hZ (hw _ (List.mem_of_getElem? (i := 22) rfl)))) (mvT hZ (hw _ (List.mem_of_getElem? (i := 22) rfl))) (mvT hZ (hw _ (List.mem_of_getElem? (i := 21) rfl))) (by decide) (backOf (W := 0) (rm18 l Z a0 hw [] h75 n0 p1 A K cs sb75 sa75 kc75 EN OL75 Vs75 As75 Es75 Cs75) hZ (hw _ (List.mem_of_getElem? (i := 23) rfl)) (hw _ (List.mem_of_getElem? (i := 12) rfl)) (by decide) (by decide)) q86a q86c (g := (mkF m 93 #[.val (.int p1), .val (.int (2 : Int32)), .val (.ref (A 2)), .val (.int (1 : Int32)), .val (.ref (A 8)), .unset] [(.ref sa75), (.ref (A 8))])) rfl (by rw [hml]; rfl) (Steps.refl _) (argsL := [(.ref sa75)]) (rest := []) (lenOf own_pd2 rfl) rfl (by show 2 * 0 + _ ≤ _; exact Nat.le_of_eq rfl) (hb hby at_93) (fun _ _ => ⟨rfl, e75, (by decide : 2 + 0 ≤ _), (by decide : 12 + 0 ≤ _)⟩)
    dsimp only [Pt.U, Pt.locs, Pt.cells, Pt.slots] at X86 l86 y86 z86 st86 hQ86
    subst l86 y86 z86
    obtain ⟨rfl, N86q, e86⟩ := hQ86
    have N86 := Fr.app N73 N86q
    obtain ⟨cq92, kq92, q92a, q92b, q92c⟩ := isOf hZ e86 (EN.2.2.1.2.1.ext OL75.2)
    obtain ⟨_, _, ⟨T92, L92, k92, n92⟩, -, X92, ⟨Lc92, hQ92, l92, y92, z92⟩, st92⟩ := X86.virtualBack hx (y := own_m5) (z := own_m5) hown (mvT hZ (hw _ (List.mem_of_getElem? (i := 33) rfl))) (mvT hZ (hw _ (List.mem_of_getElem? (i := 34) rfl))) (notFace_of_selects (args := #[]) (mvT hZ (hw _ (List.mem_of_getElem? (i := 36) rfl)))) (mvT hZ (hw _ (List.mem_of_getElem? (i := 36) rfl))) (mvT hZ (hw _ (List.mem_of_getElem? (i := 35) rfl))) (by decide) (backOf (W := 0) (rm20 l Z a0 hw [] h75 n0 p1 A K cs EN OL75) hZ (hw _ (List.mem_of_getElem? (i := 37) rfl)) (hw _ (List.mem_of_getElem? (i := 12) rfl)) (by decide) (by decide)) q92a q92c (g := (mkF m 101 #[.val (.int p1), .val (.int (2 : Int32)), .val (.ref (A 2)), .val (.int (1 : Int32)), .val (.ref (A 8)), .unset] [(.ref (A 8))])) rfl (by rw [hml]; rfl) (Steps.refl _) (argsL := []) (rest := []) (lenOf own_pd4 rfl) rfl (by show 2 * 0 + _ ≤ _; exact Nat.le_of_eq rfl) (hb hby at_101) (fun _ _ => ⟨rfl, e86, (by decide : 2 + 0 ≤ _), (by decide : 12 + 0 ≤ _)⟩)
    dsimp only [Pt.U, Pt.locs, Pt.cells, Pt.slots] at X92 l92 y92 z92 st92 hQ92
    subst l92 y92 z92
    obtain ⟨rfl, N92q, e92⟩ := hQ92
    have N92 := Fr.app N86 N92q
    obtain ⟨cq101, kq101, q101a, q101b, q101c⟩ := isOf hZ e92 (EN.2.2.1.2.1.ext OL75.2)
    obtain ⟨_, _, ⟨T101, L101, k101, n101⟩, -, X101, ⟨Lc101, hQ101, l101, y101, z101⟩, st101⟩ := X92.virtualBack hx (y := own_m0) (z := own_m0) hown (mvT hZ (hw _ (List.mem_of_getElem? (i := 43) rfl))) (mvT hZ (hw _ (List.mem_of_getElem? (i := 44) rfl))) (notFace_of_selects (args := #[]) (mvT hZ (hw _ (List.mem_of_getElem? (i := 46) rfl)))) (mvT hZ (hw _ (List.mem_of_getElem? (i := 46) rfl))) (mvT hZ (hw _ (List.mem_of_getElem? (i := 45) rfl))) (by decide) (backOf (W := 0) (rm22 l Z a0 hw [] h75 n0 p1 A K cs EN OL75) hZ (hw _ (List.mem_of_getElem? (i := 47) rfl)) (hw _ (List.mem_of_getElem? (i := 12) rfl)) (by decide) (by decide)) q101a q101c (g := (mkF m 110 #[.val (.int p1), .val (.int (2 : Int32)), .val (.ref (A 2)), .val (.int (1 : Int32)), .val (.ref (A 8)), .unset] [(.int (0 : Int32)), (.ref (A 8))])) rfl (by rw [hml]; rfl) (Steps.refl _) (argsL := [(.int (0 : Int32))]) (rest := []) (lenOf own_pd9 rfl) rfl (by show 2 * 0 + _ ≤ _; exact Nat.le_of_eq rfl) (hb hby at_110) (fun _ _ => ⟨rfl, e92, (by decide : 2 + 0 ≤ _), (by decide : 12 + 0 ≤ _)⟩)
    dsimp only [Pt.U, Pt.locs, Pt.cells, Pt.slots] at X101 l101 y101 z101 st101 hQ101
    subst l101 y101 z101
    obtain ⟨rfl, N101q, e101⟩ := hQ101
    have N101 := Fr.app N92 N101q
    obtain ⟨cq104, kq104, q104a, q104b, q104c⟩ := isOf hZ e101 (EN.1.2.2.2.2.2.1.ext OL75.2)
    obtain ⟨_, _, ⟨T104, L104, k104, n104⟩, -, X104, ⟨Lc104, hQ104, l104, y104, z104⟩, st104⟩ := X101.virtualBack hx (y := own_m3) (z := own_m3) hown (mvT hZ (hw _ (List.mem_of_getElem? (i := 64) rfl))) (mvT hZ (hw _ (List.mem_of_getElem? (i := 65) rfl))) (notFace_of_selects (args := #[]) (mvT hZ (hw _ (List.mem_of_getElem? (i := 67) rfl)))) (mvT hZ (hw _ (List.mem_of_getElem? (i := 67) rfl))) (mvT hZ (hw _ (List.mem_of_getElem? (i := 66) rfl))) (by decide) (backOf (W := 0) (rm25 l Z a0 hw [] h75 n0 p1 A K cs EN OL75) hZ (hw _ (List.mem_of_getElem? (i := 68) rfl)) (hw _ (List.mem_of_getElem? (i := 2) rfl)) (by decide) (by decide)) q104a q104c (g := (mkF m 137 #[.val (.int p1), .val (.int (2 : Int32)), .val (.ref (A 2)), .val (.int (1 : Int32)), .val (.ref (A 8)), .val (.int (1 : Int32))] [(.ref (A 2))])) rfl (by rw [hml]; rfl) (Steps.refl _) (argsL := []) (rest := []) (lenOf own_pd5 rfl) rfl (by show 2 * 0 + _ ≤ _; exact Nat.le_of_eq rfl) (hb hby at_137) (fun _ _ => ⟨rfl, e101, (by decide : 2 + 0 ≤ _), (by decide : 12 + 0 ≤ _)⟩)
    dsimp only [Pt.U, Pt.locs, Pt.cells, Pt.slots] at X104 l104 y104 z104 st104 hQ104
    subst l104 y104 z104
    obtain ⟨rfl, N104q, e104⟩ := hQ104
    have N104 := Fr.app N101 N104q
    obtain ⟨fs, hr, hrun, hended, hEW⟩ := X104.leaveW (s := s) hS75 (by rw [e104]; exact hk75) (v := some (.int (1 : Int32))) (fun h => by rw [Bd.returns] at h; cases h)
    refine ⟨_, _, pre74 _ ?_, hrun, hended, _, _, rfl, ?_, hEW.1, hEW.2.1, hEW.2.2.1, hEW.2.2.2.mono (by decide) (by decide)⟩
    · show Steps p.tables e below (T73.setTop (mkF m 91 #[.val (.int p1), .val (.int (2 : Int32)), .val (.ref (A 2)), .val (.int (1 : Int32)), .val (.ref (A 8)), .unset] [(.ref (A 8))])) _
      refine st75 _ ?_
      show Steps p.tables e below (T75.setTop (mkF m 93 #[.val (.int p1), .val (.int (2 : Int32)), .val (.ref (A 2)), .val (.int (1 : Int32)), .val (.ref (A 8)), .unset] [(.ref sa75), (.ref (A 8))])) _
      refine st86.trans ?_
      show Steps p.tables e below (T86.setTop (mkF m 96 #[.val (.int p1), .val (.int (2 : Int32)), .val (.ref (A 2)), .val (.int (1 : Int32)), .val (.ref (A 8)), .unset] [(.int (0 : Int32))])) _
      refine XS.ifNo X86.here hx rfl (hb hby at_96) rfl ((if0 _ _).trans (teq (by decide : (0 : Int32) = (0 : Int32))).2) ?_
      show Steps p.tables e below (T86.setTop (mkF m 99 #[.val (.int p1), .val (.int (2 : Int32)), .val (.ref (A 2)), .val (.int (1 : Int32)), .val (.ref (A 8)), .unset] [])) _
      refine XS.aload X86.here hx rfl (hb hby at_99) rfl rfl ?_
      show Steps p.tables e below (T86.setTop (mkF m 101 #[.val (.int p1), .val (.int (2 : Int32)), .val (.ref (A 2)), .val (.int (1 : Int32)), .val (.ref (A 8)), .unset] [(.ref (A 8))])) _
      refine st92.trans ?_
      show Steps p.tables e below (T92.setTop (mkF m 104 #[.val (.int p1), .val (.int (2 : Int32)), .val (.ref (A 2)), .val (.int (1 : Int32)), .val (.ref (A 8)), .unset] [(.int (1 : Int32))])) _
      refine XS.ifNo X92.here hx rfl (hb hby at_104) rfl ((if0 _ _).trans (tlt (by decide : (0 : Int32) < (1 : Int32))).2.2.2) ?_
      show Steps p.tables e below (T92.setTop (mkF m 107 #[.val (.int p1), .val (.int (2 : Int32)), .val (.ref (A 2)), .val (.int (1 : Int32)), .val (.ref (A 8)), .unset] [])) _
      refine XS.aload X92.here hx rfl (hb hby at_107) rfl rfl ?_
      show Steps p.tables e below (T92.setTop (mkF m 109 #[.val (.int p1), .val (.int (2 : Int32)), .val (.ref (A 2)), .val (.int (1 : Int32)), .val (.ref (A 8)), .unset] [(.ref (A 8))])) _
      refine XS.iconst X92.here hx rfl (hb hby at_109) ?_
      show Steps p.tables e below (T92.setTop (mkF m 110 #[.val (.int p1), .val (.int (2 : Int32)), .val (.ref (A 2)), .val (.int (1 : Int32)), .val (.ref (A 8)), .unset] [(.int (0 : Int32)), (.ref (A 8))])) _
      refine st101.trans ?_
      show Steps p.tables e below (T101.setTop (mkF m 113 #[.val (.int p1), .val (.int (2 : Int32)), .val (.ref (A 2)), .val (.int (1 : Int32)), .val (.ref (A 8)), .unset] [(.int (60 : Int32))])) _
      refine XS.bipush X101.here hx rfl (hb hby at_113) ?_
      show Steps p.tables e below (T101.setTop (mkF m 115 #[.val (.int p1), .val (.int (2 : Int32)), .val (.ref (A 2)), .val (.int (1 : Int32)), .val (.ref (A 8)), .unset] [(.int (60 : Int32)), (.int (60 : Int32))])) _
      refine XS.icmpYes X101.here hx rfl (pc0 := 115) (pc' := 129) rfl (hb hby at_115) rfl (teq (by decide : (60 : Int32) = (60 : Int32))).1 (by decide) (by decide) ?_
      show Steps p.tables e below (T101.setTop (mkF m 129 #[.val (.int p1), .val (.int (2 : Int32)), .val (.ref (A 2)), .val (.int (1 : Int32)), .val (.ref (A 8)), .unset] [])) _
      refine XS.iconst X101.here hx rfl (hb hby at_129) ?_
      show Steps p.tables e below (T101.setTop (mkF m 130 #[.val (.int p1), .val (.int (2 : Int32)), .val (.ref (A 2)), .val (.int (1 : Int32)), .val (.ref (A 8)), .unset] [(.int (1 : Int32))])) _
      refine XS.goto X101.here hx rfl (pc0 := 130) (pc' := 134) rfl (hb hby at_130) (by decide) (by decide) ?_
      show Steps p.tables e below (T101.setTop (mkF m 134 #[.val (.int p1), .val (.int (2 : Int32)), .val (.ref (A 2)), .val (.int (1 : Int32)), .val (.ref (A 8)), .unset] [(.int (1 : Int32))])) _
      refine XS.istore X101.here hx rfl (hb hby at_134) rfl (l' := #[.val (.int p1), .val (.int (2 : Int32)), .val (.ref (A 2)), .val (.int (1 : Int32)), .val (.ref (A 8)), .val (.int (1 : Int32))]) rfl ?_
      show Steps p.tables e below (T101.setTop (mkF m 136 #[.val (.int p1), .val (.int (2 : Int32)), .val (.ref (A 2)), .val (.int (1 : Int32)), .val (.ref (A 8)), .val (.int (1 : Int32))] [])) _
      refine XS.aloadN X101.here hx rfl (hb hby at_136) rfl rfl ?_
      show Steps p.tables e below (T101.setTop (mkF m 137 #[.val (.int p1), .val (.int (2 : Int32)), .val (.ref (A 2)), .val (.int (1 : Int32)), .val (.ref (A 8)), .val (.int (1 : Int32))] [(.ref (A 2))])) _
      refine st104.trans ?_
      show Steps p.tables e below (T104.setTop (mkF m 140 #[.val (.int p1), .val (.int (2 : Int32)), .val (.ref (A 2)), .val (.int (1 : Int32)), .val (.ref (A 8)), .val (.int (1 : Int32))] [(.int (1 : Int32))])) _
      refine XS.iloadN X104.here hx rfl (hb hby at_140) rfl ?_
      show Steps p.tables e below (T104.setTop (mkF m 141 #[.val (.int p1), .val (.int (2 : Int32)), .val (.ref (A 2)), .val (.int (1 : Int32)), .val (.ref (A 8)), .val (.int (1 : Int32))] [(.int (1 : Int32)), (.int (1 : Int32))])) _
      refine XS.icmpNo X104.here hx rfl (hb hby at_141) rfl (teq (by decide : (1 : Int32) = (1 : Int32))).2 ?_
      show Steps p.tables e below (T104.setTop (mkF m 144 #[.val (.int p1), .val (.int (2 : Int32)), .val (.ref (A 2)), .val (.int (1 : Int32)), .val (.ref (A 8)), .val (.int (1 : Int32))] [])) _
      refine XS.iloadN X104.here hx rfl (hb hby at_144) rfl ?_
      show Steps p.tables e below (T104.setTop (mkF m 145 #[.val (.int p1), .val (.int (2 : Int32)), .val (.ref (A 2)), .val (.int (1 : Int32)), .val (.ref (A 8)), .val (.int (1 : Int32))] [(.int (1 : Int32))])) _
      refine XS.iload X104.here hx rfl (hb hby at_145) rfl ?_
      show Steps p.tables e below (T104.setTop (mkF m 147 #[.val (.int p1), .val (.int (2 : Int32)), .val (.ref (A 2)), .val (.int (1 : Int32)), .val (.ref (A 8)), .val (.int (1 : Int32))] [(.int (1 : Int32)), (.int (1 : Int32))])) _
      refine XS.icmpNo X104.here hx rfl (hb hby at_147) rfl (teq (by decide : (1 : Int32) = (1 : Int32))).2 ?_
      show Steps p.tables e below (T104.setTop (mkF m 150 #[.val (.int p1), .val (.int (2 : Int32)), .val (.ref (A 2)), .val (.int (1 : Int32)), .val (.ref (A 8)), .val (.int (1 : Int32))] [])) _
      refine XS.iconst X104.here hx rfl (hb hby at_150) ?_
      show Steps p.tables e below (T104.setTop (mkF m 151 #[.val (.int p1), .val (.int (2 : Int32)), .val (.ref (A 2)), .val (.int (1 : Int32)), .val (.ref (A 8)), .val (.int (1 : Int32))] [(.int (1 : Int32))])) _
      refine XS.goto X104.here hx rfl (pc0 := 151) (pc' := 155) rfl (hb hby at_151) (by decide) (by decide) ?_
      show Steps p.tables e below (T104.setTop (mkF m 155 #[.val (.int p1), .val (.int (2 : Int32)), .val (.ref (A 2)), .val (.int (1 : Int32)), .val (.ref (A 8)), .val (.int (1 : Int32))] [(.int (1 : Int32))])) _
      exact retN X104 hx (t := .boolean) Bd.returns (by simp) (hb hby at_155) hr
    · show LQ n0 _ T104.heap _
      exact ⟨rfl, N104, trivial⟩
  | 3, _, hk2 =>
    obtain ⟨T105, X105, e105, st105⟩ := getS2 X0 hx hZ hown (host := "") (Or.inl (hw _ (List.mem_of_getElem? (i := 70) rfl))) Via.refl e0 (EN.1.2.2.2.2.2.2.1.ext OL0.2) (g := (mkF m 54 #[.val (.int p1), .val (.int (3 : Int32)), .unset, .unset, .unset, .unset] [])) rfl (hb hby at_54)
    obtain ⟨cq107, kq107, q107a, q107b, q107c⟩ := isOf hZ e105 (EN.1.2.2.2.2.2.2.2.1.ext OL0.2)
    obtain ⟨_, _, ⟨T107, L107, k107, n107⟩, -, X107, ⟨Lc107, hQ107, l107, y107, z107⟩, st107⟩ := X105.virtualBack hx (y := own_m1) (z := own_m1) hown (mvT hZ (hw _ (List.mem_of_getElem? (i := 4) rfl))) (mvT hZ (hw _ (List.mem_of_getElem? (i := 5) rfl))) (notFace_of_selects (args := #[]) (mvT hZ (hw _ (List.mem_of_getElem? (i := 7) rfl)))) (mvT hZ (hw _ (List.mem_of_getElem? (i := 7) rfl))) (mvT hZ (hw _ (List.mem_of_getElem? (i := 6) rfl))) (by decide) (backOf (W := 0) (rm26 l Z a0 hw [] h0 n0 p1 A K cs EN OL0) hZ (hw _ (List.mem_of_getElem? (i := 8) rfl)) (hw _ (List.mem_of_getElem? (i := 2) rfl)) (by decide) (by decide)) q107a q107c (g := (mkF m 84 #[.val (.int p1), .val (.int (3 : Int32)), .val (.ref (A 3)), .val (.int (1 : Int32)), .unset, .unset] [(.ref (A 3))])) rfl (by rw [hml]; rfl) (Steps.refl _) (argsL := []) (rest := []) (lenOf own_pd0 rfl) rfl (by show 2 * 0 + _ ≤ _; exact Nat.le_of_eq rfl) (hb hby at_84) (fun _ _ => ⟨rfl, e105, (by decide : 0 + 0 ≤ _), (by decide : 0 + 0 ≤ _)⟩)
    dsimp only [Pt.U, Pt.locs, Pt.cells, Pt.slots] at X107 l107 y107 z107 st107 hQ107
    subst l107 y107 z107
    obtain ⟨rfl, N107q, e107⟩ := hQ107
    have N107 := Fr.app N0 N107q
    have pre108 : ∀ t, Steps p.tables e below (T107.setTop (mkF m 91 #[.val (.int p1), .val (.int (3 : Int32)), .val (.ref (A 3)), .val (.int (1 : Int32)), .val (.ref (A 7)), .unset] [(.ref (A 7))])) t → Steps p.tables e below (s₁.setTop (entryFrame m #[(.int p1)] maxLocals)) t := fun t k => pre1 t (by
      show Steps p.tables e below (s₁.setTop (mkF m 7 #[.val (.int p1), .unset, .unset, .unset, .unset, .unset] [(.int ((p1 &&& (2147483647 : Int32)) % (6 : Int32)))])) _
      rw [hk2]
      show Steps p.tables e below (s₁.setTop (mkF m 7 #[.val (.int p1), .unset, .unset, .unset, .unset, .unset] [(.int (3 : Int32))])) _
      refine XS.istoreN X0.here hx rfl (hb hby at_7) rfl (l' := #[.val (.int p1), .val (.int (3 : Int32)), .unset, .unset, .unset, .unset]) rfl ?_
      show Steps p.tables e below (s₁.setTop (mkF m 8 #[.val (.int p1), .val (.int (3 : Int32)), .unset, .unset, .unset, .unset] [])) _
      refine XS.iloadN X0.here hx rfl (hb hby at_8) rfl ?_
      show Steps p.tables e below (s₁.setTop (mkF m 9 #[.val (.int p1), .val (.int (3 : Int32)), .unset, .unset, .unset, .unset] [(.int (3 : Int32))])) _
      refine XS.ifYes X0.here hx rfl (pc0 := 9) (pc' := 21) rfl (hb hby at_9) rfl ((if0 _ _).trans (feq (by decide : ¬ ((3 : Int32) = (0 : Int32)))).2) (by decide) (by decide) ?_
      show Steps p.tables e below (s₁.setTop (mkF m 21 #[.val (.int p1), .val (.int (3 : Int32)), .unset, .unset, .unset, .unset] [])) _
      refine XS.iloadN X0.here hx rfl (hb hby at_21) rfl ?_
      show Steps p.tables e below (s₁.setTop (mkF m 22 #[.val (.int p1), .val (.int (3 : Int32)), .unset, .unset, .unset, .unset] [(.int (3 : Int32))])) _
      refine XS.iconst X0.here hx rfl (hb hby at_22) ?_
      show Steps p.tables e below (s₁.setTop (mkF m 23 #[.val (.int p1), .val (.int (3 : Int32)), .unset, .unset, .unset, .unset] [(.int (1 : Int32)), (.int (3 : Int32))])) _
      refine XS.icmpYes X0.here hx rfl (pc0 := 23) (pc' := 35) rfl (hb hby at_23) rfl (feq (by decide : ¬ ((3 : Int32) = (1 : Int32)))).2 (by decide) (by decide) ?_
      show Steps p.tables e below (s₁.setTop (mkF m 35 #[.val (.int p1), .val (.int (3 : Int32)), .unset, .unset, .unset, .unset] [])) _
      refine XS.iloadN X0.here hx rfl (hb hby at_35) rfl ?_
      show Steps p.tables e below (s₁.setTop (mkF m 36 #[.val (.int p1), .val (.int (3 : Int32)), .unset, .unset, .unset, .unset] [(.int (3 : Int32))])) _
      refine XS.iconst X0.here hx rfl (hb hby at_36) ?_
      show Steps p.tables e below (s₁.setTop (mkF m 37 #[.val (.int p1), .val (.int (3 : Int32)), .unset, .unset, .unset, .unset] [(.int (2 : Int32)), (.int (3 : Int32))])) _
      refine XS.icmpYes X0.here hx rfl (pc0 := 37) (pc' := 49) rfl (hb hby at_37) rfl (feq (by decide : ¬ ((3 : Int32) = (2 : Int32)))).2 (by decide) (by decide) ?_
      show Steps p.tables e below (s₁.setTop (mkF m 49 #[.val (.int p1), .val (.int (3 : Int32)), .unset, .unset, .unset, .unset] [])) _
      refine XS.iloadN X0.here hx rfl (hb hby at_49) rfl ?_
      show Steps p.tables e below (s₁.setTop (mkF m 50 #[.val (.int p1), .val (.int (3 : Int32)), .unset, .unset, .unset, .unset] [(.int (3 : Int32))])) _
      refine XS.iconst X0.here hx rfl (hb hby at_50) ?_
      show Steps p.tables e below (s₁.setTop (mkF m 51 #[.val (.int p1), .val (.int (3 : Int32)), .unset, .unset, .unset, .unset] [(.int (3 : Int32)), (.int (3 : Int32))])) _
      refine XS.icmpNo X0.here hx rfl (hb hby at_51) rfl (teq (by decide : (3 : Int32) = (3 : Int32))).2 ?_
      show Steps p.tables e below (s₁.setTop (mkF m 54 #[.val (.int p1), .val (.int (3 : Int32)), .unset, .unset, .unset, .unset] [])) _
      refine st105 _ ?_
      show Steps p.tables e below (T105.setTop (mkF m 57 #[.val (.int p1), .val (.int (3 : Int32)), .unset, .unset, .unset, .unset] [(.ref (A 3))])) _
      refine XS.astoreN X105.here hx rfl (hb hby at_57) rfl rfl (l' := #[.val (.int p1), .val (.int (3 : Int32)), .val (.ref (A 3)), .unset, .unset, .unset]) rfl ?_
      show Steps p.tables e below (T105.setTop (mkF m 58 #[.val (.int p1), .val (.int (3 : Int32)), .val (.ref (A 3)), .unset, .unset, .unset] [])) _
      refine XS.iconst X105.here hx rfl (hb hby at_58) ?_
      show Steps p.tables e below (T105.setTop (mkF m 59 #[.val (.int p1), .val (.int (3 : Int32)), .val (.ref (A 3)), .unset, .unset, .unset] [(.int (1 : Int32))])) _
      refine XS.istoreN X105.here hx rfl (hb hby at_59) rfl (l' := #[.val (.int p1), .val (.int (3 : Int32)), .val (.ref (A 3)), .val (.int (1 : Int32)), .unset, .unset]) rfl ?_
      show Steps p.tables e below (T105.setTop (mkF m 60 #[.val (.int p1), .val (.int (3 : Int32)), .val (.ref (A 3)), .val (.int (1 : Int32)), .unset, .unset] [])) _
      refine XS.goto X105.here hx rfl (pc0 := 60) (pc' := 83) rfl (hb hby at_60) (by decide) (by decide) ?_
      show Steps p.tables e below (T105.setTop (mkF m 83 #[.val (.int p1), .val (.int (3 : Int32)), .val (.ref (A 3)), .val (.int (1 : Int32)), .unset, .unset] [])) _
      refine XS.aloadN X105.here hx rfl (hb hby at_83) rfl rfl ?_
      show Steps p.tables e below (T105.setTop (mkF m 84 #[.val (.int p1), .val (.int (3 : Int32)), .val (.ref (A 3)), .val (.int (1 : Int32)), .unset, .unset] [(.ref (A 3))])) _
      refine st107.trans ?_
      show Steps p.tables e below (T107.setTop (mkF m 87 #[.val (.int p1), .val (.int (3 : Int32)), .val (.ref (A 3)), .val (.int (1 : Int32)), .unset, .unset] [(.ref (A 7))])) _
      refine XS.astore X107.here hx rfl (hb hby at_87) rfl rfl (l' := #[.val (.int p1), .val (.int (3 : Int32)), .val (.ref (A 3)), .val (.int (1 : Int32)), .val (.ref (A 7)), .unset]) rfl ?_
      show Steps p.tables e below (T107.setTop (mkF m 89 #[.val (.int p1), .val (.int (3 : Int32)), .val (.ref (A 3)), .val (.int (1 : Int32)), .val (.ref (A 7)), .unset] [])) _
      refine XS.aload X107.here hx rfl (hb hby at_89) rfl rfl ?_
      exact k)
    obtain ⟨sa109, T109, h109, kk109, sb109, kc109, X109, e109, E109, hS109, hk109, hZ, hown, Es109, Cs109, Vs109, As109, la109, lb109, I109, st109⟩ := ldcSV (s := s) X107 hx hZ hown (hw _ (List.mem_of_getElem? (i := 11) rfl)) (own_strAtoms a0 Z hw) e107 hS0 hk0 (by rw [hh, ← en0]; exact N107) hkeep I0 (by decide) hc33 hcw (vs := [(.int (60 : Int32)), (.int (62 : Int32))]) (z := (2 : Int32)) ⟨by decide, by decide⟩ (by decide) (by decide) (g := (mkF m 91 #[.val (.int p1), .val (.int (3 : Int32)), .val (.ref (A 3)), .val (.int (1 : Int32)), .val (.ref (A 7)), .unset] [(.ref (A 7))])) rfl (hb hby at_91) (n := 8) (by decide) (by decide) (by decide) (by decide)
    have OL109 : Old Z n0 h109 := OL0.ext E109
    have KK109 : Keep h0 h109 [] := KK0.ext E109
    obtain ⟨cq126, kq126, q126a, q126b, q126c⟩ := isOf hZ e109 (EN.2.1.2.2.2.2.2.2.2.1.ext OL109.2)
    obtain ⟨_, _, ⟨T126, L126, k126, n126⟩, -, X126, ⟨Lc126, hQ126, l126, y126, z126⟩, st126⟩ := X109.virtualBack hx (y := own_m2) (z := own_m2) hown (mvT hZ (hw _ (List.mem_of_getElem? (i := 19) rfl))) (mvT hZ (hw _ (List.mem_of_getElem? (i := 20) rfl))) (notFace_of_selects (args := #[]) (mvT hZ (hw _ (List.mem_of_getElem? (i := 22) rfl)))) (mvT hZ (hw _ (List.mem_of_getElem? (i := 22) rfl))) (mvT hZ (hw _ (List.mem_of_getElem? (i := 21) rfl))) (by decide) (backOf (W := 0) (rm27 l Z a0 hw [] h109 n0 p1 A K cs sb109 sa109 kc109 EN OL109 Vs109 As109 Es109 Cs109) hZ (hw _ (List.mem_of_getElem? (i := 23) rfl)) (hw _ (List.mem_of_getElem? (i := 12) rfl)) (by decide) (by decide)) q126a q126c (g := (mkF m 93 #[.val (.int p1), .val (.int (3 : Int32)), .val (.ref (A 3)), .val (.int (1 : Int32)), .val (.ref (A 7)), .unset] [(.ref sa109), (.ref (A 7))])) rfl (by rw [hml]; rfl) (Steps.refl _) (argsL := [(.ref sa109)]) (rest := []) (lenOf own_pd2 rfl) rfl (by show 2 * 0 + _ ≤ _; exact Nat.le_of_eq rfl) (hb hby at_93) (fun _ _ => ⟨rfl, e109, (by decide : 2 + 0 ≤ _), (by decide : 12 + 0 ≤ _)⟩)
    dsimp only [Pt.U, Pt.locs, Pt.cells, Pt.slots] at X126 l126 y126 z126 st126 hQ126
    subst l126 y126 z126
    obtain ⟨rfl, N126q, e126⟩ := hQ126
    have N126 := Fr.app N107 N126q
    obtain ⟨cq132, kq132, q132a, q132b, q132c⟩ := isOf hZ e126 (EN.2.1.2.2.2.2.2.2.2.1.ext OL109.2)
    obtain ⟨_, _, ⟨T132, L132, k132, n132⟩, -, X132, ⟨Lc132, hQ132, l132, y132, z132⟩, st132⟩ := X126.virtualBack hx (y := own_m5) (z := own_m5) hown (mvT hZ (hw _ (List.mem_of_getElem? (i := 33) rfl))) (mvT hZ (hw _ (List.mem_of_getElem? (i := 34) rfl))) (notFace_of_selects (args := #[]) (mvT hZ (hw _ (List.mem_of_getElem? (i := 36) rfl)))) (mvT hZ (hw _ (List.mem_of_getElem? (i := 36) rfl))) (mvT hZ (hw _ (List.mem_of_getElem? (i := 35) rfl))) (by decide) (backOf (W := 0) (rm29 l Z a0 hw [] h109 n0 p1 A K cs EN OL109) hZ (hw _ (List.mem_of_getElem? (i := 37) rfl)) (hw _ (List.mem_of_getElem? (i := 12) rfl)) (by decide) (by decide)) q132a q132c (g := (mkF m 101 #[.val (.int p1), .val (.int (3 : Int32)), .val (.ref (A 3)), .val (.int (1 : Int32)), .val (.ref (A 7)), .unset] [(.ref (A 7))])) rfl (by rw [hml]; rfl) (Steps.refl _) (argsL := []) (rest := []) (lenOf own_pd4 rfl) rfl (by show 2 * 0 + _ ≤ _; exact Nat.le_of_eq rfl) (hb hby at_101) (fun _ _ => ⟨rfl, e126, (by decide : 2 + 0 ≤ _), (by decide : 12 + 0 ≤ _)⟩)
    dsimp only [Pt.U, Pt.locs, Pt.cells, Pt.slots] at X132 l132 y132 z132 st132 hQ132
    subst l132 y132 z132
    obtain ⟨rfl, N132q, e132⟩ := hQ132
    have N132 := Fr.app N126 N132q
    obtain ⟨cq147, kq147, q147a, q147b, q147c⟩ := isOf hZ e132 (EN.2.1.2.2.2.2.2.2.2.1.ext OL109.2)
    obtain ⟨_, _, ⟨T147, L147, k147, n147⟩, -, X147, ⟨Lc147, hQ147, l147, y147, z147⟩, st147⟩ := X132.virtualBack hx (y := own_m0) (z := own_m0) hown (mvT hZ (hw _ (List.mem_of_getElem? (i := 43) rfl))) (mvT hZ (hw _ (List.mem_of_getElem? (i := 44) rfl))) (notFace_of_selects (args := #[]) (mvT hZ (hw _ (List.mem_of_getElem? (i := 46) rfl)))) (mvT hZ (hw _ (List.mem_of_getElem? (i := 46) rfl))) (mvT hZ (hw _ (List.mem_of_getElem? (i := 45) rfl))) (by decide) (backOf (W := 0) (rm31 l Z a0 hw [] h109 n0 p1 A K cs EN OL109) hZ (hw _ (List.mem_of_getElem? (i := 47) rfl)) (hw _ (List.mem_of_getElem? (i := 12) rfl)) (by decide) (by decide)) q147a q147c (g := (mkF m 110 #[.val (.int p1), .val (.int (3 : Int32)), .val (.ref (A 3)), .val (.int (1 : Int32)), .val (.ref (A 7)), .unset] [(.int (0 : Int32)), (.ref (A 7))])) rfl (by rw [hml]; rfl) (Steps.refl _) (argsL := [(.int (0 : Int32))]) (rest := []) (lenOf own_pd9 rfl) rfl (by show 2 * 0 + _ ≤ _; exact Nat.le_of_eq rfl) (hb hby at_110) (fun _ _ => ⟨rfl, e132, (by decide : 2 + 0 ≤ _), (by decide : 12 + 0 ≤ _)⟩)
    dsimp only [Pt.U, Pt.locs, Pt.cells, Pt.slots] at X147 l147 y147 z147 st147 hQ147
    subst l147 y147 z147
    obtain ⟨rfl, N147q, e147⟩ := hQ147
    have N147 := Fr.app N132 N147q
    obtain ⟨cq150, kq150, q150a, q150b, q150c⟩ := isOf hZ e147 (EN.1.2.2.2.2.2.2.2.1.ext OL109.2)
    obtain ⟨_, _, ⟨T150, L150, k150, n150⟩, -, X150, ⟨Lc150, hQ150, l150, y150, z150⟩, st150⟩ := X147.virtualBack hx (y := own_m3) (z := own_m3) hown (mvT hZ (hw _ (List.mem_of_getElem? (i := 64) rfl))) (mvT hZ (hw _ (List.mem_of_getElem? (i := 65) rfl))) (notFace_of_selects (args := #[]) (mvT hZ (hw _ (List.mem_of_getElem? (i := 67) rfl)))) (mvT hZ (hw _ (List.mem_of_getElem? (i := 67) rfl))) (mvT hZ (hw _ (List.mem_of_getElem? (i := 66) rfl))) (by decide) (backOf (W := 0) (rm37 l Z a0 hw [] h109 n0 p1 A K cs EN OL109) hZ (hw _ (List.mem_of_getElem? (i := 68) rfl)) (hw _ (List.mem_of_getElem? (i := 2) rfl)) (by decide) (by decide)) q150a q150c (g := (mkF m 137 #[.val (.int p1), .val (.int (3 : Int32)), .val (.ref (A 3)), .val (.int (1 : Int32)), .val (.ref (A 7)), .val (.int (1 : Int32))] [(.ref (A 3))])) rfl (by rw [hml]; rfl) (Steps.refl _) (argsL := []) (rest := []) (lenOf own_pd5 rfl) rfl (by show 2 * 0 + _ ≤ _; exact Nat.le_of_eq rfl) (hb hby at_137) (fun _ _ => ⟨rfl, e147, (by decide : 2 + 0 ≤ _), (by decide : 12 + 0 ≤ _)⟩)
    dsimp only [Pt.U, Pt.locs, Pt.cells, Pt.slots] at X150 l150 y150 z150 st150 hQ150
    subst l150 y150 z150
    obtain ⟨rfl, N150q, e150⟩ := hQ150
    have N150 := Fr.app N147 N150q
    obtain ⟨fs, hr, hrun, hended, hEW⟩ := X150.leaveW (s := s) hS109 (by rw [e150]; exact hk109) (v := some (.int (1 : Int32))) (fun h => by rw [Bd.returns] at h; cases h)
    refine ⟨_, _, pre108 _ ?_, hrun, hended, _, _, rfl, ?_, hEW.1, hEW.2.1, hEW.2.2.1, hEW.2.2.2.mono (by decide) (by decide)⟩
    · show Steps p.tables e below (T107.setTop (mkF m 91 #[.val (.int p1), .val (.int (3 : Int32)), .val (.ref (A 3)), .val (.int (1 : Int32)), .val (.ref (A 7)), .unset] [(.ref (A 7))])) _
      refine st109 _ ?_
      show Steps p.tables e below (T109.setTop (mkF m 93 #[.val (.int p1), .val (.int (3 : Int32)), .val (.ref (A 3)), .val (.int (1 : Int32)), .val (.ref (A 7)), .unset] [(.ref sa109), (.ref (A 7))])) _
      refine st126.trans ?_
      show Steps p.tables e below (T126.setTop (mkF m 96 #[.val (.int p1), .val (.int (3 : Int32)), .val (.ref (A 3)), .val (.int (1 : Int32)), .val (.ref (A 7)), .unset] [(.int (0 : Int32))])) _
      refine XS.ifNo X126.here hx rfl (hb hby at_96) rfl ((if0 _ _).trans (teq (by decide : (0 : Int32) = (0 : Int32))).2) ?_
      show Steps p.tables e below (T126.setTop (mkF m 99 #[.val (.int p1), .val (.int (3 : Int32)), .val (.ref (A 3)), .val (.int (1 : Int32)), .val (.ref (A 7)), .unset] [])) _
      refine XS.aload X126.here hx rfl (hb hby at_99) rfl rfl ?_
      show Steps p.tables e below (T126.setTop (mkF m 101 #[.val (.int p1), .val (.int (3 : Int32)), .val (.ref (A 3)), .val (.int (1 : Int32)), .val (.ref (A 7)), .unset] [(.ref (A 7))])) _
      refine st132.trans ?_
      show Steps p.tables e below (T132.setTop (mkF m 104 #[.val (.int p1), .val (.int (3 : Int32)), .val (.ref (A 3)), .val (.int (1 : Int32)), .val (.ref (A 7)), .unset] [(.int (2 : Int32))])) _
      refine XS.ifNo X132.here hx rfl (hb hby at_104) rfl ((if0 _ _).trans (tlt (by decide : (0 : Int32) < (2 : Int32))).2.2.2) ?_
      show Steps p.tables e below (T132.setTop (mkF m 107 #[.val (.int p1), .val (.int (3 : Int32)), .val (.ref (A 3)), .val (.int (1 : Int32)), .val (.ref (A 7)), .unset] [])) _
      refine XS.aload X132.here hx rfl (hb hby at_107) rfl rfl ?_
      show Steps p.tables e below (T132.setTop (mkF m 109 #[.val (.int p1), .val (.int (3 : Int32)), .val (.ref (A 3)), .val (.int (1 : Int32)), .val (.ref (A 7)), .unset] [(.ref (A 7))])) _
      refine XS.iconst X132.here hx rfl (hb hby at_109) ?_
      show Steps p.tables e below (T132.setTop (mkF m 110 #[.val (.int p1), .val (.int (3 : Int32)), .val (.ref (A 3)), .val (.int (1 : Int32)), .val (.ref (A 7)), .unset] [(.int (0 : Int32)), (.ref (A 7))])) _
      refine st147.trans ?_
      show Steps p.tables e below (T147.setTop (mkF m 113 #[.val (.int p1), .val (.int (3 : Int32)), .val (.ref (A 3)), .val (.int (1 : Int32)), .val (.ref (A 7)), .unset] [(.int (60 : Int32))])) _
      refine XS.bipush X147.here hx rfl (hb hby at_113) ?_
      show Steps p.tables e below (T147.setTop (mkF m 115 #[.val (.int p1), .val (.int (3 : Int32)), .val (.ref (A 3)), .val (.int (1 : Int32)), .val (.ref (A 7)), .unset] [(.int (60 : Int32)), (.int (60 : Int32))])) _
      refine XS.icmpYes X147.here hx rfl (pc0 := 115) (pc' := 129) rfl (hb hby at_115) rfl (teq (by decide : (60 : Int32) = (60 : Int32))).1 (by decide) (by decide) ?_
      show Steps p.tables e below (T147.setTop (mkF m 129 #[.val (.int p1), .val (.int (3 : Int32)), .val (.ref (A 3)), .val (.int (1 : Int32)), .val (.ref (A 7)), .unset] [])) _
      refine XS.iconst X147.here hx rfl (hb hby at_129) ?_
      show Steps p.tables e below (T147.setTop (mkF m 130 #[.val (.int p1), .val (.int (3 : Int32)), .val (.ref (A 3)), .val (.int (1 : Int32)), .val (.ref (A 7)), .unset] [(.int (1 : Int32))])) _
      refine XS.goto X147.here hx rfl (pc0 := 130) (pc' := 134) rfl (hb hby at_130) (by decide) (by decide) ?_
      show Steps p.tables e below (T147.setTop (mkF m 134 #[.val (.int p1), .val (.int (3 : Int32)), .val (.ref (A 3)), .val (.int (1 : Int32)), .val (.ref (A 7)), .unset] [(.int (1 : Int32))])) _
      refine XS.istore X147.here hx rfl (hb hby at_134) rfl (l' := #[.val (.int p1), .val (.int (3 : Int32)), .val (.ref (A 3)), .val (.int (1 : Int32)), .val (.ref (A 7)), .val (.int (1 : Int32))]) rfl ?_
      show Steps p.tables e below (T147.setTop (mkF m 136 #[.val (.int p1), .val (.int (3 : Int32)), .val (.ref (A 3)), .val (.int (1 : Int32)), .val (.ref (A 7)), .val (.int (1 : Int32))] [])) _
      refine XS.aloadN X147.here hx rfl (hb hby at_136) rfl rfl ?_
      show Steps p.tables e below (T147.setTop (mkF m 137 #[.val (.int p1), .val (.int (3 : Int32)), .val (.ref (A 3)), .val (.int (1 : Int32)), .val (.ref (A 7)), .val (.int (1 : Int32))] [(.ref (A 3))])) _
      refine st150.trans ?_
      show Steps p.tables e below (T150.setTop (mkF m 140 #[.val (.int p1), .val (.int (3 : Int32)), .val (.ref (A 3)), .val (.int (1 : Int32)), .val (.ref (A 7)), .val (.int (1 : Int32))] [(.int (1 : Int32))])) _
      refine XS.iloadN X150.here hx rfl (hb hby at_140) rfl ?_
      show Steps p.tables e below (T150.setTop (mkF m 141 #[.val (.int p1), .val (.int (3 : Int32)), .val (.ref (A 3)), .val (.int (1 : Int32)), .val (.ref (A 7)), .val (.int (1 : Int32))] [(.int (1 : Int32)), (.int (1 : Int32))])) _
      refine XS.icmpNo X150.here hx rfl (hb hby at_141) rfl (teq (by decide : (1 : Int32) = (1 : Int32))).2 ?_
      show Steps p.tables e below (T150.setTop (mkF m 144 #[.val (.int p1), .val (.int (3 : Int32)), .val (.ref (A 3)), .val (.int (1 : Int32)), .val (.ref (A 7)), .val (.int (1 : Int32))] [])) _
      refine XS.iloadN X150.here hx rfl (hb hby at_144) rfl ?_
      show Steps p.tables e below (T150.setTop (mkF m 145 #[.val (.int p1), .val (.int (3 : Int32)), .val (.ref (A 3)), .val (.int (1 : Int32)), .val (.ref (A 7)), .val (.int (1 : Int32))] [(.int (1 : Int32))])) _
      refine XS.iload X150.here hx rfl (hb hby at_145) rfl ?_
      show Steps p.tables e below (T150.setTop (mkF m 147 #[.val (.int p1), .val (.int (3 : Int32)), .val (.ref (A 3)), .val (.int (1 : Int32)), .val (.ref (A 7)), .val (.int (1 : Int32))] [(.int (1 : Int32)), (.int (1 : Int32))])) _
      refine XS.icmpNo X150.here hx rfl (hb hby at_147) rfl (teq (by decide : (1 : Int32) = (1 : Int32))).2 ?_
      show Steps p.tables e below (T150.setTop (mkF m 150 #[.val (.int p1), .val (.int (3 : Int32)), .val (.ref (A 3)), .val (.int (1 : Int32)), .val (.ref (A 7)), .val (.int (1 : Int32))] [])) _
      refine XS.iconst X150.here hx rfl (hb hby at_150) ?_
      show Steps p.tables e below (T150.setTop (mkF m 151 #[.val (.int p1), .val (.int (3 : Int32)), .val (.ref (A 3)), .val (.int (1 : Int32)), .val (.ref (A 7)), .val (.int (1 : Int32))] [(.int (1 : Int32))])) _
      refine XS.goto X150.here hx rfl (pc0 := 151) (pc' := 155) rfl (hb hby at_151) (by decide) (by decide) ?_
      show Steps p.tables e below (T150.setTop (mkF m 155 #[.val (.int p1), .val (.int (3 : Int32)), .val (.ref (A 3)), .val (.int (1 : Int32)), .val (.ref (A 7)), .val (.int (1 : Int32))] [(.int (1 : Int32))])) _
      exact retN X150 hx (t := .boolean) Bd.returns (by simp) (hb hby at_155) hr
    · show LQ n0 _ T150.heap _
      exact ⟨rfl, N150, trivial⟩
  | 4, _, hk2 =>
    obtain ⟨T151, X151, e151, st151⟩ := getS2 X0 hx hZ hown (host := "") (Or.inl (hw _ (List.mem_of_getElem? (i := 79) rfl))) Via.refl e0 (EN.2.1.1.ext OL0.2) (g := (mkF m 68 #[.val (.int p1), .val (.int (4 : Int32)), .unset, .unset, .unset, .unset] [])) rfl (hb hby at_68)
    obtain ⟨cq153, kq153, q153a, q153b, q153c⟩ := isOf hZ e151 (EN.2.1.2.1.ext OL0.2)
    obtain ⟨_, _, ⟨T153, L153, k153, n153⟩, -, X153, ⟨Lc153, hQ153, l153, y153, z153⟩, st153⟩ := X151.virtualBack hx (y := own_m1) (z := own_m1) hown (mvT hZ (hw _ (List.mem_of_getElem? (i := 4) rfl))) (mvT hZ (hw _ (List.mem_of_getElem? (i := 5) rfl))) (notFace_of_selects (args := #[]) (mvT hZ (hw _ (List.mem_of_getElem? (i := 7) rfl)))) (mvT hZ (hw _ (List.mem_of_getElem? (i := 7) rfl))) (mvT hZ (hw _ (List.mem_of_getElem? (i := 6) rfl))) (by decide) (backOf (W := 0) (rm38 l Z a0 hw [] h0 n0 p1 A K cs EN OL0) hZ (hw _ (List.mem_of_getElem? (i := 8) rfl)) (hw _ (List.mem_of_getElem? (i := 2) rfl)) (by decide) (by decide)) q153a q153c (g := (mkF m 84 #[.val (.int p1), .val (.int (4 : Int32)), .val (.ref (A 4)), .val (.int (1 : Int32)), .unset, .unset] [(.ref (A 4))])) rfl (by rw [hml]; rfl) (Steps.refl _) (argsL := []) (rest := []) (lenOf own_pd0 rfl) rfl (by show 2 * 0 + _ ≤ _; exact Nat.le_of_eq rfl) (hb hby at_84) (fun _ _ => ⟨rfl, e151, (by decide : 0 + 0 ≤ _), (by decide : 0 + 0 ≤ _)⟩)
    dsimp only [Pt.U, Pt.locs, Pt.cells, Pt.slots] at X153 l153 y153 z153 st153 hQ153
    subst l153 y153 z153
    obtain ⟨rfl, N153q, e153⟩ := hQ153
    have N153 := Fr.app N0 N153q
    have pre154 : ∀ t, Steps p.tables e below (T153.setTop (mkF m 91 #[.val (.int p1), .val (.int (4 : Int32)), .val (.ref (A 4)), .val (.int (1 : Int32)), .val (.ref (A 11)), .unset] [(.ref (A 11))])) t → Steps p.tables e below (s₁.setTop (entryFrame m #[(.int p1)] maxLocals)) t := fun t k => pre1 t (by
      show Steps p.tables e below (s₁.setTop (mkF m 7 #[.val (.int p1), .unset, .unset, .unset, .unset, .unset] [(.int ((p1 &&& (2147483647 : Int32)) % (6 : Int32)))])) _
      rw [hk2]
      show Steps p.tables e below (s₁.setTop (mkF m 7 #[.val (.int p1), .unset, .unset, .unset, .unset, .unset] [(.int (4 : Int32))])) _
      refine XS.istoreN X0.here hx rfl (hb hby at_7) rfl (l' := #[.val (.int p1), .val (.int (4 : Int32)), .unset, .unset, .unset, .unset]) rfl ?_
      show Steps p.tables e below (s₁.setTop (mkF m 8 #[.val (.int p1), .val (.int (4 : Int32)), .unset, .unset, .unset, .unset] [])) _
      refine XS.iloadN X0.here hx rfl (hb hby at_8) rfl ?_
      show Steps p.tables e below (s₁.setTop (mkF m 9 #[.val (.int p1), .val (.int (4 : Int32)), .unset, .unset, .unset, .unset] [(.int (4 : Int32))])) _
      refine XS.ifYes X0.here hx rfl (pc0 := 9) (pc' := 21) rfl (hb hby at_9) rfl ((if0 _ _).trans (feq (by decide : ¬ ((4 : Int32) = (0 : Int32)))).2) (by decide) (by decide) ?_
      show Steps p.tables e below (s₁.setTop (mkF m 21 #[.val (.int p1), .val (.int (4 : Int32)), .unset, .unset, .unset, .unset] [])) _
      refine XS.iloadN X0.here hx rfl (hb hby at_21) rfl ?_
      show Steps p.tables e below (s₁.setTop (mkF m 22 #[.val (.int p1), .val (.int (4 : Int32)), .unset, .unset, .unset, .unset] [(.int (4 : Int32))])) _
      refine XS.iconst X0.here hx rfl (hb hby at_22) ?_
      show Steps p.tables e below (s₁.setTop (mkF m 23 #[.val (.int p1), .val (.int (4 : Int32)), .unset, .unset, .unset, .unset] [(.int (1 : Int32)), (.int (4 : Int32))])) _
      refine XS.icmpYes X0.here hx rfl (pc0 := 23) (pc' := 35) rfl (hb hby at_23) rfl (feq (by decide : ¬ ((4 : Int32) = (1 : Int32)))).2 (by decide) (by decide) ?_
      show Steps p.tables e below (s₁.setTop (mkF m 35 #[.val (.int p1), .val (.int (4 : Int32)), .unset, .unset, .unset, .unset] [])) _
      refine XS.iloadN X0.here hx rfl (hb hby at_35) rfl ?_
      show Steps p.tables e below (s₁.setTop (mkF m 36 #[.val (.int p1), .val (.int (4 : Int32)), .unset, .unset, .unset, .unset] [(.int (4 : Int32))])) _
      refine XS.iconst X0.here hx rfl (hb hby at_36) ?_
      show Steps p.tables e below (s₁.setTop (mkF m 37 #[.val (.int p1), .val (.int (4 : Int32)), .unset, .unset, .unset, .unset] [(.int (2 : Int32)), (.int (4 : Int32))])) _
      refine XS.icmpYes X0.here hx rfl (pc0 := 37) (pc' := 49) rfl (hb hby at_37) rfl (feq (by decide : ¬ ((4 : Int32) = (2 : Int32)))).2 (by decide) (by decide) ?_
      show Steps p.tables e below (s₁.setTop (mkF m 49 #[.val (.int p1), .val (.int (4 : Int32)), .unset, .unset, .unset, .unset] [])) _
      refine XS.iloadN X0.here hx rfl (hb hby at_49) rfl ?_
      show Steps p.tables e below (s₁.setTop (mkF m 50 #[.val (.int p1), .val (.int (4 : Int32)), .unset, .unset, .unset, .unset] [(.int (4 : Int32))])) _
      refine XS.iconst X0.here hx rfl (hb hby at_50) ?_
      show Steps p.tables e below (s₁.setTop (mkF m 51 #[.val (.int p1), .val (.int (4 : Int32)), .unset, .unset, .unset, .unset] [(.int (3 : Int32)), (.int (4 : Int32))])) _
      refine XS.icmpYes X0.here hx rfl (pc0 := 51) (pc' := 63) rfl (hb hby at_51) rfl (feq (by decide : ¬ ((4 : Int32) = (3 : Int32)))).2 (by decide) (by decide) ?_
      show Steps p.tables e below (s₁.setTop (mkF m 63 #[.val (.int p1), .val (.int (4 : Int32)), .unset, .unset, .unset, .unset] [])) _
      refine XS.iloadN X0.here hx rfl (hb hby at_63) rfl ?_
      show Steps p.tables e below (s₁.setTop (mkF m 64 #[.val (.int p1), .val (.int (4 : Int32)), .unset, .unset, .unset, .unset] [(.int (4 : Int32))])) _
      refine XS.iconst X0.here hx rfl (hb hby at_64) ?_
      show Steps p.tables e below (s₁.setTop (mkF m 65 #[.val (.int p1), .val (.int (4 : Int32)), .unset, .unset, .unset, .unset] [(.int (4 : Int32)), (.int (4 : Int32))])) _
      refine XS.icmpNo X0.here hx rfl (hb hby at_65) rfl (teq (by decide : (4 : Int32) = (4 : Int32))).2 ?_
      show Steps p.tables e below (s₁.setTop (mkF m 68 #[.val (.int p1), .val (.int (4 : Int32)), .unset, .unset, .unset, .unset] [])) _
      refine st151 _ ?_
      show Steps p.tables e below (T151.setTop (mkF m 71 #[.val (.int p1), .val (.int (4 : Int32)), .unset, .unset, .unset, .unset] [(.ref (A 4))])) _
      refine XS.astoreN X151.here hx rfl (hb hby at_71) rfl rfl (l' := #[.val (.int p1), .val (.int (4 : Int32)), .val (.ref (A 4)), .unset, .unset, .unset]) rfl ?_
      show Steps p.tables e below (T151.setTop (mkF m 72 #[.val (.int p1), .val (.int (4 : Int32)), .val (.ref (A 4)), .unset, .unset, .unset] [])) _
      refine XS.iconst X151.here hx rfl (hb hby at_72) ?_
      show Steps p.tables e below (T151.setTop (mkF m 73 #[.val (.int p1), .val (.int (4 : Int32)), .val (.ref (A 4)), .unset, .unset, .unset] [(.int (1 : Int32))])) _
      refine XS.istoreN X151.here hx rfl (hb hby at_73) rfl (l' := #[.val (.int p1), .val (.int (4 : Int32)), .val (.ref (A 4)), .val (.int (1 : Int32)), .unset, .unset]) rfl ?_
      show Steps p.tables e below (T151.setTop (mkF m 74 #[.val (.int p1), .val (.int (4 : Int32)), .val (.ref (A 4)), .val (.int (1 : Int32)), .unset, .unset] [])) _
      refine XS.goto X151.here hx rfl (pc0 := 74) (pc' := 83) rfl (hb hby at_74) (by decide) (by decide) ?_
      show Steps p.tables e below (T151.setTop (mkF m 83 #[.val (.int p1), .val (.int (4 : Int32)), .val (.ref (A 4)), .val (.int (1 : Int32)), .unset, .unset] [])) _
      refine XS.aloadN X151.here hx rfl (hb hby at_83) rfl rfl ?_
      show Steps p.tables e below (T151.setTop (mkF m 84 #[.val (.int p1), .val (.int (4 : Int32)), .val (.ref (A 4)), .val (.int (1 : Int32)), .unset, .unset] [(.ref (A 4))])) _
      refine st153.trans ?_
      show Steps p.tables e below (T153.setTop (mkF m 87 #[.val (.int p1), .val (.int (4 : Int32)), .val (.ref (A 4)), .val (.int (1 : Int32)), .unset, .unset] [(.ref (A 11))])) _
      refine XS.astore X153.here hx rfl (hb hby at_87) rfl rfl (l' := #[.val (.int p1), .val (.int (4 : Int32)), .val (.ref (A 4)), .val (.int (1 : Int32)), .val (.ref (A 11)), .unset]) rfl ?_
      show Steps p.tables e below (T153.setTop (mkF m 89 #[.val (.int p1), .val (.int (4 : Int32)), .val (.ref (A 4)), .val (.int (1 : Int32)), .val (.ref (A 11)), .unset] [])) _
      refine XS.aload X153.here hx rfl (hb hby at_89) rfl rfl ?_
      exact k)
    obtain ⟨sa155, T155, h155, kk155, sb155, kc155, X155, e155, E155, hS155, hk155, hZ, hown, Es155, Cs155, Vs155, As155, la155, lb155, I155, st155⟩ := ldcSV (s := s) X153 hx hZ hown (hw _ (List.mem_of_getElem? (i := 11) rfl)) (own_strAtoms a0 Z hw) e153 hS0 hk0 (by rw [hh, ← en0]; exact N153) hkeep I0 (by decide) hc33 hcw (vs := [(.int (60 : Int32)), (.int (62 : Int32))]) (z := (2 : Int32)) ⟨by decide, by decide⟩ (by decide) (by decide) (g := (mkF m 91 #[.val (.int p1), .val (.int (4 : Int32)), .val (.ref (A 4)), .val (.int (1 : Int32)), .val (.ref (A 11)), .unset] [(.ref (A 11))])) rfl (hb hby at_91) (n := 8) (by decide) (by decide) (by decide) (by decide)
    have OL155 : Old Z n0 h155 := OL0.ext E155
    have KK155 : Keep h0 h155 [] := KK0.ext E155
    obtain ⟨cq166, kq166, q166a, q166b, q166c⟩ := isOf hZ e155 (EN.2.2.1.2.2.2.2.2.2.2.1.ext OL155.2)
    obtain ⟨_, _, ⟨T166, L166, k166, n166⟩, -, X166, ⟨Lc166, hQ166, l166, y166, z166⟩, st166⟩ := X155.virtualBack hx (y := own_m2) (z := own_m2) hown (mvT hZ (hw _ (List.mem_of_getElem? (i := 19) rfl))) (mvT hZ (hw _ (List.mem_of_getElem? (i := 20) rfl))) (notFace_of_selects (args := #[]) (mvT hZ (hw _ (List.mem_of_getElem? (i := 22) rfl)))) (mvT hZ (hw _ (List.mem_of_getElem? (i := 22) rfl))) (mvT hZ (hw _ (List.mem_of_getElem? (i := 21) rfl))) (by decide) (backOf (W := 0) (rm39 l Z a0 hw [] h155 n0 p1 A K cs sb155 sa155 kc155 EN OL155 Vs155 As155 Es155 Cs155) hZ (hw _ (List.mem_of_getElem? (i := 23) rfl)) (hw _ (List.mem_of_getElem? (i := 12) rfl)) (by decide) (by decide)) q166a q166c (g := (mkF m 93 #[.val (.int p1), .val (.int (4 : Int32)), .val (.ref (A 4)), .val (.int (1 : Int32)), .val (.ref (A 11)), .unset] [(.ref sa155), (.ref (A 11))])) rfl (by rw [hml]; rfl) (Steps.refl _) (argsL := [(.ref sa155)]) (rest := []) (lenOf own_pd2 rfl) rfl (by show 2 * 0 + _ ≤ _; exact Nat.le_of_eq rfl) (hb hby at_93) (fun _ _ => ⟨rfl, e155, (by decide : 2 + 0 ≤ _), (by decide : 12 + 0 ≤ _)⟩)
    dsimp only [Pt.U, Pt.locs, Pt.cells, Pt.slots] at X166 l166 y166 z166 st166 hQ166
    subst l166 y166 z166
    obtain ⟨rfl, N166q, e166⟩ := hQ166
    have N166 := Fr.app N153 N166q
    obtain ⟨cq172, kq172, q172a, q172b, q172c⟩ := isOf hZ e166 (EN.2.2.1.2.2.2.2.2.2.2.1.ext OL155.2)
    obtain ⟨_, _, ⟨T172, L172, k172, n172⟩, -, X172, ⟨Lc172, hQ172, l172, y172, z172⟩, st172⟩ := X166.virtualBack hx (y := own_m5) (z := own_m5) hown (mvT hZ (hw _ (List.mem_of_getElem? (i := 33) rfl))) (mvT hZ (hw _ (List.mem_of_getElem? (i := 34) rfl))) (notFace_of_selects (args := #[]) (mvT hZ (hw _ (List.mem_of_getElem? (i := 36) rfl)))) (mvT hZ (hw _ (List.mem_of_getElem? (i := 36) rfl))) (mvT hZ (hw _ (List.mem_of_getElem? (i := 35) rfl))) (by decide) (backOf (W := 0) (rm41 l Z a0 hw [] h155 n0 p1 A K cs EN OL155) hZ (hw _ (List.mem_of_getElem? (i := 37) rfl)) (hw _ (List.mem_of_getElem? (i := 12) rfl)) (by decide) (by decide)) q172a q172c (g := (mkF m 101 #[.val (.int p1), .val (.int (4 : Int32)), .val (.ref (A 4)), .val (.int (1 : Int32)), .val (.ref (A 11)), .unset] [(.ref (A 11))])) rfl (by rw [hml]; rfl) (Steps.refl _) (argsL := []) (rest := []) (lenOf own_pd4 rfl) rfl (by show 2 * 0 + _ ≤ _; exact Nat.le_of_eq rfl) (hb hby at_101) (fun _ _ => ⟨rfl, e166, (by decide : 2 + 0 ≤ _), (by decide : 12 + 0 ≤ _)⟩)
    dsimp only [Pt.U, Pt.locs, Pt.cells, Pt.slots] at X172 l172 y172 z172 st172 hQ172
    subst l172 y172 z172
    obtain ⟨rfl, N172q, e172⟩ := hQ172
    have N172 := Fr.app N166 N172q
    obtain ⟨cq181, kq181, q181a, q181b, q181c⟩ := isOf hZ e172 (EN.2.2.1.2.2.2.2.2.2.2.1.ext OL155.2)
    obtain ⟨_, _, ⟨T181, L181, k181, n181⟩, -, X181, ⟨Lc181, hQ181, l181, y181, z181⟩, st181⟩ := X172.virtualBack hx (y := own_m0) (z := own_m0) hown (mvT hZ (hw _ (List.mem_of_getElem? (i := 43) rfl))) (mvT hZ (hw _ (List.mem_of_getElem? (i := 44) rfl))) (notFace_of_selects (args := #[]) (mvT hZ (hw _ (List.mem_of_getElem? (i := 46) rfl)))) (mvT hZ (hw _ (List.mem_of_getElem? (i := 46) rfl))) (mvT hZ (hw _ (List.mem_of_getElem? (i := 45) rfl))) (by decide) (backOf (W := 0) (rm43 l Z a0 hw [] h155 n0 p1 A K cs EN OL155) hZ (hw _ (List.mem_of_getElem? (i := 47) rfl)) (hw _ (List.mem_of_getElem? (i := 12) rfl)) (by decide) (by decide)) q181a q181c (g := (mkF m 110 #[.val (.int p1), .val (.int (4 : Int32)), .val (.ref (A 4)), .val (.int (1 : Int32)), .val (.ref (A 11)), .unset] [(.int (0 : Int32)), (.ref (A 11))])) rfl (by rw [hml]; rfl) (Steps.refl _) (argsL := [(.int (0 : Int32))]) (rest := []) (lenOf own_pd9 rfl) rfl (by show 2 * 0 + _ ≤ _; exact Nat.le_of_eq rfl) (hb hby at_110) (fun _ _ => ⟨rfl, e172, (by decide : 2 + 0 ≤ _), (by decide : 12 + 0 ≤ _)⟩)
    dsimp only [Pt.U, Pt.locs, Pt.cells, Pt.slots] at X181 l181 y181 z181 st181 hQ181
    subst l181 y181 z181
    obtain ⟨rfl, N181q, e181⟩ := hQ181
    have N181 := Fr.app N172 N181q
    obtain ⟨cq182, kq182, q182a, q182b, q182c⟩ := isOf hZ e181 (EN.2.2.1.2.2.2.2.2.2.2.1.ext OL155.2)
    obtain ⟨_, _, ⟨T182, L182, k182, n182⟩, -, X182, ⟨Lc182, hQ182, l182, y182, z182⟩, st182⟩ := X181.virtualBack hx (y := own_m0) (z := own_m0) hown (mvT hZ (hw _ (List.mem_of_getElem? (i := 43) rfl))) (mvT hZ (hw _ (List.mem_of_getElem? (i := 44) rfl))) (notFace_of_selects (args := #[]) (mvT hZ (hw _ (List.mem_of_getElem? (i := 46) rfl)))) (mvT hZ (hw _ (List.mem_of_getElem? (i := 46) rfl))) (mvT hZ (hw _ (List.mem_of_getElem? (i := 45) rfl))) (by decide) (backOf (W := 0) (rm43 l Z a0 hw [] h155 n0 p1 A K cs EN OL155) hZ (hw _ (List.mem_of_getElem? (i := 47) rfl)) (hw _ (List.mem_of_getElem? (i := 12) rfl)) (by decide) (by decide)) q182a q182c (g := (mkF m 121 #[.val (.int p1), .val (.int (4 : Int32)), .val (.ref (A 4)), .val (.int (1 : Int32)), .val (.ref (A 11)), .unset] [(.int (0 : Int32)), (.ref (A 11))])) rfl (by rw [hml]; rfl) (Steps.refl _) (argsL := [(.int (0 : Int32))]) (rest := []) (lenOf own_pd9 rfl) rfl (by show 2 * 0 + _ ≤ _; exact Nat.le_of_eq rfl) (hb hby at_121) (fun _ _ => ⟨rfl, e181, (by decide : 2 + 0 ≤ _), (by decide : 12 + 0 ≤ _)⟩)
    dsimp only [Pt.U, Pt.locs, Pt.cells, Pt.slots] at X182 l182 y182 z182 st182 hQ182
    subst l182 y182 z182
    obtain ⟨rfl, N182q, e182⟩ := hQ182
    have N182 := Fr.app N181 N182q
    obtain ⟨cq185, kq185, q185a, q185b, q185c⟩ := isOf hZ e182 (EN.2.1.2.1.ext OL155.2)
    obtain ⟨_, _, ⟨T185, L185, k185, n185⟩, -, X185, ⟨Lc185, hQ185, l185, y185, z185⟩, st185⟩ := X182.virtualBack hx (y := own_m3) (z := own_m3) hown (mvT hZ (hw _ (List.mem_of_getElem? (i := 64) rfl))) (mvT hZ (hw _ (List.mem_of_getElem? (i := 65) rfl))) (notFace_of_selects (args := #[]) (mvT hZ (hw _ (List.mem_of_getElem? (i := 67) rfl)))) (mvT hZ (hw _ (List.mem_of_getElem? (i := 67) rfl))) (mvT hZ (hw _ (List.mem_of_getElem? (i := 66) rfl))) (by decide) (backOf (W := 0) (rm46 l Z a0 hw [] h155 n0 p1 A K cs EN OL155) hZ (hw _ (List.mem_of_getElem? (i := 68) rfl)) (hw _ (List.mem_of_getElem? (i := 2) rfl)) (by decide) (by decide)) q185a q185c (g := (mkF m 137 #[.val (.int p1), .val (.int (4 : Int32)), .val (.ref (A 4)), .val (.int (1 : Int32)), .val (.ref (A 11)), .val (.int (1 : Int32))] [(.ref (A 4))])) rfl (by rw [hml]; rfl) (Steps.refl _) (argsL := []) (rest := []) (lenOf own_pd5 rfl) rfl (by show 2 * 0 + _ ≤ _; exact Nat.le_of_eq rfl) (hb hby at_137) (fun _ _ => ⟨rfl, e182, (by decide : 2 + 0 ≤ _), (by decide : 12 + 0 ≤ _)⟩)
    dsimp only [Pt.U, Pt.locs, Pt.cells, Pt.slots] at X185 l185 y185 z185 st185 hQ185
    subst l185 y185 z185
    obtain ⟨rfl, N185q, e185⟩ := hQ185
    have N185 := Fr.app N182 N185q
    obtain ⟨fs, hr, hrun, hended, hEW⟩ := X185.leaveW (s := s) hS155 (by rw [e185]; exact hk155) (v := some (.int (1 : Int32))) (fun h => by rw [Bd.returns] at h; cases h)
    refine ⟨_, _, pre154 _ ?_, hrun, hended, _, _, rfl, ?_, hEW.1, hEW.2.1, hEW.2.2.1, hEW.2.2.2.mono (by decide) (by decide)⟩
    · show Steps p.tables e below (T153.setTop (mkF m 91 #[.val (.int p1), .val (.int (4 : Int32)), .val (.ref (A 4)), .val (.int (1 : Int32)), .val (.ref (A 11)), .unset] [(.ref (A 11))])) _
      refine st155 _ ?_
      show Steps p.tables e below (T155.setTop (mkF m 93 #[.val (.int p1), .val (.int (4 : Int32)), .val (.ref (A 4)), .val (.int (1 : Int32)), .val (.ref (A 11)), .unset] [(.ref sa155), (.ref (A 11))])) _
      refine st166.trans ?_
      show Steps p.tables e below (T166.setTop (mkF m 96 #[.val (.int p1), .val (.int (4 : Int32)), .val (.ref (A 4)), .val (.int (1 : Int32)), .val (.ref (A 11)), .unset] [(.int (0 : Int32))])) _
      refine XS.ifNo X166.here hx rfl (hb hby at_96) rfl ((if0 _ _).trans (teq (by decide : (0 : Int32) = (0 : Int32))).2) ?_
      show Steps p.tables e below (T166.setTop (mkF m 99 #[.val (.int p1), .val (.int (4 : Int32)), .val (.ref (A 4)), .val (.int (1 : Int32)), .val (.ref (A 11)), .unset] [])) _
      refine XS.aload X166.here hx rfl (hb hby at_99) rfl rfl ?_
      show Steps p.tables e below (T166.setTop (mkF m 101 #[.val (.int p1), .val (.int (4 : Int32)), .val (.ref (A 4)), .val (.int (1 : Int32)), .val (.ref (A 11)), .unset] [(.ref (A 11))])) _
      refine st172.trans ?_
      show Steps p.tables e below (T172.setTop (mkF m 104 #[.val (.int p1), .val (.int (4 : Int32)), .val (.ref (A 4)), .val (.int (1 : Int32)), .val (.ref (A 11)), .unset] [(.int (1 : Int32))])) _
      refine XS.ifNo X172.here hx rfl (hb hby at_104) rfl ((if0 _ _).trans (tlt (by decide : (0 : Int32) < (1 : Int32))).2.2.2) ?_
      show Steps p.tables e below (T172.setTop (mkF m 107 #[.val (.int p1), .val (.int (4 : Int32)), .val (.ref (A 4)), .val (.int (1 : Int32)), .val (.ref (A 11)), .unset] [])) _
      refine XS.aload X172.here hx rfl (hb hby at_107) rfl rfl ?_
      show Steps p.tables e below (T172.setTop (mkF m 109 #[.val (.int p1), .val (.int (4 : Int32)), .val (.ref (A 4)), .val (.int (1 : Int32)), .val (.ref (A 11)), .unset] [(.ref (A 11))])) _
      refine XS.iconst X172.here hx rfl (hb hby at_109) ?_
      show Steps p.tables e below (T172.setTop (mkF m 110 #[.val (.int p1), .val (.int (4 : Int32)), .val (.ref (A 4)), .val (.int (1 : Int32)), .val (.ref (A 11)), .unset] [(.int (0 : Int32)), (.ref (A 11))])) _
      refine st181.trans ?_
      show Steps p.tables e below (T181.setTop (mkF m 113 #[.val (.int p1), .val (.int (4 : Int32)), .val (.ref (A 4)), .val (.int (1 : Int32)), .val (.ref (A 11)), .unset] [(.int (62 : Int32))])) _
      refine XS.bipush X181.here hx rfl (hb hby at_113) ?_
      show Steps p.tables e below (T181.setTop (mkF m 115 #[.val (.int p1), .val (.int (4 : Int32)), .val (.ref (A 4)), .val (.int (1 : Int32)), .val (.ref (A 11)), .unset] [(.int (60 : Int32)), (.int (62 : Int32))])) _
      refine XS.icmpNo X181.here hx rfl (hb hby at_115) rfl (feq (by decide : ¬ ((62 : Int32) = (60 : Int32)))).1 ?_
      show Steps p.tables e below (T181.setTop (mkF m 118 #[.val (.int p1), .val (.int (4 : Int32)), .val (.ref (A 4)), .val (.int (1 : Int32)), .val (.ref (A 11)), .unset] [])) _
      refine XS.aload X181.here hx rfl (hb hby at_118) rfl rfl ?_
      show Steps p.tables e below (T181.setTop (mkF m 120 #[.val (.int p1), .val (.int (4 : Int32)), .val (.ref (A 4)), .val (.int (1 : Int32)), .val (.ref (A 11)), .unset] [(.ref (A 11))])) _
      refine XS.iconst X181.here hx rfl (hb hby at_120) ?_
      show Steps p.tables e below (T181.setTop (mkF m 121 #[.val (.int p1), .val (.int (4 : Int32)), .val (.ref (A 4)), .val (.int (1 : Int32)), .val (.ref (A 11)), .unset] [(.int (0 : Int32)), (.ref (A 11))])) _
      refine st182.trans ?_
      show Steps p.tables e below (T182.setTop (mkF m 124 #[.val (.int p1), .val (.int (4 : Int32)), .val (.ref (A 4)), .val (.int (1 : Int32)), .val (.ref (A 11)), .unset] [(.int (62 : Int32))])) _
      refine XS.bipush X182.here hx rfl (hb hby at_124) ?_
      show Steps p.tables e below (T182.setTop (mkF m 126 #[.val (.int p1), .val (.int (4 : Int32)), .val (.ref (A 4)), .val (.int (1 : Int32)), .val (.ref (A 11)), .unset] [(.int (62 : Int32)), (.int (62 : Int32))])) _
      refine XS.icmpNo X182.here hx rfl (hb hby at_126) rfl (teq (by decide : (62 : Int32) = (62 : Int32))).2 ?_
      show Steps p.tables e below (T182.setTop (mkF m 129 #[.val (.int p1), .val (.int (4 : Int32)), .val (.ref (A 4)), .val (.int (1 : Int32)), .val (.ref (A 11)), .unset] [])) _
      refine XS.iconst X182.here hx rfl (hb hby at_129) ?_
      show Steps p.tables e below (T182.setTop (mkF m 130 #[.val (.int p1), .val (.int (4 : Int32)), .val (.ref (A 4)), .val (.int (1 : Int32)), .val (.ref (A 11)), .unset] [(.int (1 : Int32))])) _
      refine XS.goto X182.here hx rfl (pc0 := 130) (pc' := 134) rfl (hb hby at_130) (by decide) (by decide) ?_
      show Steps p.tables e below (T182.setTop (mkF m 134 #[.val (.int p1), .val (.int (4 : Int32)), .val (.ref (A 4)), .val (.int (1 : Int32)), .val (.ref (A 11)), .unset] [(.int (1 : Int32))])) _
      refine XS.istore X182.here hx rfl (hb hby at_134) rfl (l' := #[.val (.int p1), .val (.int (4 : Int32)), .val (.ref (A 4)), .val (.int (1 : Int32)), .val (.ref (A 11)), .val (.int (1 : Int32))]) rfl ?_
      show Steps p.tables e below (T182.setTop (mkF m 136 #[.val (.int p1), .val (.int (4 : Int32)), .val (.ref (A 4)), .val (.int (1 : Int32)), .val (.ref (A 11)), .val (.int (1 : Int32))] [])) _
      refine XS.aloadN X182.here hx rfl (hb hby at_136) rfl rfl ?_
      show Steps p.tables e below (T182.setTop (mkF m 137 #[.val (.int p1), .val (.int (4 : Int32)), .val (.ref (A 4)), .val (.int (1 : Int32)), .val (.ref (A 11)), .val (.int (1 : Int32))] [(.ref (A 4))])) _
      refine st185.trans ?_
      show Steps p.tables e below (T185.setTop (mkF m 140 #[.val (.int p1), .val (.int (4 : Int32)), .val (.ref (A 4)), .val (.int (1 : Int32)), .val (.ref (A 11)), .val (.int (1 : Int32))] [(.int (1 : Int32))])) _
      refine XS.iloadN X185.here hx rfl (hb hby at_140) rfl ?_
      show Steps p.tables e below (T185.setTop (mkF m 141 #[.val (.int p1), .val (.int (4 : Int32)), .val (.ref (A 4)), .val (.int (1 : Int32)), .val (.ref (A 11)), .val (.int (1 : Int32))] [(.int (1 : Int32)), (.int (1 : Int32))])) _
      refine XS.icmpNo X185.here hx rfl (hb hby at_141) rfl (teq (by decide : (1 : Int32) = (1 : Int32))).2 ?_
      show Steps p.tables e below (T185.setTop (mkF m 144 #[.val (.int p1), .val (.int (4 : Int32)), .val (.ref (A 4)), .val (.int (1 : Int32)), .val (.ref (A 11)), .val (.int (1 : Int32))] [])) _
      refine XS.iloadN X185.here hx rfl (hb hby at_144) rfl ?_
      show Steps p.tables e below (T185.setTop (mkF m 145 #[.val (.int p1), .val (.int (4 : Int32)), .val (.ref (A 4)), .val (.int (1 : Int32)), .val (.ref (A 11)), .val (.int (1 : Int32))] [(.int (1 : Int32))])) _
      refine XS.iload X185.here hx rfl (hb hby at_145) rfl ?_
      show Steps p.tables e below (T185.setTop (mkF m 147 #[.val (.int p1), .val (.int (4 : Int32)), .val (.ref (A 4)), .val (.int (1 : Int32)), .val (.ref (A 11)), .val (.int (1 : Int32))] [(.int (1 : Int32)), (.int (1 : Int32))])) _
      refine XS.icmpNo X185.here hx rfl (hb hby at_147) rfl (teq (by decide : (1 : Int32) = (1 : Int32))).2 ?_
      show Steps p.tables e below (T185.setTop (mkF m 150 #[.val (.int p1), .val (.int (4 : Int32)), .val (.ref (A 4)), .val (.int (1 : Int32)), .val (.ref (A 11)), .val (.int (1 : Int32))] [])) _
      refine XS.iconst X185.here hx rfl (hb hby at_150) ?_
      show Steps p.tables e below (T185.setTop (mkF m 151 #[.val (.int p1), .val (.int (4 : Int32)), .val (.ref (A 4)), .val (.int (1 : Int32)), .val (.ref (A 11)), .val (.int (1 : Int32))] [(.int (1 : Int32))])) _
      refine XS.goto X185.here hx rfl (pc0 := 151) (pc' := 155) rfl (hb hby at_151) (by decide) (by decide) ?_
      show Steps p.tables e below (T185.setTop (mkF m 155 #[.val (.int p1), .val (.int (4 : Int32)), .val (.ref (A 4)), .val (.int (1 : Int32)), .val (.ref (A 11)), .val (.int (1 : Int32))] [(.int (1 : Int32))])) _
      exact retN X185 hx (t := .boolean) Bd.returns (by simp) (hb hby at_155) hr
    · show LQ n0 _ T185.heap _
      exact ⟨rfl, N185, trivial⟩
  | 5, _, hk2 =>
    obtain ⟨T186, X186, e186, st186⟩ := getS2 X0 hx hZ hown (host := "") (Or.inl (hw _ (List.mem_of_getElem? (i := 77) rfl))) Via.refl e0 (EN.2.1.2.2.1.ext OL0.2) (g := (mkF m 77 #[.val (.int p1), .val (.int (5 : Int32)), .unset, .unset, .unset, .unset] [])) rfl (hb hby at_77)
    obtain ⟨cq188, kq188, q188a, q188b, q188c⟩ := isOf hZ e186 (EN.2.1.2.2.2.1.ext OL0.2)
    obtain ⟨_, _, ⟨T188, L188, k188, n188⟩, -, X188, ⟨Lc188, hQ188, l188, y188, z188⟩, st188⟩ := X186.virtualBack hx (y := own_m1) (z := own_m1) hown (mvT hZ (hw _ (List.mem_of_getElem? (i := 4) rfl))) (mvT hZ (hw _ (List.mem_of_getElem? (i := 5) rfl))) (notFace_of_selects (args := #[]) (mvT hZ (hw _ (List.mem_of_getElem? (i := 7) rfl)))) (mvT hZ (hw _ (List.mem_of_getElem? (i := 7) rfl))) (mvT hZ (hw _ (List.mem_of_getElem? (i := 6) rfl))) (by decide) (backOf (W := 0) (rm47 l Z a0 hw [] h0 n0 p1 A K cs EN OL0) hZ (hw _ (List.mem_of_getElem? (i := 8) rfl)) (hw _ (List.mem_of_getElem? (i := 2) rfl)) (by decide) (by decide)) q188a q188c (g := (mkF m 84 #[.val (.int p1), .val (.int (5 : Int32)), .val (.ref (A 5)), .val (.int (1 : Int32)), .unset, .unset] [(.ref (A 5))])) rfl (by rw [hml]; rfl) (Steps.refl _) (argsL := []) (rest := []) (lenOf own_pd0 rfl) rfl (by show 2 * 0 + _ ≤ _; exact Nat.le_of_eq rfl) (hb hby at_84) (fun _ _ => ⟨rfl, e186, (by decide : 0 + 0 ≤ _), (by decide : 0 + 0 ≤ _)⟩)
    dsimp only [Pt.U, Pt.locs, Pt.cells, Pt.slots] at X188 l188 y188 z188 st188 hQ188
    subst l188 y188 z188
    obtain ⟨rfl, N188q, e188⟩ := hQ188
    have N188 := Fr.app N0 N188q
    have pre189 : ∀ t, Steps p.tables e below (T188.setTop (mkF m 91 #[.val (.int p1), .val (.int (5 : Int32)), .val (.ref (A 5)), .val (.int (1 : Int32)), .val (.ref (A 10)), .unset] [(.ref (A 10))])) t → Steps p.tables e below (s₁.setTop (entryFrame m #[(.int p1)] maxLocals)) t := fun t k => pre1 t (by
      show Steps p.tables e below (s₁.setTop (mkF m 7 #[.val (.int p1), .unset, .unset, .unset, .unset, .unset] [(.int ((p1 &&& (2147483647 : Int32)) % (6 : Int32)))])) _
      rw [hk2]
      show Steps p.tables e below (s₁.setTop (mkF m 7 #[.val (.int p1), .unset, .unset, .unset, .unset, .unset] [(.int (5 : Int32))])) _
      refine XS.istoreN X0.here hx rfl (hb hby at_7) rfl (l' := #[.val (.int p1), .val (.int (5 : Int32)), .unset, .unset, .unset, .unset]) rfl ?_
      show Steps p.tables e below (s₁.setTop (mkF m 8 #[.val (.int p1), .val (.int (5 : Int32)), .unset, .unset, .unset, .unset] [])) _
      refine XS.iloadN X0.here hx rfl (hb hby at_8) rfl ?_
      show Steps p.tables e below (s₁.setTop (mkF m 9 #[.val (.int p1), .val (.int (5 : Int32)), .unset, .unset, .unset, .unset] [(.int (5 : Int32))])) _
      refine XS.ifYes X0.here hx rfl (pc0 := 9) (pc' := 21) rfl (hb hby at_9) rfl ((if0 _ _).trans (feq (by decide : ¬ ((5 : Int32) = (0 : Int32)))).2) (by decide) (by decide) ?_
      show Steps p.tables e below (s₁.setTop (mkF m 21 #[.val (.int p1), .val (.int (5 : Int32)), .unset, .unset, .unset, .unset] [])) _
      refine XS.iloadN X0.here hx rfl (hb hby at_21) rfl ?_
      show Steps p.tables e below (s₁.setTop (mkF m 22 #[.val (.int p1), .val (.int (5 : Int32)), .unset, .unset, .unset, .unset] [(.int (5 : Int32))])) _
      refine XS.iconst X0.here hx rfl (hb hby at_22) ?_
      show Steps p.tables e below (s₁.setTop (mkF m 23 #[.val (.int p1), .val (.int (5 : Int32)), .unset, .unset, .unset, .unset] [(.int (1 : Int32)), (.int (5 : Int32))])) _
      refine XS.icmpYes X0.here hx rfl (pc0 := 23) (pc' := 35) rfl (hb hby at_23) rfl (feq (by decide : ¬ ((5 : Int32) = (1 : Int32)))).2 (by decide) (by decide) ?_
      show Steps p.tables e below (s₁.setTop (mkF m 35 #[.val (.int p1), .val (.int (5 : Int32)), .unset, .unset, .unset, .unset] [])) _
      refine XS.iloadN X0.here hx rfl (hb hby at_35) rfl ?_
      show Steps p.tables e below (s₁.setTop (mkF m 36 #[.val (.int p1), .val (.int (5 : Int32)), .unset, .unset, .unset, .unset] [(.int (5 : Int32))])) _
      refine XS.iconst X0.here hx rfl (hb hby at_36) ?_
      show Steps p.tables e below (s₁.setTop (mkF m 37 #[.val (.int p1), .val (.int (5 : Int32)), .unset, .unset, .unset, .unset] [(.int (2 : Int32)), (.int (5 : Int32))])) _
      refine XS.icmpYes X0.here hx rfl (pc0 := 37) (pc' := 49) rfl (hb hby at_37) rfl (feq (by decide : ¬ ((5 : Int32) = (2 : Int32)))).2 (by decide) (by decide) ?_
      show Steps p.tables e below (s₁.setTop (mkF m 49 #[.val (.int p1), .val (.int (5 : Int32)), .unset, .unset, .unset, .unset] [])) _
      refine XS.iloadN X0.here hx rfl (hb hby at_49) rfl ?_
      show Steps p.tables e below (s₁.setTop (mkF m 50 #[.val (.int p1), .val (.int (5 : Int32)), .unset, .unset, .unset, .unset] [(.int (5 : Int32))])) _
      refine XS.iconst X0.here hx rfl (hb hby at_50) ?_
      show Steps p.tables e below (s₁.setTop (mkF m 51 #[.val (.int p1), .val (.int (5 : Int32)), .unset, .unset, .unset, .unset] [(.int (3 : Int32)), (.int (5 : Int32))])) _
      refine XS.icmpYes X0.here hx rfl (pc0 := 51) (pc' := 63) rfl (hb hby at_51) rfl (feq (by decide : ¬ ((5 : Int32) = (3 : Int32)))).2 (by decide) (by decide) ?_
      show Steps p.tables e below (s₁.setTop (mkF m 63 #[.val (.int p1), .val (.int (5 : Int32)), .unset, .unset, .unset, .unset] [])) _
      refine XS.iloadN X0.here hx rfl (hb hby at_63) rfl ?_
      show Steps p.tables e below (s₁.setTop (mkF m 64 #[.val (.int p1), .val (.int (5 : Int32)), .unset, .unset, .unset, .unset] [(.int (5 : Int32))])) _
      refine XS.iconst X0.here hx rfl (hb hby at_64) ?_
      show Steps p.tables e below (s₁.setTop (mkF m 65 #[.val (.int p1), .val (.int (5 : Int32)), .unset, .unset, .unset, .unset] [(.int (4 : Int32)), (.int (5 : Int32))])) _
      refine XS.icmpYes X0.here hx rfl (pc0 := 65) (pc' := 77) rfl (hb hby at_65) rfl (feq (by decide : ¬ ((5 : Int32) = (4 : Int32)))).2 (by decide) (by decide) ?_
      show Steps p.tables e below (s₁.setTop (mkF m 77 #[.val (.int p1), .val (.int (5 : Int32)), .unset, .unset, .unset, .unset] [])) _
      refine st186 _ ?_
      show Steps p.tables e below (T186.setTop (mkF m 80 #[.val (.int p1), .val (.int (5 : Int32)), .unset, .unset, .unset, .unset] [(.ref (A 5))])) _
      refine XS.astoreN X186.here hx rfl (hb hby at_80) rfl rfl (l' := #[.val (.int p1), .val (.int (5 : Int32)), .val (.ref (A 5)), .unset, .unset, .unset]) rfl ?_
      show Steps p.tables e below (T186.setTop (mkF m 81 #[.val (.int p1), .val (.int (5 : Int32)), .val (.ref (A 5)), .unset, .unset, .unset] [])) _
      refine XS.iconst X186.here hx rfl (hb hby at_81) ?_
      show Steps p.tables e below (T186.setTop (mkF m 82 #[.val (.int p1), .val (.int (5 : Int32)), .val (.ref (A 5)), .unset, .unset, .unset] [(.int (1 : Int32))])) _
      refine XS.istoreN X186.here hx rfl (hb hby at_82) rfl (l' := #[.val (.int p1), .val (.int (5 : Int32)), .val (.ref (A 5)), .val (.int (1 : Int32)), .unset, .unset]) rfl ?_
      show Steps p.tables e below (T186.setTop (mkF m 83 #[.val (.int p1), .val (.int (5 : Int32)), .val (.ref (A 5)), .val (.int (1 : Int32)), .unset, .unset] [])) _
      refine XS.aloadN X186.here hx rfl (hb hby at_83) rfl rfl ?_
      show Steps p.tables e below (T186.setTop (mkF m 84 #[.val (.int p1), .val (.int (5 : Int32)), .val (.ref (A 5)), .val (.int (1 : Int32)), .unset, .unset] [(.ref (A 5))])) _
      refine st188.trans ?_
      show Steps p.tables e below (T188.setTop (mkF m 87 #[.val (.int p1), .val (.int (5 : Int32)), .val (.ref (A 5)), .val (.int (1 : Int32)), .unset, .unset] [(.ref (A 10))])) _
      refine XS.astore X188.here hx rfl (hb hby at_87) rfl rfl (l' := #[.val (.int p1), .val (.int (5 : Int32)), .val (.ref (A 5)), .val (.int (1 : Int32)), .val (.ref (A 10)), .unset]) rfl ?_
      show Steps p.tables e below (T188.setTop (mkF m 89 #[.val (.int p1), .val (.int (5 : Int32)), .val (.ref (A 5)), .val (.int (1 : Int32)), .val (.ref (A 10)), .unset] [])) _
      refine XS.aload X188.here hx rfl (hb hby at_89) rfl rfl ?_
      exact k)
    obtain ⟨sa190, T190, h190, kk190, sb190, kc190, X190, e190, E190, hS190, hk190, hZ, hown, Es190, Cs190, Vs190, As190, la190, lb190, I190, st190⟩ := ldcSV (s := s) X188 hx hZ hown (hw _ (List.mem_of_getElem? (i := 11) rfl)) (own_strAtoms a0 Z hw) e188 hS0 hk0 (by rw [hh, ← en0]; exact N188) hkeep I0 (by decide) hc33 hcw (vs := [(.int (60 : Int32)), (.int (62 : Int32))]) (z := (2 : Int32)) ⟨by decide, by decide⟩ (by decide) (by decide) (g := (mkF m 91 #[.val (.int p1), .val (.int (5 : Int32)), .val (.ref (A 5)), .val (.int (1 : Int32)), .val (.ref (A 10)), .unset] [(.ref (A 10))])) rfl (hb hby at_91) (n := 8) (by decide) (by decide) (by decide) (by decide)
    have OL190 : Old Z n0 h190 := OL0.ext E190
    have KK190 : Keep h0 h190 [] := KK0.ext E190
    obtain ⟨cq204, kq204, q204a, q204b, q204c⟩ := isOf hZ e190 (EN.2.2.1.2.2.2.2.2.1.ext OL190.2)
    obtain ⟨_, _, ⟨T204, L204, k204, n204⟩, -, X204, ⟨Lc204, hQ204, l204, y204, z204⟩, st204⟩ := X190.virtualBack hx (y := own_m2) (z := own_m2) hown (mvT hZ (hw _ (List.mem_of_getElem? (i := 19) rfl))) (mvT hZ (hw _ (List.mem_of_getElem? (i := 20) rfl))) (notFace_of_selects (args := #[]) (mvT hZ (hw _ (List.mem_of_getElem? (i := 22) rfl)))) (mvT hZ (hw _ (List.mem_of_getElem? (i := 22) rfl))) (mvT hZ (hw _ (List.mem_of_getElem? (i := 21) rfl))) (by decide) (backOf (W := 0) (rm48 l Z a0 hw [] h190 n0 p1 A K cs sb190 sa190 kc190 EN OL190 Vs190 As190 Es190 Cs190) hZ (hw _ (List.mem_of_getElem? (i := 23) rfl)) (hw _ (List.mem_of_getElem? (i := 12) rfl)) (by decide) (by decide)) q204a q204c (g := (mkF m 93 #[.val (.int p1), .val (.int (5 : Int32)), .val (.ref (A 5)), .val (.int (1 : Int32)), .val (.ref (A 10)), .unset] [(.ref sa190), (.ref (A 10))])) rfl (by rw [hml]; rfl) (Steps.refl _) (argsL := [(.ref sa190)]) (rest := []) (lenOf own_pd2 rfl) rfl (by show 2 * 0 + _ ≤ _; exact Nat.le_of_eq rfl) (hb hby at_93) (fun _ _ => ⟨rfl, e190, (by decide : 2 + 0 ≤ _), (by decide : 12 + 0 ≤ _)⟩)
    dsimp only [Pt.U, Pt.locs, Pt.cells, Pt.slots] at X204 l204 y204 z204 st204 hQ204
    subst l204 y204 z204
    obtain ⟨rfl, N204q, e204⟩ := hQ204
    have N204 := Fr.app N188 N204q
    obtain ⟨cq210, kq210, q210a, q210b, q210c⟩ := isOf hZ e204 (EN.2.2.1.2.2.2.2.2.1.ext OL190.2)
    obtain ⟨_, _, ⟨T210, L210, k210, n210⟩, -, X210, ⟨Lc210, hQ210, l210, y210, z210⟩, st210⟩ := X204.virtualBack hx (y := own_m5) (z := own_m5) hown (mvT hZ (hw _ (List.mem_of_getElem? (i := 33) rfl))) (mvT hZ (hw _ (List.mem_of_getElem? (i := 34) rfl))) (notFace_of_selects (args := #[]) (mvT hZ (hw _ (List.mem_of_getElem? (i := 36) rfl)))) (mvT hZ (hw _ (List.mem_of_getElem? (i := 36) rfl))) (mvT hZ (hw _ (List.mem_of_getElem? (i := 35) rfl))) (by decide) (backOf (W := 0) (rm50 l Z a0 hw [] h190 n0 p1 A K cs EN OL190) hZ (hw _ (List.mem_of_getElem? (i := 37) rfl)) (hw _ (List.mem_of_getElem? (i := 12) rfl)) (by decide) (by decide)) q210a q210c (g := (mkF m 101 #[.val (.int p1), .val (.int (5 : Int32)), .val (.ref (A 5)), .val (.int (1 : Int32)), .val (.ref (A 10)), .unset] [(.ref (A 10))])) rfl (by rw [hml]; rfl) (Steps.refl _) (argsL := []) (rest := []) (lenOf own_pd4 rfl) rfl (by show 2 * 0 + _ ≤ _; exact Nat.le_of_eq rfl) (hb hby at_101) (fun _ _ => ⟨rfl, e204, (by decide : 2 + 0 ≤ _), (by decide : 12 + 0 ≤ _)⟩)
    dsimp only [Pt.U, Pt.locs, Pt.cells, Pt.slots] at X210 l210 y210 z210 st210 hQ210
    subst l210 y210 z210
    obtain ⟨rfl, N210q, e210⟩ := hQ210
    have N210 := Fr.app N204 N210q
    obtain ⟨cq219, kq219, q219a, q219b, q219c⟩ := isOf hZ e210 (EN.2.2.1.2.2.2.2.2.1.ext OL190.2)
    obtain ⟨_, _, ⟨T219, L219, k219, n219⟩, -, X219, ⟨Lc219, hQ219, l219, y219, z219⟩, st219⟩ := X210.virtualBack hx (y := own_m0) (z := own_m0) hown (mvT hZ (hw _ (List.mem_of_getElem? (i := 43) rfl))) (mvT hZ (hw _ (List.mem_of_getElem? (i := 44) rfl))) (notFace_of_selects (args := #[]) (mvT hZ (hw _ (List.mem_of_getElem? (i := 46) rfl)))) (mvT hZ (hw _ (List.mem_of_getElem? (i := 46) rfl))) (mvT hZ (hw _ (List.mem_of_getElem? (i := 45) rfl))) (by decide) (backOf (W := 0) (rm52 l Z a0 hw [] h190 n0 p1 A K cs EN OL190) hZ (hw _ (List.mem_of_getElem? (i := 47) rfl)) (hw _ (List.mem_of_getElem? (i := 12) rfl)) (by decide) (by decide)) q219a q219c (g := (mkF m 110 #[.val (.int p1), .val (.int (5 : Int32)), .val (.ref (A 5)), .val (.int (1 : Int32)), .val (.ref (A 10)), .unset] [(.int (0 : Int32)), (.ref (A 10))])) rfl (by rw [hml]; rfl) (Steps.refl _) (argsL := [(.int (0 : Int32))]) (rest := []) (lenOf own_pd9 rfl) rfl (by show 2 * 0 + _ ≤ _; exact Nat.le_of_eq rfl) (hb hby at_110) (fun _ _ => ⟨rfl, e210, (by decide : 2 + 0 ≤ _), (by decide : 12 + 0 ≤ _)⟩)
    dsimp only [Pt.U, Pt.locs, Pt.cells, Pt.slots] at X219 l219 y219 z219 st219 hQ219
    subst l219 y219 z219
    obtain ⟨rfl, N219q, e219⟩ := hQ219
    have N219 := Fr.app N210 N219q
    obtain ⟨cq220, kq220, q220a, q220b, q220c⟩ := isOf hZ e219 (EN.2.2.1.2.2.2.2.2.1.ext OL190.2)
    obtain ⟨_, _, ⟨T220, L220, k220, n220⟩, -, X220, ⟨Lc220, hQ220, l220, y220, z220⟩, st220⟩ := X219.virtualBack hx (y := own_m0) (z := own_m0) hown (mvT hZ (hw _ (List.mem_of_getElem? (i := 43) rfl))) (mvT hZ (hw _ (List.mem_of_getElem? (i := 44) rfl))) (notFace_of_selects (args := #[]) (mvT hZ (hw _ (List.mem_of_getElem? (i := 46) rfl)))) (mvT hZ (hw _ (List.mem_of_getElem? (i := 46) rfl))) (mvT hZ (hw _ (List.mem_of_getElem? (i := 45) rfl))) (by decide) (backOf (W := 0) (rm52 l Z a0 hw [] h190 n0 p1 A K cs EN OL190) hZ (hw _ (List.mem_of_getElem? (i := 47) rfl)) (hw _ (List.mem_of_getElem? (i := 12) rfl)) (by decide) (by decide)) q220a q220c (g := (mkF m 121 #[.val (.int p1), .val (.int (5 : Int32)), .val (.ref (A 5)), .val (.int (1 : Int32)), .val (.ref (A 10)), .unset] [(.int (0 : Int32)), (.ref (A 10))])) rfl (by rw [hml]; rfl) (Steps.refl _) (argsL := [(.int (0 : Int32))]) (rest := []) (lenOf own_pd9 rfl) rfl (by show 2 * 0 + _ ≤ _; exact Nat.le_of_eq rfl) (hb hby at_121) (fun _ _ => ⟨rfl, e219, (by decide : 2 + 0 ≤ _), (by decide : 12 + 0 ≤ _)⟩)
    dsimp only [Pt.U, Pt.locs, Pt.cells, Pt.slots] at X220 l220 y220 z220 st220 hQ220
    subst l220 y220 z220
    obtain ⟨rfl, N220q, e220⟩ := hQ220
    have N220 := Fr.app N219 N220q
    obtain ⟨cq223, kq223, q223a, q223b, q223c⟩ := isOf hZ e220 (EN.2.1.2.2.2.1.ext OL190.2)
    obtain ⟨_, _, ⟨T223, L223, k223, n223⟩, -, X223, ⟨Lc223, hQ223, l223, y223, z223⟩, st223⟩ := X220.virtualBack hx (y := own_m3) (z := own_m3) hown (mvT hZ (hw _ (List.mem_of_getElem? (i := 64) rfl))) (mvT hZ (hw _ (List.mem_of_getElem? (i := 65) rfl))) (notFace_of_selects (args := #[]) (mvT hZ (hw _ (List.mem_of_getElem? (i := 67) rfl)))) (mvT hZ (hw _ (List.mem_of_getElem? (i := 67) rfl))) (mvT hZ (hw _ (List.mem_of_getElem? (i := 66) rfl))) (by decide) (backOf (W := 0) (rm55 l Z a0 hw [] h190 n0 p1 A K cs EN OL190) hZ (hw _ (List.mem_of_getElem? (i := 68) rfl)) (hw _ (List.mem_of_getElem? (i := 2) rfl)) (by decide) (by decide)) q223a q223c (g := (mkF m 137 #[.val (.int p1), .val (.int (5 : Int32)), .val (.ref (A 5)), .val (.int (1 : Int32)), .val (.ref (A 10)), .val (.int (1 : Int32))] [(.ref (A 5))])) rfl (by rw [hml]; rfl) (Steps.refl _) (argsL := []) (rest := []) (lenOf own_pd5 rfl) rfl (by show 2 * 0 + _ ≤ _; exact Nat.le_of_eq rfl) (hb hby at_137) (fun _ _ => ⟨rfl, e220, (by decide : 2 + 0 ≤ _), (by decide : 12 + 0 ≤ _)⟩)
    dsimp only [Pt.U, Pt.locs, Pt.cells, Pt.slots] at X223 l223 y223 z223 st223 hQ223
    subst l223 y223 z223
    obtain ⟨rfl, N223q, e223⟩ := hQ223
    have N223 := Fr.app N220 N223q
    obtain ⟨fs, hr, hrun, hended, hEW⟩ := X223.leaveW (s := s) hS190 (by rw [e223]; exact hk190) (v := some (.int (1 : Int32))) (fun h => by rw [Bd.returns] at h; cases h)
    refine ⟨_, _, pre189 _ ?_, hrun, hended, _, _, rfl, ?_, hEW.1, hEW.2.1, hEW.2.2.1, hEW.2.2.2.mono (by decide) (by decide)⟩
    · show Steps p.tables e below (T188.setTop (mkF m 91 #[.val (.int p1), .val (.int (5 : Int32)), .val (.ref (A 5)), .val (.int (1 : Int32)), .val (.ref (A 10)), .unset] [(.ref (A 10))])) _
      refine st190 _ ?_
      show Steps p.tables e below (T190.setTop (mkF m 93 #[.val (.int p1), .val (.int (5 : Int32)), .val (.ref (A 5)), .val (.int (1 : Int32)), .val (.ref (A 10)), .unset] [(.ref sa190), (.ref (A 10))])) _
      refine st204.trans ?_
      show Steps p.tables e below (T204.setTop (mkF m 96 #[.val (.int p1), .val (.int (5 : Int32)), .val (.ref (A 5)), .val (.int (1 : Int32)), .val (.ref (A 10)), .unset] [(.int (0 : Int32))])) _
      refine XS.ifNo X204.here hx rfl (hb hby at_96) rfl ((if0 _ _).trans (teq (by decide : (0 : Int32) = (0 : Int32))).2) ?_
      show Steps p.tables e below (T204.setTop (mkF m 99 #[.val (.int p1), .val (.int (5 : Int32)), .val (.ref (A 5)), .val (.int (1 : Int32)), .val (.ref (A 10)), .unset] [])) _
      refine XS.aload X204.here hx rfl (hb hby at_99) rfl rfl ?_
      show Steps p.tables e below (T204.setTop (mkF m 101 #[.val (.int p1), .val (.int (5 : Int32)), .val (.ref (A 5)), .val (.int (1 : Int32)), .val (.ref (A 10)), .unset] [(.ref (A 10))])) _
      refine st210.trans ?_
      show Steps p.tables e below (T210.setTop (mkF m 104 #[.val (.int p1), .val (.int (5 : Int32)), .val (.ref (A 5)), .val (.int (1 : Int32)), .val (.ref (A 10)), .unset] [(.int (2 : Int32))])) _
      refine XS.ifNo X210.here hx rfl (hb hby at_104) rfl ((if0 _ _).trans (tlt (by decide : (0 : Int32) < (2 : Int32))).2.2.2) ?_
      show Steps p.tables e below (T210.setTop (mkF m 107 #[.val (.int p1), .val (.int (5 : Int32)), .val (.ref (A 5)), .val (.int (1 : Int32)), .val (.ref (A 10)), .unset] [])) _
      refine XS.aload X210.here hx rfl (hb hby at_107) rfl rfl ?_
      show Steps p.tables e below (T210.setTop (mkF m 109 #[.val (.int p1), .val (.int (5 : Int32)), .val (.ref (A 5)), .val (.int (1 : Int32)), .val (.ref (A 10)), .unset] [(.ref (A 10))])) _
      refine XS.iconst X210.here hx rfl (hb hby at_109) ?_
      show Steps p.tables e below (T210.setTop (mkF m 110 #[.val (.int p1), .val (.int (5 : Int32)), .val (.ref (A 5)), .val (.int (1 : Int32)), .val (.ref (A 10)), .unset] [(.int (0 : Int32)), (.ref (A 10))])) _
      refine st219.trans ?_
      show Steps p.tables e below (T219.setTop (mkF m 113 #[.val (.int p1), .val (.int (5 : Int32)), .val (.ref (A 5)), .val (.int (1 : Int32)), .val (.ref (A 10)), .unset] [(.int (62 : Int32))])) _
      refine XS.bipush X219.here hx rfl (hb hby at_113) ?_
      show Steps p.tables e below (T219.setTop (mkF m 115 #[.val (.int p1), .val (.int (5 : Int32)), .val (.ref (A 5)), .val (.int (1 : Int32)), .val (.ref (A 10)), .unset] [(.int (60 : Int32)), (.int (62 : Int32))])) _
      refine XS.icmpNo X219.here hx rfl (hb hby at_115) rfl (feq (by decide : ¬ ((62 : Int32) = (60 : Int32)))).1 ?_
      show Steps p.tables e below (T219.setTop (mkF m 118 #[.val (.int p1), .val (.int (5 : Int32)), .val (.ref (A 5)), .val (.int (1 : Int32)), .val (.ref (A 10)), .unset] [])) _
      refine XS.aload X219.here hx rfl (hb hby at_118) rfl rfl ?_
      show Steps p.tables e below (T219.setTop (mkF m 120 #[.val (.int p1), .val (.int (5 : Int32)), .val (.ref (A 5)), .val (.int (1 : Int32)), .val (.ref (A 10)), .unset] [(.ref (A 10))])) _
      refine XS.iconst X219.here hx rfl (hb hby at_120) ?_
      show Steps p.tables e below (T219.setTop (mkF m 121 #[.val (.int p1), .val (.int (5 : Int32)), .val (.ref (A 5)), .val (.int (1 : Int32)), .val (.ref (A 10)), .unset] [(.int (0 : Int32)), (.ref (A 10))])) _
      refine st220.trans ?_
      show Steps p.tables e below (T220.setTop (mkF m 124 #[.val (.int p1), .val (.int (5 : Int32)), .val (.ref (A 5)), .val (.int (1 : Int32)), .val (.ref (A 10)), .unset] [(.int (62 : Int32))])) _
      refine XS.bipush X220.here hx rfl (hb hby at_124) ?_
      show Steps p.tables e below (T220.setTop (mkF m 126 #[.val (.int p1), .val (.int (5 : Int32)), .val (.ref (A 5)), .val (.int (1 : Int32)), .val (.ref (A 10)), .unset] [(.int (62 : Int32)), (.int (62 : Int32))])) _
      refine XS.icmpNo X220.here hx rfl (hb hby at_126) rfl (teq (by decide : (62 : Int32) = (62 : Int32))).2 ?_
      show Steps p.tables e below (T220.setTop (mkF m 129 #[.val (.int p1), .val (.int (5 : Int32)), .val (.ref (A 5)), .val (.int (1 : Int32)), .val (.ref (A 10)), .unset] [])) _
      refine XS.iconst X220.here hx rfl (hb hby at_129) ?_
      show Steps p.tables e below (T220.setTop (mkF m 130 #[.val (.int p1), .val (.int (5 : Int32)), .val (.ref (A 5)), .val (.int (1 : Int32)), .val (.ref (A 10)), .unset] [(.int (1 : Int32))])) _
      refine XS.goto X220.here hx rfl (pc0 := 130) (pc' := 134) rfl (hb hby at_130) (by decide) (by decide) ?_
      show Steps p.tables e below (T220.setTop (mkF m 134 #[.val (.int p1), .val (.int (5 : Int32)), .val (.ref (A 5)), .val (.int (1 : Int32)), .val (.ref (A 10)), .unset] [(.int (1 : Int32))])) _
      refine XS.istore X220.here hx rfl (hb hby at_134) rfl (l' := #[.val (.int p1), .val (.int (5 : Int32)), .val (.ref (A 5)), .val (.int (1 : Int32)), .val (.ref (A 10)), .val (.int (1 : Int32))]) rfl ?_
      show Steps p.tables e below (T220.setTop (mkF m 136 #[.val (.int p1), .val (.int (5 : Int32)), .val (.ref (A 5)), .val (.int (1 : Int32)), .val (.ref (A 10)), .val (.int (1 : Int32))] [])) _
      refine XS.aloadN X220.here hx rfl (hb hby at_136) rfl rfl ?_
      show Steps p.tables e below (T220.setTop (mkF m 137 #[.val (.int p1), .val (.int (5 : Int32)), .val (.ref (A 5)), .val (.int (1 : Int32)), .val (.ref (A 10)), .val (.int (1 : Int32))] [(.ref (A 5))])) _
      refine st223.trans ?_
      show Steps p.tables e below (T223.setTop (mkF m 140 #[.val (.int p1), .val (.int (5 : Int32)), .val (.ref (A 5)), .val (.int (1 : Int32)), .val (.ref (A 10)), .val (.int (1 : Int32))] [(.int (1 : Int32))])) _
      refine XS.iloadN X223.here hx rfl (hb hby at_140) rfl ?_
      show Steps p.tables e below (T223.setTop (mkF m 141 #[.val (.int p1), .val (.int (5 : Int32)), .val (.ref (A 5)), .val (.int (1 : Int32)), .val (.ref (A 10)), .val (.int (1 : Int32))] [(.int (1 : Int32)), (.int (1 : Int32))])) _
      refine XS.icmpNo X223.here hx rfl (hb hby at_141) rfl (teq (by decide : (1 : Int32) = (1 : Int32))).2 ?_
      show Steps p.tables e below (T223.setTop (mkF m 144 #[.val (.int p1), .val (.int (5 : Int32)), .val (.ref (A 5)), .val (.int (1 : Int32)), .val (.ref (A 10)), .val (.int (1 : Int32))] [])) _
      refine XS.iloadN X223.here hx rfl (hb hby at_144) rfl ?_
      show Steps p.tables e below (T223.setTop (mkF m 145 #[.val (.int p1), .val (.int (5 : Int32)), .val (.ref (A 5)), .val (.int (1 : Int32)), .val (.ref (A 10)), .val (.int (1 : Int32))] [(.int (1 : Int32))])) _
      refine XS.iload X223.here hx rfl (hb hby at_145) rfl ?_
      show Steps p.tables e below (T223.setTop (mkF m 147 #[.val (.int p1), .val (.int (5 : Int32)), .val (.ref (A 5)), .val (.int (1 : Int32)), .val (.ref (A 10)), .val (.int (1 : Int32))] [(.int (1 : Int32)), (.int (1 : Int32))])) _
      refine XS.icmpNo X223.here hx rfl (hb hby at_147) rfl (teq (by decide : (1 : Int32) = (1 : Int32))).2 ?_
      show Steps p.tables e below (T223.setTop (mkF m 150 #[.val (.int p1), .val (.int (5 : Int32)), .val (.ref (A 5)), .val (.int (1 : Int32)), .val (.ref (A 10)), .val (.int (1 : Int32))] [])) _
      refine XS.iconst X223.here hx rfl (hb hby at_150) ?_
      show Steps p.tables e below (T223.setTop (mkF m 151 #[.val (.int p1), .val (.int (5 : Int32)), .val (.ref (A 5)), .val (.int (1 : Int32)), .val (.ref (A 10)), .val (.int (1 : Int32))] [(.int (1 : Int32))])) _
      refine XS.goto X223.here hx rfl (pc0 := 151) (pc' := 155) rfl (hb hby at_151) (by decide) (by decide) ?_
      show Steps p.tables e below (T223.setTop (mkF m 155 #[.val (.int p1), .val (.int (5 : Int32)), .val (.ref (A 5)), .val (.int (1 : Int32)), .val (.ref (A 10)), .val (.int (1 : Int32))] [(.int (1 : Int32))])) _
      exact retN X223 hx (t := .boolean) Bd.returns (by simp) (hb hby at_155) hr
    · show LQ n0 _ T223.heap _
      exact ⟨rfl, N223, trivial⟩
  | kk + 6, h, _ => exact absurd h (by omega)
set_option maxRecDepth 65536 in
set_option maxHeartbeats 40000000 in
theorem comes_1 {Post : Tables → Env → Array Value → State → Outcome → State → Prop} (hpost : ∀ tb e args s v u, (limb_1_1.after args s (.returned v) u = true ∧ limb_1_2.after args s (.returned v) u = true ∧ True) → ReturnedEndW s (.returned v) u (Jvm.fieldLocs frame_1_writes args s ++ Jvm.arrayLocs frame_1_arrays args s ++ Jvm.staticLocs frame_1_statics s) 8 1088 → Post tb e args s (.returned v) u) :
    ArmFor flags0 classFile x code maxLocals ret World_1 tables_1 room_1 Calls_1 rest_1 Pre_1 Post := by
  intro l hfl _ _ p e ha hc hk s m args below hf hA hF happ hP
  obtain ⟨hcalls, hrest, hpre⟩ := hP
  obtain ⟨-, -, -, hnamed, -, -, -, hat⟩ := (Spec.applies_iff hf).mp happ
  obtain ⟨hg, hn⟩ := and_e (Cond.before_iff.mp (show (Jvm.Cond.and given_1 narrow_1).before args s = true from hpre))
  obtain ⟨gA0, gB0⟩ := and_e hg
  obtain ⟨w0, rfl⟩ : ∃ w0 : Value, args = #[w0] := by
    have hs : args.size = 1 := by simpa [Cond.value, given_1] using gA0
    obtain ⟨L⟩ := args
    match L, hs with
    | [w0], _ => exact ⟨w0, rfl⟩
  have hw := fun d (hd : d ∈ tables_1) => atoms_spec (ws := Jvm.Cond.code x code maxLocals ret :: tables_1) hat d (List.mem_cons_of_mem _ hd)
  have hfit : Fit s := fun {y c} hc i hi => by
    obtain ⟨ha, rfl⟩ := Array.getElem?_eq_some_iff.mp hc
    have q := List.all_eq_true.mp ((Array.all_eq_true_iff_forall_mem.mp hF) _ (Array.getElem_mem ha)) i (List.mem_range.mpr hi)
    simpa [Array.getElem?_eq_getElem hi] using q
  obtain ⟨hsets, hown0⟩ := atoms_of _ (rest_1_c_eq ▸ (show rest_1_c.before _ s = true from hrest))
  have hr0 := Cond.before_iff.mp hown0
  obtain ⟨i0, ei0⟩ := is_v gB0
  obtain rfl : w0 = (.int i0) := Option.some.inj ei0
  obtain ⟨hx0, hr0⟩ := and_e hn
  obtain ⟨hx1, hr1⟩ := and_e hr0
  obtain ⟨hx2, hr2⟩ := and_e hr1
  obtain ⟨hx3, hr3⟩ := and_e hr2
  obtain ⟨hx4, hr4⟩ := and_e hr3
  obtain ⟨hx5, hr5⟩ := and_e hr4
  obtain ⟨hx6, hr6⟩ := and_e hr5
  obtain ⟨hx7, hr7⟩ := and_e hr6
  obtain ⟨hx8, hr8⟩ := and_e hr7
  obtain ⟨hx9, hr9⟩ := and_e hr8
  obtain ⟨hx10, hr10⟩ := and_e hr9
  obtain ⟨hx11, hr11⟩ := and_e hr10
  obtain ⟨hx12, hr12⟩ := and_e hr11
  obtain ⟨hx13, hr13⟩ := and_e hr12
  obtain ⟨hx14, hr14⟩ := and_e hr13
  obtain ⟨hx15, hr15⟩ := and_e hr14
  obtain ⟨hx16, hr16⟩ := and_e hr15
  obtain ⟨hx17, hr17⟩ := and_e hr16
  obtain ⟨hx18, hr18⟩ := and_e hr17
  obtain ⟨hx19, hr19⟩ := and_e hr18
  obtain ⟨hx20, hr20⟩ := and_e hr19
  obtain ⟨hx21, hr21⟩ := and_e hr20
  obtain ⟨hx22, hr22⟩ := and_e hr21
  obtain ⟨hx23, hr23⟩ := and_e hr22
  obtain ⟨hx24, hr24⟩ := and_e hr23
  obtain ⟨hx25, hr25⟩ := and_e hr24
  obtain ⟨hx26, hr26⟩ := and_e hr25
  obtain ⟨hx27, hr27⟩ := and_e hr26
  obtain ⟨hx28, hr28⟩ := and_e hr27
  obtain ⟨hx29, hr29⟩ := and_e hr28
  obtain ⟨hx30, hr30⟩ := and_e hr29
  obtain ⟨hx31, hr31⟩ := and_e hr30
  obtain ⟨hx32, hr32⟩ := and_e hr31
  obtain ⟨hx33, hr33⟩ := and_e hr32
  obtain ⟨hx34, hr34⟩ := and_e hr33
  obtain ⟨hx35, hr35⟩ := and_e hr34
  obtain ⟨hx36, hr36⟩ := and_e hr35
  obtain ⟨hx37, hr37⟩ := and_e hr36
  obtain ⟨hx38, hr38⟩ := and_e hr37
  obtain ⟨hx39, hr39⟩ := and_e hr38
  obtain ⟨hx40, hr40⟩ := and_e hr39
  obtain ⟨hx41, hr41⟩ := and_e hr40
  obtain ⟨hx42, hr42⟩ := and_e hr41
  obtain ⟨hx43, hr43⟩ := and_e hr42
  obtain ⟨aS0, eS0⟩ := exa_v hx0
  obtain ⟨aS1, eS1⟩ := exa_v hx15
  obtain ⟨aS2, eS2⟩ := exa_v hx17
  obtain ⟨aS3, eS3⟩ := exa_v hx6
  obtain ⟨aS4, eS4⟩ := exa_v hx37
  obtain ⟨aS5, eS5⟩ := exa_v hx30
  obtain ⟨aS6, eS6⟩ := exa_v hx1
  obtain ⟨aS7, eS7⟩ := exa_v hx7
  obtain ⟨aS8, eS8⟩ := exa_v hx18
  obtain ⟨aS9, eS9⟩ := exa_v hx24
  obtain ⟨aS10, eS10⟩ := exa_v hx31
  obtain ⟨aS11, eS11⟩ := exa_v hx38
  obtain ⟨aS12, eS12⟩ := arr_v hx3
  obtain ⟨aS13, eS13⟩ := arr_v hx9
  obtain ⟨aS14, eS14⟩ := arr_v hx20
  obtain ⟨aS15, eS15⟩ := arr_v hx26
  obtain ⟨aS16, eS16⟩ := arr_v hx33
  obtain ⟨aS17, eS17⟩ := arr_v hx40
  obtain ⟨cS12, ArS12, szS12, lnS12⟩ := own_len eS12 hx3 hx4 (by decide)
  obtain ⟨cS13, ArS13, szS13, lnS13⟩ := own_len eS13 hx9 hx10 (by decide)
  obtain ⟨cS14, ArS14, szS14, lnS14⟩ := own_len eS14 hx20 hx21 (by decide)
  obtain ⟨cS15, ArS15, szS15, lnS15⟩ := own_len eS15 hx26 hx27 (by decide)
  obtain ⟨cS16, ArS16, szS16, lnS16⟩ := own_len eS16 hx33 hx34 (by decide)
  obtain ⟨cS17, ArS17, szS17, lnS17⟩ := own_len eS17 hx40 hx41 (by decide)
  obtain ⟨cs, eCS⟩ := is_v (Cond.before_iff.mp (hsets _ (List.mem_of_getElem? (i := 1) rfl)))
  have hCS : ¬ (cs = (0 : Int32)) := own_csne eCS (Cond.before_iff.mp (hsets _ (List.mem_of_getElem? (i := 2) rfl)))
  have EN : own_St s (fun n => [aS0, aS1, aS2, aS3, aS4, aS5, aS6, aS7, aS8, aS9, aS10, aS11, aS12, aS13, aS14, aS15, aS16, aS17].getD n 0) (fun n => [cS12.cls, cS13.cls, cS14.cls, cS15.cls, cS16.cls, cS17.cls].getD n 0) cs := ⟨⟨Sta.start eS0 (Or.inr ⟨(hw _ (List.mem_of_getElem? (i := 2) rfl)), (hw _ (List.mem_of_getElem? (i := 3) rfl))⟩), Exa.start eS0 hx0, Sta.start eS1 (Or.inr ⟨(hw _ (List.mem_of_getElem? (i := 2) rfl)), (hw _ (List.mem_of_getElem? (i := 73) rfl))⟩), Exa.start eS1 hx15, Sta.start eS2 (Or.inr ⟨(hw _ (List.mem_of_getElem? (i := 2) rfl)), (hw _ (List.mem_of_getElem? (i := 75) rfl))⟩), Exa.start eS2 hx17, Sta.start eS3 (Or.inr ⟨(hw _ (List.mem_of_getElem? (i := 2) rfl)), (hw _ (List.mem_of_getElem? (i := 71) rfl))⟩), Exa.start eS3 hx6, trivial⟩, ⟨Sta.start eS4 (Or.inr ⟨(hw _ (List.mem_of_getElem? (i := 2) rfl)), (hw _ (List.mem_of_getElem? (i := 80) rfl))⟩), Exa.start eS4 hx37, Sta.start eS5 (Or.inr ⟨(hw _ (List.mem_of_getElem? (i := 2) rfl)), (hw _ (List.mem_of_getElem? (i := 78) rfl))⟩), Exa.start eS5 hx30, own_fld eS0 eS6, Exa.start eS6 hx1, own_fld eS3 eS7, Exa.start eS7 hx7, trivial⟩, ⟨own_fld eS2 eS8, Exa.start eS8 hx18, own_fld eS1 eS9, Exa.start eS9 hx24, own_fld eS5 eS10, Exa.start eS10 hx31, own_fld eS4 eS11, Exa.start eS11 hx38, trivial⟩, ⟨own_fld eS6 eS12, Arv.start hfit ArS12 szS12 lnS12 (by decide) (by decide) ⟨own_elem eS12 ArS12 (own_eqv (Term.int_eval _) hx5), trivial⟩, own_fld eS7 eS13, Arv.start hfit ArS13 szS13 lnS13 (by decide) (by decide) ⟨own_elem eS13 ArS13 (own_eqv (Term.int_eval _) hx11), own_elem eS13 ArS13 (own_eqv (Term.int_eval _) hx12), trivial⟩, own_fld eS8 eS14, Arv.start hfit ArS14 szS14 lnS14 (by decide) (by decide) ⟨own_elem eS14 ArS14 (own_eqv (Term.int_eval _) hx22), trivial⟩, own_fld eS9 eS15, Arv.start hfit ArS15 szS15 lnS15 (by decide) (by decide) ⟨own_elem eS15 ArS15 (own_eqv (Term.int_eval _) hx28), own_elem eS15 ArS15 (own_eqv (Term.int_eval _) hx29), trivial⟩, trivial⟩, ⟨own_fld eS10 eS16, Arv.start hfit ArS16 szS16 lnS16 (by decide) (by decide) ⟨own_elem eS16 ArS16 (own_eqv (Term.int_eval _) hx35), own_elem eS16 ArS16 (own_eqv (Term.int_eval _) hr43), trivial⟩, own_fld eS11 eS17, Arv.start hfit ArS17 szS17 lnS17 (by decide) (by decide) ⟨own_elem eS17 ArS17 (own_eqv (Term.int_eval _) hx42), trivial⟩, Sta.start eCS (Or.inl (hsets _ (List.mem_of_getElem? (i := 0) rfl))), hCS, own_orref (Cond.before_iff.mp (hsets _ (List.mem_of_getElem? (i := 8) rfl))) (Or.inl (hsets _ (List.mem_of_getElem? (i := 7) rfl))), own_fld eS6 (own_eqv (Term.int_eval _) hx2), trivial⟩, ⟨own_fld eS7 (own_eqv (Term.int_eval _) hx8), own_fld eS3 (own_eqv (Term.int_eval _) hx13), own_fld eS0 (own_eqv (Term.int_eval _) hx14), own_fld eS1 (own_eqv (Term.int_eval _) hx16), own_fld eS8 (own_eqv (Term.int_eval _) hx19), own_fld eS2 (own_eqv (Term.int_eval _) hx23), own_fld eS9 (own_eqv (Term.int_eval _) hx25), own_fld eS10 (own_eqv (Term.int_eval _) hx32), trivial⟩, ⟨own_fld eS5 (own_eqv (Term.int_eval _) hx36), own_fld eS11 (own_eqv (Term.int_eval _) hx39), own_fld eS4 (own_eqv (Term.int_eval _) hx43), trivial⟩, trivial⟩
  have hcw : Jvm.Lit.compactW.before _ s = true := hsets _ (List.mem_of_getElem? (i := 2) rfl)
  obtain ⟨n, o, h1, h2, h3, _, L, rfl, hQ, hq⟩ := rm0 l s _ hw tables_1 s.heap s.heap.size i0 (fun n => [aS0, aS1, aS2, aS3, aS4, aS5, aS6, aS7, aS8, aS9, aS10, aS11, aS12, aS13, aS14, aS15, aS16, aS17].getD n 0) (fun n => [cS12.cls, cS13.cls, cS14.cls, cS15.cls, cS16.cls, cS17.cls].getD n 0) cs EN hcw (hcalls.1 _ (List.mem_of_getElem? (i := 0) rfl)) rfl rfl p e ha hc hk s m _ below hf ((Spec.applies_iff_loose hf).mp happ).1 ⟨rfl, rfl, rfl⟩ trivial
  obtain ⟨rfl, N, -⟩ := hQ
  refine ⟨n, _, h1, h2, h3, hpost _ _ _ _ _ _ ⟨Cond.after_iff.mpr rfl, Cond.after_iff.mpr (eq_i res_at (Term.int_eval (1)) rfl), trivial⟩ ⟨hq.1, hq.2.1, hq.2.2.1, (hq.2.2.2.sift fun y hy => Or.inr (N y hy)).mono (by decide) (by decide)⟩⟩
theorem main_1_1 : Claimed_1_1 := comes_1 fun _ _ _ _ _ _ h hF => ⟨h.1, hF⟩
theorem main_1_2 : Claimed_1_2 := comes_1 fun _ _ _ _ _ _ h hF => ⟨h.2.1, hF⟩
end Jvm.Pilot.@@N@@
namespace Jvm.Pilot.@@N@@
open Jvm Jvm.ClassFile Sem Op Lib Jvm.Free Jvm.Stand Jvm.Pilot.@@N@@.Jvm.D
/-! MADE BY PROGRAM (witnessworld.py) out of the Statement's table words and the real class files: 18 classes; the members and pool entries that the words name. The judged class is class 1, her method 1. -/
namespace start1
open Jvm.ClassFile
def u (s : String) : CpInfo := .utf8 (stringToUtf16 s)
/-- a pool by its gaps: so many unusable entries, then the entry; so many at the end -/
def gap : Nat → List CpInfo → List CpInfo
  | 0, r => r
  | n + 1, r => .unusable :: gap n r
def poolList (es : List (Nat × CpInfo)) (last : Nat) : List CpInfo := es.foldr (fun e r => gap e.1 (e.2 :: r)) (gap last [])
def pool (es : List (Nat × CpInfo)) (last : Nat) : Array CpInfo := ⟨poolList es last⟩
def fileOf (pool : Array CpInfo) (this : Nat) (attrs : Array Attribute := #[]) (ms : Array MethodInfo := #[]) (fl : Nat := 33) (sup : Nat := 0) (ifs : Array Nat := #[]) (fds : Array FieldInfo := #[]) : ClassFile where
  minorVersion := 0
  majorVersion := 65
  constantPool := pool
  accessFlags := fl
  thisClass := this
  superClass := sup
  interfaces := ifs
  fields := fds
  methods := ms
  attributes := attrs
def plain (name : String) (sup : Option ClassId) : Class where
  name := name
  kind := .ordinary
  loader := none
  accessFlags := 33
  super := sup
  interfaces := #[]
  cf := none
  fields := #[]
  methods := #[]
  instanceTypes := #[]
  staticTypes := #[]
  resolved := #[]
  callSites := []
  init := .initialized
  statics := none
  mirror := none

def pool0 : Array CpInfo := pool [(5, u "<init>"), (0, u "()V"), (1, .class_ 10), (1, u "java/lang/Object")] 113

def k0m0 : Method := { name := "<init>", desc := "()V", sig := { parameters := [], returnType := none }, accessFlags := 1, code := none }
/-- java/lang/Object -/
def k0 : Class := { plain "java/lang/Object" none with
  accessFlags := 33
  interfaces := #[]
  cf := some (fileOf pool0 8 #[] #[{ accessFlags := 1, nameIndex := 5, descriptorIndex := 6, attributes := #[] }] 33 0 #[] #[])
  fields := #[]
  methods := #[k0m0]
  instanceTypes := #[]
  staticTypes := #[]
  resolved := Array.replicate 124 none
  statics := none }

def pool1 : Array CpInfo := pool [(2, .class_ 4), (1, u "java/lang/Object"), (0, u "<init>"), (0, u "()V"), (0, .integer 2147483647), (0, .fieldref 9 10), (0, .class_ 11), (0, .nameAndType 12 13), (0, u "com/example/cargoweft/cargoweft/core/FlexibleSearch$Operator"), (0, u "EQUAL"), (0, u "Lcom/example/cargoweft/cargoweft/core/FlexibleSearch$Operator;"), (0, .fieldref 9 15), (0, .nameAndType 16 13), (0, u "NOT_EQUAL"), (0, .fieldref 9 18), (0, .nameAndType 19 13), (0, u "LESS"), (0, .fieldref 9 21), (0, .nameAndType 22 13), (0, u "LESS_OR_EQUAL"), (0, .fieldref 9 24), (0, .nameAndType 25 13), (0, u "GREATER"), (0, .fieldref 9 27), (0, .nameAndType 28 13), (0, u "GREATER_OR_EQUAL"), (0, .methodref 9 30), (0, .nameAndType 31 32), (0, u "sql"), (0, u "()Ljava/lang/String;"), (0, .string 34), (0, u "<>"), (0, .methodref 36 37), (0, .class_ 38), (0, .nameAndType 39 40), (0, u "java/lang/String"), (0, u "equals"), (0, u "(Ljava/lang/Object;)Z"), (0, .methodref 36 42), (0, .nameAndType 43 44), (0, u "length"), (0, u "()I"), (0, .methodref 36 46), (0, .nameAndType 47 48), (0, u "charAt"), (0, u "(I)C"), (0, .methodref 9 50), (0, .nameAndType 51 52), (0, u "ordered"), (0, u "()Z"), (0, .class_ 54), (0, u "com/example/cargoweft/cargoweft/core/OperatorOrderedPinLaw"), (2, u "law"), (0, u "(I)Z")] 7

def k1m0 : Method := { name := "<init>", desc := "()V", sig := { parameters := [], returnType := none }, accessFlags := 1, code := none }
def k1c1 : Code := { maxStack := 2, maxLocals := 6, code := code, exceptionTable := #[], attributes := #[] }
def k1m1 : Method := { name := "law", desc := "(I)Z", sig := { parameters := [.int], returnType := some .boolean }, accessFlags := 9, code := some k1c1 }
/-- com/example/cargoweft/cargoweft/core/OperatorOrderedPinLaw -/
def k1 : Class := { plain "com/example/cargoweft/cargoweft/core/OperatorOrderedPinLaw" (some 0) with
  accessFlags := 49
  interfaces := #[]
  cf := some (fileOf pool1 53 #[] #[{ accessFlags := 1, nameIndex := 5, descriptorIndex := 6, attributes := #[] }, { accessFlags := 9, nameIndex := 57, descriptorIndex := 58, attributes := #[] }] 49 2 #[] #[])
  fields := #[]
  methods := #[k1m0, k1m1]
  instanceTypes := #[]
  staticTypes := #[]
  resolved := Array.replicate 66 none
  statics := none }

def pool2 : Array CpInfo := pool [(1, .class_ 2), (0, u "java/lang/constant/Constable"), (0, .class_ 4), (0, u "java/lang/Object")] 6

/-- java/lang/constant/Constable -/
def k2 : Class := { plain "java/lang/constant/Constable" (some 0) with
  accessFlags := 1537
  interfaces := #[]
  cf := some (fileOf pool2 1 #[] #[] 1537 3 #[] #[])
  fields := #[]
  methods := #[]
  instanceTypes := #[]
  staticTypes := #[]
  resolved := Array.replicate 11 none
  statics := none }

def pool3 : Array CpInfo := pool [(1, .class_ 2), (0, u "java/lang/Comparable"), (0, .class_ 4), (0, u "java/lang/Object")] 7

/-- java/lang/Comparable -/
def k3 : Class := { plain "java/lang/Comparable" (some 0) with
  accessFlags := 1537
  interfaces := #[]
  cf := some (fileOf pool3 1 #[] #[] 1537 3 #[] #[])
  fields := #[]
  methods := #[]
  instanceTypes := #[]
  staticTypes := #[]
  resolved := Array.replicate 12 none
  statics := none }

def pool4 : Array CpInfo := pool [(1, .class_ 2), (0, u "java/io/Serializable"), (0, .class_ 4), (0, u "java/lang/Object")] 2

/-- java/io/Serializable -/
def k4 : Class := { plain "java/io/Serializable" (some 0) with
  accessFlags := 1537
  interfaces := #[]
  cf := some (fileOf pool4 1 #[] #[] 1537 3 #[] #[])
  fields := #[]
  methods := #[]
  instanceTypes := #[]
  staticTypes := #[]
  resolved := Array.replicate 7 none
  statics := none }

def pool5 : Array CpInfo := pool [(2, .class_ 4), (1, u "java/lang/Enum"), (0, u "name"), (0, u "Ljava/lang/String;"), (2, u "ordinal"), (0, u "I"), (1, .class_ 14), (1, u "java/lang/Object"), (4, u "hash"), (86, .class_ 108), (1, u "java/lang/Enum$EnumDesc"), (2, .class_ 112), (0, u "java/lang/constant/Constable"), (0, .class_ 114), (0, u "java/lang/Comparable"), (0, .class_ 116), (0, u "java/io/Serializable")] 87

/-- java/lang/Enum -/
def k5 : Class := { plain "java/lang/Enum" (some 0) with
  accessFlags := 1057
  interfaces := #[2, 3, 4]
  cf := some (fileOf pool5 2 #[.nestMembers #[106]] #[] 1057 12 #[111, 113, 115] #[{ accessFlags := 18, nameIndex := 5, descriptorIndex := 6, attributes := #[] }, { accessFlags := 18, nameIndex := 9, descriptorIndex := 10, attributes := #[] }, { accessFlags := 2, nameIndex := 19, descriptorIndex := 10, attributes := #[] }])
  fields := #[{ name := "name", type := (.object "java/lang/String"), accessFlags := 18, slot := 0, constantValue := 0 }, { name := "ordinal", type := .int, accessFlags := 18, slot := 1, constantValue := 0 }, { name := "hash", type := .int, accessFlags := 2, slot := 2, constantValue := 0 }]
  methods := #[]
  instanceTypes := #[(.object "java/lang/String"), .int, .int]
  staticTypes := #[]
  resolved := Array.replicate 204 none
  statics := none }

def pool6 : Array CpInfo := pool [(1, .class_ 2), (0, u "com/example/cargoweft/cargoweft/core/FlexibleSearch$Operator"), (0, .fieldref 1 4), (0, .nameAndType 5 6), (0, u "EQUAL"), (0, u "Lcom/example/cargoweft/cargoweft/core/FlexibleSearch$Operator;"), (0, .fieldref 1 8), (0, .nameAndType 9 6), (0, u "NOT_EQUAL"), (2, u "LESS"), (2, u "LESS_OR_EQUAL"), (2, u "GREATER"), (2, u "GREATER_OR_EQUAL"), (2, u "$VALUES"), (0, u "[Lcom/example/cargoweft/cargoweft/core/FlexibleSearch$Operator;"), (6, .class_ 34), (1, u "java/lang/Enum"), (6, .fieldref 1 42), (0, .nameAndType 43 44), (0, u "sql"), (0, u "Ljava/lang/String;"), (42, u "()Ljava/lang/String;"), (0, u "ordered"), (0, u "()Z"), (8, .class_ 99), (0, u "com/example/cargoweft/cargoweft/core/FlexibleSearch")] 2

def k6c0 : Code := { maxStack := 1, maxLocals := 1, code := prog_57_method_4_code, exceptionTable := #[], attributes := #[] }
def k6m0 : Method := { name := "sql", desc := "()Ljava/lang/String;", sig := { parameters := [], returnType := some (.object "java/lang/String") }, accessFlags := 0, code := some k6c0 }
def k6c1 : Code := { maxStack := 2, maxLocals := 1, code := prog_57_method_5_code, exceptionTable := #[], attributes := #[] }
def k6m1 : Method := { name := "ordered", desc := "()Z", sig := { parameters := [], returnType := some .boolean }, accessFlags := 0, code := some k6c1 }
/-- com/example/cargoweft/cargoweft/core/FlexibleSearch$Operator -/
def k6 : Class := { plain "com/example/cargoweft/cargoweft/core/FlexibleSearch$Operator" (some 5) with
  accessFlags := 16432
  interfaces := #[]
  cf := some (fileOf pool6 1 #[.nestHost 98] #[{ accessFlags := 0, nameIndex := 43, descriptorIndex := 87, attributes := #[] }, { accessFlags := 0, nameIndex := 88, descriptorIndex := 89, attributes := #[] }] 16432 32 #[] #[{ accessFlags := 16409, nameIndex := 5, descriptorIndex := 6, attributes := #[] }, { accessFlags := 16409, nameIndex := 9, descriptorIndex := 6, attributes := #[] }, { accessFlags := 16409, nameIndex := 12, descriptorIndex := 6, attributes := #[] }, { accessFlags := 16409, nameIndex := 15, descriptorIndex := 6, attributes := #[] }, { accessFlags := 16409, nameIndex := 18, descriptorIndex := 6, attributes := #[] }, { accessFlags := 16409, nameIndex := 21, descriptorIndex := 6, attributes := #[] }, { accessFlags := 18, nameIndex := 43, descriptorIndex := 44, attributes := #[] }, { accessFlags := 4122, nameIndex := 24, descriptorIndex := 25, attributes := #[] }])
  fields := #[{ name := "EQUAL", type := (.object "com/example/cargoweft/cargoweft/core/FlexibleSearch$Operator"), accessFlags := 16409, slot := 0, constantValue := 0 }, { name := "NOT_EQUAL", type := (.object "com/example/cargoweft/cargoweft/core/FlexibleSearch$Operator"), accessFlags := 16409, slot := 1, constantValue := 0 }, { name := "LESS", type := (.object "com/example/cargoweft/cargoweft/core/FlexibleSearch$Operator"), accessFlags := 16409, slot := 2, constantValue := 0 }, { name := "LESS_OR_EQUAL", type := (.object "com/example/cargoweft/cargoweft/core/FlexibleSearch$Operator"), accessFlags := 16409, slot := 3, constantValue := 0 }, { name := "GREATER", type := (.object "com/example/cargoweft/cargoweft/core/FlexibleSearch$Operator"), accessFlags := 16409, slot := 4, constantValue := 0 }, { name := "GREATER_OR_EQUAL", type := (.object "com/example/cargoweft/cargoweft/core/FlexibleSearch$Operator"), accessFlags := 16409, slot := 5, constantValue := 0 }, { name := "sql", type := (.object "java/lang/String"), accessFlags := 18, slot := 3, constantValue := 0 }, { name := "$VALUES", type := (.array (.object "com/example/cargoweft/cargoweft/core/FlexibleSearch$Operator")), accessFlags := 4122, slot := 6, constantValue := 0 }]
  methods := #[k6m0, k6m1]
  instanceTypes := #[(.object "java/lang/String"), .int, .int, (.object "java/lang/String")]
  staticTypes := #[(.object "com/example/cargoweft/cargoweft/core/FlexibleSearch$Operator"), (.object "com/example/cargoweft/cargoweft/core/FlexibleSearch$Operator"), (.object "com/example/cargoweft/cargoweft/core/FlexibleSearch$Operator"), (.object "com/example/cargoweft/cargoweft/core/FlexibleSearch$Operator"), (.object "com/example/cargoweft/cargoweft/core/FlexibleSearch$Operator"), (.object "com/example/cargoweft/cargoweft/core/FlexibleSearch$Operator"), (.array (.object "com/example/cargoweft/cargoweft/core/FlexibleSearch$Operator"))]
  resolved := Array.replicate 102 none
  statics := some 0 }

def pool7 : Array CpInfo := pool [(2, .class_ 4), (1, u "java/lang/CharSequence"), (42, .class_ 48), (0, u "java/lang/CharSequence$1CodePointIterator"), (10, .class_ 60), (0, u "java/lang/CharSequence$1CharIterator"), (5, .class_ 67), (0, u "java/lang/Object")] 63

/-- java/lang/CharSequence -/
def k7 : Class := { plain "java/lang/CharSequence" (some 0) with
  accessFlags := 1537
  interfaces := #[]
  cf := some (fileOf pool7 2 #[.nestMembers #[47, 59]] #[] 1537 66 #[] #[])
  fields := #[]
  methods := #[]
  instanceTypes := #[]
  staticTypes := #[]
  resolved := Array.replicate 131 none
  statics := none }

def pool8 : Array CpInfo := pool [(1, .class_ 2), (0, u "java/lang/constant/ConstantDesc"), (0, .class_ 4), (0, u "java/lang/Object")] 32

/-- java/lang/constant/ConstantDesc -/
def k8 : Class := { plain "java/lang/constant/ConstantDesc" (some 0) with
  accessFlags := 1537
  interfaces := #[]
  cf := some (fileOf pool8 1 #[] #[] 1537 3 #[] #[])
  fields := #[]
  methods := #[]
  instanceTypes := #[]
  staticTypes := #[]
  resolved := Array.replicate 37 none
  statics := none }

def pool9 : Array CpInfo := pool [(2, .class_ 4), (1, u "java/lang/Object"), (0, u "<init>"), (0, u "()V"), (2, .fieldref 10 11), (0, .class_ 12), (0, .nameAndType 13 14), (0, u "java/lang/String"), (0, u "value"), (0, u "[B"), (0, .fieldref 10 16), (0, .nameAndType 17 18), (0, u "coder"), (0, u "B"), (2, u "hash"), (0, u "I"), (2, u "hashIsZero"), (0, u "Z"), (11, .fieldref 10 39), (0, .nameAndType 40 26), (0, u "COMPACT_STRINGS"), (66, .class_ 109), (1, u "java/lang/StringLatin1"), (32, u "()Z"), (191, u "()I"), (0, .methodref 10 336), (0, .nameAndType 17 337), (0, u "()B"), (25, u "([BI)C"), (27, u "(II)V"), (35, u "(I)C"), (64, .methodref 10 493), (0, .nameAndType 494 142), (0, u "isLatin1"), (0, .methodref 107 496), (0, .nameAndType 497 363), (0, u "charAt"), (3, u "checkIndex"), (5, u "length"), (33, .methodref 107 542), (0, .nameAndType 543 544), (0, u "equals"), (0, u "([B[B)Z"), (28, u "(Ljava/lang/Object;)Z"), (1, .class_ 576), (0, u "java/lang/CharSequence"), (22, u "CASE_INSENSITIVE_ORDER"), (0, u "Ljava/util/Comparator;"), (452, .fieldref 1054 1055), (0, .class_ 1056), (0, .nameAndType 1057 1058), (0, u "jdk/internal/util/Preconditions"), (0, u "SIOOBE_FORMATTER"), (0, u "Ljava/util/function/BiFunction;"), (0, .methodref 1054 1060), (0, .nameAndType 501 1061), (0, u "(IILjava/util/function/BiFunction;)I"), (39, u "serialPersistentFields"), (0, u "[Ljava/io/ObjectStreamField;"), (0, .class_ 1104), (0, u "java/lang/String$CaseInsensitiveComparator"), (1, .class_ 1107), (0, u "java/io/Serializable"), (0, .class_ 1109), (0, u "java/lang/Comparable"), (0, .class_ 1111), (0, u "java/lang/constant/Constable"), (0, .class_ 1113), (0, u "java/lang/constant/ConstantDesc"), (2, u "serialVersionUID"), (0, u "J"), (3, u "REPL"), (0, u "C"), (2, u "LATIN1"), (1, u "UTF16")] 323

def k9m0 : Method := { name := "<init>", desc := "()V", sig := { parameters := [], returnType := none }, accessFlags := 1, code := none }
def k9c1 : Code := { maxStack := 2, maxLocals := 1, code := jdk_42_method_54_code, exceptionTable := #[], attributes := #[] }
def k9m1 : Method := { name := "length", desc := "()I", sig := { parameters := [], returnType := some .int }, accessFlags := 1, code := some k9c1 }
def k9c2 : Code := { maxStack := 2, maxLocals := 2, code := jdk_42_method_56_code, exceptionTable := #[], attributes := #[] }
def k9m2 : Method := { name := "charAt", desc := "(I)C", sig := { parameters := [.int], returnType := some .char }, accessFlags := 1, code := some k9c2 }
def k9c3 : Code := { maxStack := 2, maxLocals := 3, code := jdk_42_method_66_code, exceptionTable := #[], attributes := #[] }
def k9m3 : Method := { name := "equals", desc := "(Ljava/lang/Object;)Z", sig := { parameters := [(.object "java/lang/Object")], returnType := some .boolean }, accessFlags := 1, code := some k9c3 }
def k9c4 : Code := { maxStack := 1, maxLocals := 1, code := jdk_42_method_152_code, exceptionTable := #[], attributes := #[] }
def k9m4 : Method := { name := "coder", desc := "()B", sig := { parameters := [], returnType := some .byte }, accessFlags := 0, code := some k9c4 }
def k9c5 : Code := { maxStack := 1, maxLocals := 1, code := jdk_42_method_154_code, exceptionTable := #[], attributes := #[] }
def k9m5 : Method := { name := "isLatin1", desc := "()Z", sig := { parameters := [], returnType := some .boolean }, accessFlags := 0, code := some k9c5 }
def k9c6 : Code := { maxStack := 3, maxLocals := 2, code := jdk_42_method_155_code, exceptionTable := #[], attributes := #[] }
def k9m6 : Method := { name := "checkIndex", desc := "(II)V", sig := { parameters := [.int, .int], returnType := none }, accessFlags := 8, code := some k9c6 }
/-- java/lang/String -/
def k9 : Class := { plain "java/lang/String" (some 0) with
  accessFlags := 49
  interfaces := #[4, 3, 7, 2, 8]
  cf := some (fileOf pool9 10 #[.nestMembers #[1103]] #[{ accessFlags := 1, nameIndex := 5, descriptorIndex := 6, attributes := #[] }, { accessFlags := 1, nameIndex := 507, descriptorIndex := 334, attributes := #[] }, { accessFlags := 1, nameIndex := 497, descriptorIndex := 427, attributes := #[] }, { accessFlags := 1, nameIndex := 543, descriptorIndex := 573, attributes := #[] }, { accessFlags := 0, nameIndex := 17, descriptorIndex := 337, attributes := #[] }, { accessFlags := 0, nameIndex := 494, descriptorIndex := 142, attributes := #[] }, { accessFlags := 8, nameIndex := 501, descriptorIndex := 391, attributes := #[] }] 49 2 #[1106, 1108, 575, 1110, 1112] #[{ accessFlags := 18, nameIndex := 13, descriptorIndex := 14, attributes := #[] }, { accessFlags := 18, nameIndex := 17, descriptorIndex := 18, attributes := #[] }, { accessFlags := 2, nameIndex := 21, descriptorIndex := 22, attributes := #[] }, { accessFlags := 2, nameIndex := 25, descriptorIndex := 26, attributes := #[] }, { accessFlags := 26, nameIndex := 1116, descriptorIndex := 1117, attributes := #[] }, { accessFlags := 24, nameIndex := 40, descriptorIndex := 26, attributes := #[] }, { accessFlags := 26, nameIndex := 1101, descriptorIndex := 1102, attributes := #[] }, { accessFlags := 26, nameIndex := 1121, descriptorIndex := 1122, attributes := #[] }, { accessFlags := 25, nameIndex := 599, descriptorIndex := 600, attributes := #[] }, { accessFlags := 24, nameIndex := 1125, descriptorIndex := 18, attributes := #[] }, { accessFlags := 24, nameIndex := 1127, descriptorIndex := 18, attributes := #[] }])
  fields := #[{ name := "value", type := (.array .byte), accessFlags := 18, slot := 0, constantValue := 0 }, { name := "coder", type := .byte, accessFlags := 18, slot := 1, constantValue := 0 }, { name := "hash", type := .int, accessFlags := 2, slot := 2, constantValue := 0 }, { name := "hashIsZero", type := .boolean, accessFlags := 2, slot := 3, constantValue := 0 }, { name := "serialVersionUID", type := .long, accessFlags := 26, slot := 0, constantValue := 0 }, { name := "COMPACT_STRINGS", type := .boolean, accessFlags := 24, slot := 1, constantValue := 0 }, { name := "serialPersistentFields", type := (.array (.object "java/io/ObjectStreamField")), accessFlags := 26, slot := 2, constantValue := 0 }, { name := "REPL", type := .char, accessFlags := 26, slot := 3, constantValue := 0 }, { name := "CASE_INSENSITIVE_ORDER", type := (.object "java/util/Comparator"), accessFlags := 25, slot := 4, constantValue := 0 }, { name := "LATIN1", type := .byte, accessFlags := 24, slot := 5, constantValue := 0 }, { name := "UTF16", type := .byte, accessFlags := 24, slot := 6, constantValue := 0 }]
  methods := #[k9m0, k9m1, k9m2, k9m3, k9m4, k9m5, k9m6]
  instanceTypes := #[(.array .byte), .byte, .int, .boolean]
  staticTypes := #[.long, .boolean, (.array (.object "java/io/ObjectStreamField")), .char, (.object "java/util/Comparator"), .byte, .byte]
  resolved := Array.replicate 1451 none
  statics := some 1 }

def pool10 : Array CpInfo := pool [(1, .class_ 2), (0, u "java/lang/String"), (1, .class_ 6), (1, u "java/lang/Object"), (0, u "<init>"), (0, u "()V"), (0, .methodref 1 10), (0, .nameAndType 11 12), (0, u "checkIndex"), (0, u "(II)V"), (1, .class_ 16), (1, u "java/lang/StringLatin1"), (36, u "([BI)C"), (67, u "$assertionsDisabled"), (0, u "Z"), (98, .class_ 223), (1, u "java/lang/StringLatin1$LinesSpliterator"), (28, u "charAt"), (28, u "equals"), (0, u "([B[B)Z"), (107, .class_ 391), (0, u "java/lang/StringLatin1$CharsSpliterator")] 3

def k10m0 : Method := { name := "<init>", desc := "()V", sig := { parameters := [], returnType := none }, accessFlags := 0, code := none }
def k10c1 : Code := { maxStack := 2, maxLocals := 2, code := jdk_43_method_2_code, exceptionTable := #[], attributes := #[] }
def k10m1 : Method := { name := "charAt", desc := "([BI)C", sig := { parameters := [(.array .byte), .int], returnType := some .char }, accessFlags := 9, code := some k10c1 }
def k10c2 : Code := { maxStack := 3, maxLocals := 3, code := jdk_43_method_13_code, exceptionTable := #[], attributes := #[] }
def k10m2 : Method := { name := "equals", desc := "([B[B)Z", sig := { parameters := [(.array .byte), (.array .byte)], returnType := some .boolean }, accessFlags := 9, code := some k10c2 }
/-- java/lang/StringLatin1 -/
def k10 : Class := { plain "java/lang/StringLatin1" (some 0) with
  accessFlags := 48
  interfaces := #[]
  cf := some (fileOf pool10 14 #[.nestMembers #[390, 221]] #[{ accessFlags := 0, nameIndex := 7, descriptorIndex := 8, attributes := #[] }, { accessFlags := 9, nameIndex := 252, descriptorIndex := 53, attributes := #[] }, { accessFlags := 9, nameIndex := 281, descriptorIndex := 282, attributes := #[] }] 48 4 #[] #[{ accessFlags := 4120, nameIndex := 121, descriptorIndex := 122, attributes := #[] }])
  fields := #[{ name := "$assertionsDisabled", type := .boolean, accessFlags := 4120, slot := 0, constantValue := 0 }]
  methods := #[k10m0, k10m1, k10m2]
  instanceTypes := #[]
  staticTypes := #[.boolean]
  resolved := Array.replicate 395 none
  statics := none }

def pool11 : Array CpInfo := pool [(2, .class_ 4), (1, u "java/lang/Object"), (0, u "<init>"), (0, u "()V"), (17, .class_ 26), (1, u "jdk/internal/util/Preconditions"), (6, u "checkIndex"), (21, .class_ 56), (0, u "jdk/internal/util/Preconditions$4"), (57, .class_ 115), (0, u "jdk/internal/util/Preconditions$1"), (7, u "SIOOBE_FORMATTER"), (0, u "Ljava/util/function/BiFunction;"), (0, .class_ 126), (0, u "jdk/internal/util/Preconditions$2"), (3, u "AIOOBE_FORMATTER"), (0, .class_ 132), (0, u "jdk/internal/util/Preconditions$3"), (3, u "IOOBE_FORMATTER"), (41, u "(IILjava/util/function/BiFunction;)I")] 15

def k11m0 : Method := { name := "<init>", desc := "()V", sig := { parameters := [], returnType := none }, accessFlags := 1, code := none }
def k11c1 : Code := { maxStack := 3, maxLocals := 3, code := jdk_41_method_11_code, exceptionTable := #[], attributes := #[] }
def k11m1 : Method := { name := "checkIndex", desc := "(IILjava/util/function/BiFunction;)I", sig := { parameters := [.int, .int, (.object "java/util/function/BiFunction")], returnType := some .int }, accessFlags := 9, code := some k11c1 }
/-- jdk/internal/util/Preconditions -/
def k11 : Class := { plain "jdk/internal/util/Preconditions" (some 0) with
  accessFlags := 33
  interfaces := #[]
  cf := some (fileOf pool11 24 #[.nestMembers #[55, 131, 125, 114]] #[{ accessFlags := 1, nameIndex := 5, descriptorIndex := 6, attributes := #[] }, { accessFlags := 9, nameIndex := 33, descriptorIndex := 178, attributes := #[] }] 33 2 #[] #[{ accessFlags := 25, nameIndex := 123, descriptorIndex := 124, attributes := #[] }, { accessFlags := 25, nameIndex := 130, descriptorIndex := 124, attributes := #[] }, { accessFlags := 25, nameIndex := 136, descriptorIndex := 124, attributes := #[] }])
  fields := #[{ name := "SIOOBE_FORMATTER", type := (.object "java/util/function/BiFunction"), accessFlags := 25, slot := 0, constantValue := 0 }, { name := "AIOOBE_FORMATTER", type := (.object "java/util/function/BiFunction"), accessFlags := 25, slot := 1, constantValue := 0 }, { name := "IOOBE_FORMATTER", type := (.object "java/util/function/BiFunction"), accessFlags := 25, slot := 2, constantValue := 0 }]
  methods := #[k11m0, k11m1]
  instanceTypes := #[]
  staticTypes := #[(.object "java/util/function/BiFunction"), (.object "java/util/function/BiFunction"), (.object "java/util/function/BiFunction")]
  resolved := Array.replicate 194 none
  statics := some 2 }

def pool12 : Array CpInfo := pool [(9, u "<init>"), (6, .class_ 18), (1, u "java/lang/Object"), (0, u "()V"), (1, .class_ 23), (1, u "jdk/internal/util/ArraysSupport"), (0, u "LOG2_ARRAY_LONG_INDEX_SCALE"), (0, u "I"), (2, u "U"), (0, u "Ljdk/internal/misc/Unsafe;"), (8, u "BIG_ENDIAN"), (0, u "Z"), (8, u "LOG2_BYTE_BIT_SIZE"), (4, u "LOG2_ARRAY_INT_INDEX_SCALE"), (54, u "JLA"), (0, u "Ljdk/internal/access/JavaLangAccess;"), (11, u "LOG2_ARRAY_BOOLEAN_INDEX_SCALE"), (9, u "LOG2_ARRAY_BYTE_INDEX_SCALE"), (5, u "LOG2_ARRAY_CHAR_INDEX_SCALE"), (5, u "LOG2_ARRAY_SHORT_INDEX_SCALE"), (18, u "LOG2_ARRAY_FLOAT_INDEX_SCALE"), (24, u "LOG2_ARRAY_DOUBLE_INDEX_SCALE"), (89, u "T_BOOLEAN"), (2, u "T_CHAR"), (1, u "T_FLOAT"), (1, u "T_DOUBLE"), (1, u "T_BYTE"), (1, u "T_SHORT"), (1, u "T_INT"), (1, u "T_LONG"), (1, u "SOFT_MAX_ARRAY_LENGTH")] 83

def k12m0 : Method := { name := "<init>", desc := "()V", sig := { parameters := [], returnType := none }, accessFlags := 2, code := none }
/-- jdk/internal/util/ArraysSupport -/
def k12 : Class := { plain "jdk/internal/util/ArraysSupport" (some 0) with
  accessFlags := 33
  interfaces := #[]
  cf := some (fileOf pool12 21 #[] #[{ accessFlags := 2, nameIndex := 9, descriptorIndex := 19, attributes := #[] }] 33 16 #[] #[{ accessFlags := 24, nameIndex := 28, descriptorIndex := 29, attributes := #[] }, { accessFlags := 26, nameIndex := 38, descriptorIndex := 39, attributes := #[] }, { accessFlags := 25, nameIndex := 121, descriptorIndex := 25, attributes := #[] }, { accessFlags := 25, nameIndex := 131, descriptorIndex := 25, attributes := #[] }, { accessFlags := 25, nameIndex := 137, descriptorIndex := 25, attributes := #[] }, { accessFlags := 25, nameIndex := 143, descriptorIndex := 25, attributes := #[] }, { accessFlags := 25, nameIndex := 53, descriptorIndex := 25, attributes := #[] }, { accessFlags := 25, nameIndex := 24, descriptorIndex := 25, attributes := #[] }, { accessFlags := 25, nameIndex := 162, descriptorIndex := 25, attributes := #[] }, { accessFlags := 25, nameIndex := 187, descriptorIndex := 25, attributes := #[] }, { accessFlags := 26, nameIndex := 48, descriptorIndex := 25, attributes := #[] }, { accessFlags := 25, nameIndex := 277, descriptorIndex := 25, attributes := #[] }, { accessFlags := 25, nameIndex := 280, descriptorIndex := 25, attributes := #[] }, { accessFlags := 25, nameIndex := 282, descriptorIndex := 25, attributes := #[] }, { accessFlags := 25, nameIndex := 284, descriptorIndex := 25, attributes := #[] }, { accessFlags := 25, nameIndex := 286, descriptorIndex := 25, attributes := #[] }, { accessFlags := 25, nameIndex := 288, descriptorIndex := 25, attributes := #[] }, { accessFlags := 25, nameIndex := 290, descriptorIndex := 25, attributes := #[] }, { accessFlags := 25, nameIndex := 292, descriptorIndex := 25, attributes := #[] }, { accessFlags := 26, nameIndex := 108, descriptorIndex := 109, attributes := #[] }, { accessFlags := 25, nameIndex := 294, descriptorIndex := 25, attributes := #[] }])
  fields := #[{ name := "U", type := (.object "jdk/internal/misc/Unsafe"), accessFlags := 24, slot := 0, constantValue := 0 }, { name := "BIG_ENDIAN", type := .boolean, accessFlags := 26, slot := 1, constantValue := 0 }, { name := "LOG2_ARRAY_BOOLEAN_INDEX_SCALE", type := .int, accessFlags := 25, slot := 2, constantValue := 0 }, { name := "LOG2_ARRAY_BYTE_INDEX_SCALE", type := .int, accessFlags := 25, slot := 3, constantValue := 0 }, { name := "LOG2_ARRAY_CHAR_INDEX_SCALE", type := .int, accessFlags := 25, slot := 4, constantValue := 0 }, { name := "LOG2_ARRAY_SHORT_INDEX_SCALE", type := .int, accessFlags := 25, slot := 5, constantValue := 0 }, { name := "LOG2_ARRAY_INT_INDEX_SCALE", type := .int, accessFlags := 25, slot := 6, constantValue := 0 }, { name := "LOG2_ARRAY_LONG_INDEX_SCALE", type := .int, accessFlags := 25, slot := 7, constantValue := 0 }, { name := "LOG2_ARRAY_FLOAT_INDEX_SCALE", type := .int, accessFlags := 25, slot := 8, constantValue := 0 }, { name := "LOG2_ARRAY_DOUBLE_INDEX_SCALE", type := .int, accessFlags := 25, slot := 9, constantValue := 0 }, { name := "LOG2_BYTE_BIT_SIZE", type := .int, accessFlags := 26, slot := 10, constantValue := 0 }, { name := "T_BOOLEAN", type := .int, accessFlags := 25, slot := 11, constantValue := 0 }, { name := "T_CHAR", type := .int, accessFlags := 25, slot := 12, constantValue := 0 }, { name := "T_FLOAT", type := .int, accessFlags := 25, slot := 13, constantValue := 0 }, { name := "T_DOUBLE", type := .int, accessFlags := 25, slot := 14, constantValue := 0 }, { name := "T_BYTE", type := .int, accessFlags := 25, slot := 15, constantValue := 0 }, { name := "T_SHORT", type := .int, accessFlags := 25, slot := 16, constantValue := 0 }, { name := "T_INT", type := .int, accessFlags := 25, slot := 17, constantValue := 0 }, { name := "T_LONG", type := .int, accessFlags := 25, slot := 18, constantValue := 0 }, { name := "JLA", type := (.object "jdk/internal/access/JavaLangAccess"), accessFlags := 26, slot := 19, constantValue := 0 }, { name := "SOFT_MAX_ARRAY_LENGTH", type := .int, accessFlags := 25, slot := 20, constantValue := 0 }]
  methods := #[k12m0]
  instanceTypes := #[]
  staticTypes := #[(.object "jdk/internal/misc/Unsafe"), .boolean, .int, .int, .int, .int, .int, .int, .int, .int, .int, .int, .int, .int, .int, .int, .int, .int, .int, (.object "jdk/internal/access/JavaLangAccess"), .int]
  resolved := Array.replicate 378 none
  statics := none }

def pool13 : Array CpInfo := pool [(1, u "java/lang/Cloneable"), (0, .class_ 1), (0, u "java/lang/Object"), (0, .class_ 3)] 3

/-- java/lang/Cloneable -/
def k13 : Class := { plain "java/lang/Cloneable" (some 0) with
  accessFlags := 1537
  interfaces := #[]
  cf := some (fileOf pool13 2 #[] #[] 1537 4 #[] #[])
  fields := #[]
  methods := #[]
  instanceTypes := #[]
  staticTypes := #[]
  resolved := Array.replicate 8 none
  statics := none }

/-- the primitive byte -/
def k14 : Class := { plain "byte" none with kind := .primitive 'B', accessFlags := 0x411 }
/-- [B -/
def k15 : Class := { plain "[B" (some 0) with kind := .array 14 .byte, interfaces := #[13, 4], accessFlags := 1041 }

/-- the primitive int -/
def k16 : Class := { plain "int" none with kind := .primitive 'I', accessFlags := 0x411 }
/-- [I -/
def k17 : Class := { plain "[I" (some 0) with kind := .array 16 .int, interfaces := #[13, 4], accessFlags := 1041 }

def heap : Heap := #[{ cls := 6, slots := #[.ref 3, .ref 5, .ref 6, .ref 4, .ref 8, .ref 7, .null], vm := .statics 6 },
  { cls := 9, slots := #[.long 0, .int 1, .null, .int 0, .null, .int 0, .int 0], vm := .statics 9 },
  { cls := 11, slots := #[.null, .null, .null], vm := .statics 11 },
  { cls := 6, slots := #[.null, .int 0, .int 0, .ref 9], vm := .none },
  { cls := 6, slots := #[.null, .int 3, .int 0, .ref 10], vm := .none },
  { cls := 6, slots := #[.null, .int 1, .int 0, .ref 12], vm := .none },
  { cls := 6, slots := #[.null, .int 2, .int 0, .ref 11], vm := .none },
  { cls := 6, slots := #[.null, .int 5, .int 0, .ref 13], vm := .none },
  { cls := 6, slots := #[.null, .int 4, .int 0, .ref 14], vm := .none },
  { cls := 9, slots := #[.ref 15, .int 0, .int 0, .int 0], vm := .none },
  { cls := 9, slots := #[.ref 16, .int 0, .int 0, .int 0], vm := .none },
  { cls := 9, slots := #[.ref 17, .int 0, .int 0, .int 0], vm := .none },
  { cls := 9, slots := #[.ref 18, .int 0, .int 0, .int 0], vm := .none },
  { cls := 9, slots := #[.ref 19, .int 0, .int 0, .int 0], vm := .none },
  { cls := 9, slots := #[.ref 20, .int 0, .int 0, .int 0], vm := .none },
  { cls := 15, slots := #[.int 61], vm := .none },
  { cls := 15, slots := #[.int 60, .int 61], vm := .none },
  { cls := 15, slots := #[.int 60], vm := .none },
  { cls := 15, slots := #[.int 60, .int 62], vm := .none },
  { cls := 15, slots := #[.int 62, .int 61], vm := .none },
  { cls := 15, slots := #[.int 62], vm := .none }]
def classes : Array Class := #[k0, k1, k2, k3, k4, k5, k6, k7, k8, k9, k10, k11, k12, k13, k14, k15, k16, k17]
def interned : List (Array UInt16 × Addr) := []
def slotsUsed : Nat := 74
def theMethod : MethodId := ⟨1, 1⟩
def args0 : Array Value := #[.int 5]
def aboutOver (below : List Frame) : State where
  vm := { classes := classes, interned := interned.toArray }
  heap := heap
  slotsUsed := slotsUsed
  threads := #[{ frames := .invoking theMethod args0 :: below }]
def below0 : List Frame := [.native { method := ⟨0, 0⟩, args := #[] }]
def about1 : State := aboutOver below0
def p0 : Program := .bare "" "" ""
def e0 : Env := launch0.env 0 0 0
theorem w_frames : about1.frames = Frame.invoking theMethod args0 :: below0 := rfl
set_option maxRecDepth 65536 in
theorem w_args : argsFit about1.vm theMethod args0 = true := by decide +kernel
set_option maxRecDepth 65536 in
theorem w_heap : heapFits about1 = true := by decide +kernel
set_option maxRecDepth 65536 in
theorem w_runnable : about1.curStatus? = some .runnable := by decide +kernel
set_option maxRecDepth 65536 in
theorem w_alone : about1.alone = true := by decide +kernel
set_option maxRecDepth 65536 in
theorem w_named : about1.methodNamed? x = some theMethod := by decide +kernel
set_option maxRecDepth 65536 in
theorem w_hears : about1.hears theMethod below0 = true := by decide +kernel
set_option maxRecDepth 65536 in
theorem w_ripe : about1.ripe theMethod args0 below0 = true := by decide +kernel
theorem w_running : about1.status = .running := rfl
set_option maxRecDepth 65536 in
theorem w_room : about1.hasRoom e0.platform room_1 = true :=
  launch0.hasRoom_least _ room_1 (by decide +kernel) (by decide +kernel) (by decide +kernel) (by decide +kernel) (by decide +kernel) (by decide +kernel)
theorem allAtoms_all (ts : List Jvm.Cond) (a : Array Jvm.Value) (st : Jvm.State) : (allAtoms ts).before a st = ts.all (fun c => c.before a st) := by
  induction ts with
  | nil => rfl
  | cons c t ih =>
    show (Jvm.Cond.and c (allAtoms t)).before a st = _
    rw [Jvm.Cond.before_and, ih, List.all_cons]
def words1 : List Jvm.Cond := Jvm.Cond.code x code maxLocals ret :: tables_1
/-- a 'code' word, met by the world's own term for the bytes: nothing is compared byte by byte -/
theorem code_word {y : MethodName} {bytes : ByteArray} {mx : Nat} {rt : Option FieldType} {a : Array Value} {s : State} {m : MethodId} {meth : Method} {c : Code} (h1 : s.methodNamed? y = some m) (h2 : s.vm.method? m = some meth) (h3 : meth.code = some c) (h4 : c.code = bytes)
    (h5 : (c.maxLocals == mx && c.exceptionTable.isEmpty && decide (c.maxStack ≤ mostOperands) && decide (meth.sig.returnType = rt) && !meth.locks && decide (parseMethodDescriptor y.desc = some meth.sig)) = true) : (Jvm.Cond.code y bytes mx rt).before a s = true := by
  simp only [Bool.and_eq_true, beq_iff_eq, Bool.not_eq_true', decide_eq_true_eq] at h5
  obtain ⟨⟨⟨⟨⟨g1, g2⟩, g3⟩, g4⟩, g5⟩, g6⟩ := h5
  simp [Cond.before, Cond.holds, Cond.value, h1, h2, h3, h4, g1, g2, g3, g4, g5, g6]
def isCode : Jvm.Cond → Bool
  | .code _ _ _ _ => true
  | _ => false
theorem all_split {L : List Jvm.Cond} {P : Jvm.Cond → Bool} (h1 : L.all (fun c => isCode c || P c) = true) (h2 : ∀ c ∈ L.filter isCode, P c = true) : L.all P = true := by
  refine List.all_eq_true.mpr fun c hc => ?_
  have h := List.all_eq_true.mp h1 c hc
  rcases Bool.eq_false_or_eq_true (isCode c) with hi | hi
  · exact h2 c (List.mem_filter.mpr ⟨hc, hi⟩)
  · simpa [hi] using h
set_option maxRecDepth 65536 in
theorem w_c0 : (Jvm.Cond.code x code maxLocals ret).before args0 about1 = true := code_word (m := ⟨1, 1⟩) (meth := k1m1) (c := k1c1) (by decide +kernel) rfl rfl rfl (by decide +kernel)
set_option maxRecDepth 65536 in
theorem w_c1 : (Jvm.Cond.code ({ cls := "com/example/cargoweft/cargoweft/core/FlexibleSearch$Operator", name := "sql", desc := "()Ljava/lang/String;" } : Jvm.MethodName) prog_57_method_4_code (1 : Nat) (Option.some (Jvm.ClassFile.FieldType.object "java/lang/String"))).before args0 about1 = true := code_word (m := ⟨6, 0⟩) (meth := k6m0) (c := k6c0) (by decide +kernel) rfl rfl rfl (by decide +kernel)
set_option maxRecDepth 65536 in
theorem w_c2 : (Jvm.Cond.code ({ cls := "java/lang/String", name := "equals", desc := "(Ljava/lang/Object;)Z" } : Jvm.MethodName) jdk_42_method_66_code (3 : Nat) (Option.some Jvm.ClassFile.FieldType.boolean)).before args0 about1 = true := code_word (m := ⟨9, 3⟩) (meth := k9m3) (c := k9c3) (by decide +kernel) rfl rfl rfl (by decide +kernel)
set_option maxRecDepth 65536 in
theorem w_c3 : (Jvm.Cond.code ({ cls := "java/lang/StringLatin1", name := "equals", desc := "([B[B)Z" } : Jvm.MethodName) jdk_43_method_13_code (3 : Nat) (Option.some Jvm.ClassFile.FieldType.boolean)).before args0 about1 = true := code_word (m := ⟨10, 2⟩) (meth := k10m2) (c := k10c2) (by decide +kernel) rfl rfl rfl (by decide +kernel)
set_option maxRecDepth 65536 in
theorem w_c4 : (Jvm.Cond.code ({ cls := "java/lang/String", name := "length", desc := "()I" } : Jvm.MethodName) jdk_42_method_54_code (1 : Nat) (Option.some Jvm.ClassFile.FieldType.int)).before args0 about1 = true := code_word (m := ⟨9, 1⟩) (meth := k9m1) (c := k9c1) (by decide +kernel) rfl rfl rfl (by decide +kernel)
set_option maxRecDepth 65536 in
theorem w_c5 : (Jvm.Cond.code ({ cls := "java/lang/String", name := "coder", desc := "()B" } : Jvm.MethodName) jdk_42_method_152_code (1 : Nat) (Option.some Jvm.ClassFile.FieldType.byte)).before args0 about1 = true := code_word (m := ⟨9, 4⟩) (meth := k9m4) (c := k9c4) (by decide +kernel) rfl rfl rfl (by decide +kernel)
set_option maxRecDepth 65536 in
theorem w_c6 : (Jvm.Cond.code ({ cls := "java/lang/String", name := "charAt", desc := "(I)C" } : Jvm.MethodName) jdk_42_method_56_code (2 : Nat) (Option.some Jvm.ClassFile.FieldType.char)).before args0 about1 = true := code_word (m := ⟨9, 2⟩) (meth := k9m2) (c := k9c2) (by decide +kernel) rfl rfl rfl (by decide +kernel)
set_option maxRecDepth 65536 in
theorem w_c7 : (Jvm.Cond.code ({ cls := "java/lang/String", name := "isLatin1", desc := "()Z" } : Jvm.MethodName) jdk_42_method_154_code (1 : Nat) (Option.some Jvm.ClassFile.FieldType.boolean)).before args0 about1 = true := code_word (m := ⟨9, 5⟩) (meth := k9m5) (c := k9c5) (by decide +kernel) rfl rfl rfl (by decide +kernel)
set_option maxRecDepth 65536 in
theorem w_c8 : (Jvm.Cond.code ({ cls := "java/lang/StringLatin1", name := "charAt", desc := "([BI)C" } : Jvm.MethodName) jdk_43_method_2_code (2 : Nat) (Option.some Jvm.ClassFile.FieldType.char)).before args0 about1 = true := code_word (m := ⟨10, 1⟩) (meth := k10m1) (c := k10c1) (by decide +kernel) rfl rfl rfl (by decide +kernel)
set_option maxRecDepth 65536 in
theorem w_c9 : (Jvm.Cond.code ({ cls := "java/lang/String", name := "checkIndex", desc := "(II)V" } : Jvm.MethodName) jdk_42_method_155_code (2 : Nat) (Option.none : Option Jvm.ClassFile.FieldType)).before args0 about1 = true := code_word (m := ⟨9, 6⟩) (meth := k9m6) (c := k9c6) (by decide +kernel) rfl rfl rfl (by decide +kernel)
set_option maxRecDepth 65536 in
theorem w_c10 : (Jvm.Cond.code ({ cls := "jdk/internal/util/Preconditions", name := "checkIndex", desc := "(IILjava/util/function/BiFunction;)I" } : Jvm.MethodName) jdk_41_method_11_code (3 : Nat) (Option.some Jvm.ClassFile.FieldType.int)).before args0 about1 = true := code_word (m := ⟨11, 1⟩) (meth := k11m1) (c := k11c1) (by decide +kernel) rfl rfl rfl (by decide +kernel)
set_option maxRecDepth 65536 in
theorem w_c11 : (Jvm.Cond.code ({ cls := "com/example/cargoweft/cargoweft/core/FlexibleSearch$Operator", name := "ordered", desc := "()Z" } : Jvm.MethodName) prog_57_method_5_code (1 : Nat) (Option.some Jvm.ClassFile.FieldType.boolean)).before args0 about1 = true := code_word (m := ⟨6, 1⟩) (meth := k6m1) (c := k6c1) (by decide +kernel) rfl rfl rfl (by decide +kernel)
def codes1 : List Jvm.Cond := [Jvm.Cond.code x code maxLocals ret, Jvm.Cond.code ({ cls := "com/example/cargoweft/cargoweft/core/FlexibleSearch$Operator", name := "sql", desc := "()Ljava/lang/String;" } : Jvm.MethodName) prog_57_method_4_code (1 : Nat) (Option.some (Jvm.ClassFile.FieldType.object "java/lang/String")), Jvm.Cond.code ({ cls := "java/lang/String", name := "equals", desc := "(Ljava/lang/Object;)Z" } : Jvm.MethodName) jdk_42_method_66_code (3 : Nat) (Option.some Jvm.ClassFile.FieldType.boolean), Jvm.Cond.code ({ cls := "java/lang/StringLatin1", name := "equals", desc := "([B[B)Z" } : Jvm.MethodName) jdk_43_method_13_code (3 : Nat) (Option.some Jvm.ClassFile.FieldType.boolean), Jvm.Cond.code ({ cls := "java/lang/String", name := "length", desc := "()I" } : Jvm.MethodName) jdk_42_method_54_code (1 : Nat) (Option.some Jvm.ClassFile.FieldType.int), Jvm.Cond.code ({ cls := "java/lang/String", name := "coder", desc := "()B" } : Jvm.MethodName) jdk_42_method_152_code (1 : Nat) (Option.some Jvm.ClassFile.FieldType.byte), Jvm.Cond.code ({ cls := "java/lang/String", name := "charAt", desc := "(I)C" } : Jvm.MethodName) jdk_42_method_56_code (2 : Nat) (Option.some Jvm.ClassFile.FieldType.char), Jvm.Cond.code ({ cls := "java/lang/String", name := "isLatin1", desc := "()Z" } : Jvm.MethodName) jdk_42_method_154_code (1 : Nat) (Option.some Jvm.ClassFile.FieldType.boolean), Jvm.Cond.code ({ cls := "java/lang/StringLatin1", name := "charAt", desc := "([BI)C" } : Jvm.MethodName) jdk_43_method_2_code (2 : Nat) (Option.some Jvm.ClassFile.FieldType.char), Jvm.Cond.code ({ cls := "java/lang/String", name := "checkIndex", desc := "(II)V" } : Jvm.MethodName) jdk_42_method_155_code (2 : Nat) (Option.none : Option Jvm.ClassFile.FieldType), Jvm.Cond.code ({ cls := "jdk/internal/util/Preconditions", name := "checkIndex", desc := "(IILjava/util/function/BiFunction;)I" } : Jvm.MethodName) jdk_41_method_11_code (3 : Nat) (Option.some Jvm.ClassFile.FieldType.int), Jvm.Cond.code ({ cls := "com/example/cargoweft/cargoweft/core/FlexibleSearch$Operator", name := "ordered", desc := "()Z" } : Jvm.MethodName) prog_57_method_5_code (1 : Nat) (Option.some Jvm.ClassFile.FieldType.boolean)]
set_option maxRecDepth 65536 in
theorem codes_eq : words1.filter isCode = codes1 := rfl
theorem w_codes : ∀ c ∈ words1.filter isCode, c.before args0 about1 = true := by
  rw [codes_eq]
  intro c hc
  simp only [codes1, List.mem_cons, List.not_mem_nil, or_false] at hc
  rcases hc with rfl | rfl | rfl | rfl | rfl | rfl | rfl | rfl | rfl | rfl | rfl | rfl
  · exact w_c0
  · exact w_c1
  · exact w_c2
  · exact w_c3
  · exact w_c4
  · exact w_c5
  · exact w_c6
  · exact w_c7
  · exact w_c8
  · exact w_c9
  · exact w_c10
  · exact w_c11
set_option maxRecDepth 65536 in
theorem w_t1 : (words1.take 24).all (fun c => isCode c || c.before args0 about1) = true := by decide +kernel
set_option maxRecDepth 65536 in
theorem w_t2 : ((words1.drop 24).take 24).all (fun c => isCode c || c.before args0 about1) = true := by decide +kernel
set_option maxRecDepth 65536 in
theorem w_t3 : (((words1.drop 24).drop 24).take 24).all (fun c => isCode c || c.before args0 about1) = true := by decide +kernel
set_option maxRecDepth 65536 in
theorem w_t4 : (((words1.drop 24).drop 24).drop 24).all (fun c => isCode c || c.before args0 about1) = true := by decide +kernel
theorem w_tables : (allAtoms (Jvm.Cond.code x code maxLocals ret :: tables_1)).before args0 about1 = true := by
  rw [allAtoms_all]
  show words1.all (fun c => c.before args0 about1) = true
  refine all_split ?_ w_codes
  rw [← List.take_append_drop 24 words1, List.all_append, w_t1, ← List.take_append_drop 24 (words1.drop 24), List.all_append, w_t2, ← List.take_append_drop 24 ((words1.drop 24).drop 24), List.all_append, w_t3, w_t4]
  rfl
set_option maxRecDepth 65536 in
theorem w_rest : rest_1_c.before args0 about1 = true := by decide +kernel
set_option maxRecDepth 65536 in
theorem w_case : (Jvm.Cond.and given_1 narrow_1).before args0 about1 = true := by decide +kernel
set_option maxRecDepth 65536 in
theorem w_consts : constsHeld consts_1 about1 := Jvm.Lit.constsHeldB_iff.mp (by decide +kernel)
theorem w_applies : (headSpec (Jvm.Cond.code x code maxLocals ret :: tables_1) room_1).applies x e0.platform about1 = true :=
  (Spec.applies_iff w_frames).mpr ⟨w_running, w_runnable, w_alone, w_named, w_hears, w_ripe, w_room, w_tables⟩
theorem atStart : AtStart classFile x code maxLocals ret World_1 tables_1 room_1 Calls_1 rest_1 Pre_1 launch0 p0 e0 about1 theMethod args0 below0 :=
  ⟨lists_1, trivial, launch0.admits_env _ _ _, launch0.least_env, fairChoices_fair.cas, fairChoices_fair.clock, w_frames, w_args, w_heap, w_applies, ⟨w_consts, trivial⟩, w_rest, w_case⟩
end start1
theorem witness_1 : WitnessClaimed_1 := ⟨start1.p0, start1.e0, start1.about1, start1.theMethod, start1.args0, start1.below0, start1.atStart⟩
end Jvm.Pilot.@@N@@
