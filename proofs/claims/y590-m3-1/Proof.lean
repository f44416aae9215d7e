import JvmDerived
import JvmDerived.Pilot.@@N@@Statement
import JvmDerived.Pilot.@@N@@Code
set_option linter.unusedVariables false
set_option linter.unusedSimpArgs false
namespace Jvm.RoadKit
open Sem ClassFile Op Lib Jvm.Stand Jvm.Free Jvm.LawKit
section New
variable {p : Program} {l : Launch} {e : Env} {R : Room} {s : State} {m : MethodId} {args : Array Value} {below : List Frame} {meth : Method} {c : Code} {T : State} {locs : List Loc} {cells slots : Nat}
theorem retI (X : Stand p l e R s m args below meth c T locs cells slots) (hx : p.tables.exec = Jvm.exec) {pc : Nat} {Ls : Array Slot} {z : Int32} {rest : List Value} (hret : meth.sig.returnType = some .int) (hd : decode c.code pc = .ok (.ireturn, 1)) {fs : List Frame}
    (hl : ∀ (f : JFrame) (acts : List Action), f.method = m → f.locked = none → f.entered = [] → (doReturn e (T.setTop f) acts (some (.int z))).1 = T.setFrames fs) : Steps p.tables e below (T.setTop (mkF m pc Ls (.int z :: rest))) (T.setFrames fs) :=
  retOut X hx hret rfl (Or.inl ⟨rfl, Or.inl rfl, _, rfl⟩) hd hl
end New
end Jvm.RoadKit
namespace Jvm.Pilot.@@N@@
open Jvm Jvm.ClassFile Sem Op Lib Jvm.Free Jvm.Stand Jvm.LawKit Jvm.RoadKit Bundle Jvm.Pilot.@@N@@.Jvm.D
theorem own_sub {p : Program} {l : Launch} {e : Env} {R : Room} {s : State} {m : MethodId} {args : Array Value} {below : List Frame} {meth : Method} {c : Code} {T : State} {L L' : List Loc} {k k' n n' : Nat} (X : Stand p l e R s m args below meth c T L k n) (hl : L = L') (hk : k = k') (hn : n = n') : Stand p l e R s m args below meth c T L' k' n' := by
  subst hl hk hn
  exact X
abbrev own_m0 : MethodName := ⟨"com/example/tallywire/tallywire/wire/FieldType", "hasForm", "(Ljava/lang/String;)Z"⟩
abbrev own_m1 : MethodName := ⟨"java/lang/String", "length", "()I"⟩
abbrev own_m2 : MethodName := ⟨"com/example/tallywire/tallywire/wire/FieldType", "isLength", "()Z"⟩
abbrev own_m3 : MethodName := ⟨"java/lang/String", "charAt", "(I)C"⟩
abbrev own_m4 : MethodName := ⟨"com/example/tallywire/tallywire/wire/FieldType", "isAt", "(Ljava/lang/String;IC)Z"⟩
abbrev own_m5 : MethodName := ⟨"com/example/tallywire/tallywire/wire/FieldTypeIsLengthPinLaw", "pick", "(I)Lcom/example/tallywire/tallywire/wire/FieldType;"⟩
abbrev own_m6 : MethodName := ⟨"com/example/tallywire/tallywire/wire/FieldType", "number", "(Ljava/lang/String;IIII)I"⟩
abbrev own_m7 : MethodName := ⟨"java/lang/Enum", "ordinal", "()I"⟩
abbrev own_m8 : MethodName := ⟨"com/example/tallywire/tallywire/wire/FieldType", "ordinal", "()I"⟩
abbrev own_m9 : MethodName := ⟨"java/lang/String", "coder", "()B"⟩
abbrev own_m10 : MethodName := ⟨"com/example/tallywire/tallywire/wire/FieldType", "character", "(Ljava/lang/String;IC)I"⟩
abbrev own_m11 : MethodName := ⟨"java/lang/String", "startsWith", "(Ljava/lang/String;)Z"⟩
abbrev own_m12 : MethodName := ⟨"jdk/internal/util/Preconditions", "checkIndex", "(IILjava/util/function/BiFunction;)I"⟩
abbrev own_m13 : MethodName := ⟨"java/lang/StringLatin1", "charAt", "([BI)C"⟩
abbrev own_m14 : MethodName := ⟨"com/example/tallywire/tallywire/wire/FieldType", "time", "(Ljava/lang/String;IZZ)I"⟩
abbrev own_m15 : MethodName := ⟨"java/lang/String", "isLatin1", "()Z"⟩
abbrev own_m16 : MethodName := ⟨"java/lang/String", "startsWith", "(Ljava/lang/String;I)Z"⟩
abbrev own_m17 : MethodName := ⟨"java/lang/String", "checkIndex", "(II)V"⟩
abbrev own_m18 : MethodName := ⟨"com/example/tallywire/tallywire/wire/FieldType", "digits", "(Ljava/lang/String;I)I"⟩
abbrev own_m19 : MethodName := ⟨"java/lang/String", "isEmpty", "()Z"⟩
abbrev own_m20 : MethodName := ⟨"java/lang/String", "equals", "(Ljava/lang/Object;)Z"⟩
abbrev own_m21 : MethodName := ⟨"com/example/tallywire/tallywire/wire/FieldType", "isDigit", "(C)Z"⟩
abbrev own_m22 : MethodName := ⟨"com/example/tallywire/tallywire/wire/TagValue", "parseNumber", "(Ljava/lang/String;)J"⟩
abbrev own_m23 : MethodName := ⟨"jdk/internal/util/ArraysSupport", "mismatch", "([BI[BII)I"⟩
abbrev own_m24 : MethodName := ⟨"com/example/tallywire/tallywire/wire/FieldType", "decimal", "(Ljava/lang/String;)I"⟩
abbrev own_m25 : MethodName := ⟨"java/lang/StringLatin1", "equals", "([B[B)Z"⟩
abbrev own_m26 : MethodName := ⟨"com/example/tallywire/tallywire/wire/FieldType", "yearAndMonth", "(Ljava/lang/String;I)I"⟩
abbrev own_m27 : MethodName := ⟨"com/example/tallywire/tallywire/wire/FieldType", "date", "(Ljava/lang/String;I)I"⟩
abbrev own_m28 : MethodName := ⟨"com/example/tallywire/tallywire/wire/FieldType", "dateAndDash", "(Ljava/lang/String;)I"⟩
abbrev own_m29 : MethodName := ⟨"com/example/tallywire/tallywire/wire/FieldType", "zone", "(Ljava/lang/String;I)I"⟩
abbrev own_m30 : MethodName := ⟨"com/example/tallywire/tallywire/wire/FieldType", "isCharacterList", "(Ljava/lang/String;)Z"⟩
abbrev own_m31 : MethodName := ⟨"com/example/tallywire/tallywire/wire/FieldType", "monthYear", "(Ljava/lang/String;)I"⟩
/-- what a body that writes nothing leaves: its value, no place written, the heap as it was -/
def PQ (w : Option Value) (h0 : Heap) (n0 : Nat) (v : Option Value) (h : Heap) (L : List Loc) : Prop := v = w ∧ Fr n0 L ∧ h = h0
def LQ (n0 : Nat) (v : Option Value) (h : Heap) (L : List Loc) : Prop := v = some (.int (1 : Int32)) ∧ Fr n0 L ∧ True
def QH (w : Option Value) (h0 : Heap) (n0 : Nat) (v : Option Value) (h : Heap) (L : List Loc) : Prop := v = w ∧ Fr n0 L ∧ Keep h0 h []
set_option maxRecDepth 65536
set_option maxHeartbeats 40000000
abbrev own_MF (l : Launch) (Z : State) (y : MethodName) (b : ByteArray) (n : Nat) (r : Option FieldType) (ws : List Jvm.Cond) (rm : Room) (as : Array Value) (h0 : Heap) (Q : Option Value → Heap → List Loc → Prop) : Prop := MetFree l y (head1 (Jvm.Cond.code y b n r :: ws) rm) (fun a U => a = as ∧ Z.Warmed39 U.vm ∧ U.heap = h0) (fun _ _ _ _ _ => True) (fun _ U o U' => ∃ v L, o = .returned v ∧ Q v U'.heap L ∧ FrameEnd U o U' L rm.cells rm.slots)
abbrev own_MH (l : Launch) (Z : State) (y : MethodName) (b : ByteArray) (n : Nat) (r : Option FieldType) (ws : List Jvm.Cond) (rm : Room) (as : Array Value) (h0 : Heap) (Q : Option Value → Heap → List Loc → Prop) : Prop := MetFree l y (head1 (Jvm.Cond.code y b n r :: ws) rm) (fun a U => a = as ∧ Z.Warmed39 U.vm ∧ U.heap = h0 ∧ CHv Z consts_1 U.vm h0) (fun _ _ _ _ _ => True) (fun _ U o U' => ∃ v L, o = .returned v ∧ Q v U'.heap L ∧ CHr Z consts_1 U.vm U.heap U'.vm U'.heap ∧ ReturnedEndW U o U' L rm.cells rm.slots)
abbrev own_Y (p : Program) (e : Env) (below : List Frame) (T : State) (m : MethodId) (pc : Nat) (L : Array Slot) (S : List Value) (t : State) : Prop := Steps p.tables e below (T.setTop (mkF m pc L S)) t
abbrev own_P (p : Program) (e : Env) (below : List Frame) (T : State) (m : MethodId) (pc : Nat) (L : Array Slot) (S : List Value) (s₁ : State) (a : Array Value) (n : Nat) : Prop := ∀ t, Steps p.tables e below (T.setTop (mkF m pc L S)) t → Steps p.tables e below (s₁.setTop (entryFrame m a n)) t
theorem own_W {a0 : Array Value} {Z : State} (hw : ∀ d ∈ tables_1, d.before a0 Z = true) (i : Nat) {d : Jvm.Cond} (h : tables_1[i]? = some d) : d.before a0 Z = true := hw d (List.mem_of_getElem? h)
theorem own_Ix {α : Type} {P : Prop} {l : List α} {a : α} (i : Nat) (h : l[i]? = some a) : a ∈ l ∨ P := Or.inl (List.mem_of_getElem? h)
abbrev y_s0 : String := "Lcom/example/tallywire/tallywire/wire/FieldType;"
abbrev y_s1 : String := "com/example/tallywire/tallywire/wire/FieldType"
abbrev y_s2 : String := "java/lang/String"
abbrev y_s3 : String := "java/lang/Enum"
theorem own_pd0 : parseMethodDescriptor "(I)Lcom/example/tallywire/tallywire/wire/FieldType;" = some ⟨[.int], some (.object y_s1)⟩ := by decide +kernel
theorem own_pd1 : parseMethodDescriptor "()B" = some ⟨[], some .byte⟩ := by decide +kernel
theorem own_pd2 : parseMethodDescriptor "()I" = some ⟨[], some .int⟩ := by decide +kernel
theorem own_pd3 : parseMethodDescriptor "([BI[BII)I" = some ⟨[(.array .byte), .int, (.array .byte), .int, .int], some .int⟩ := by decide +kernel
theorem own_pd4 : parseMethodDescriptor "(Ljava/lang/String;I)Z" = some ⟨[(.object y_s2), .int], some .boolean⟩ := by decide +kernel
theorem own_pd5 : parseMethodDescriptor "(Ljava/lang/String;)Z" = some ⟨[(.object y_s2)], some .boolean⟩ := by decide +kernel
theorem own_pd6 : parseMethodDescriptor "()Z" = some ⟨[], some .boolean⟩ := by decide +kernel
theorem own_pd7 : parseMethodDescriptor "(IILjava/util/function/BiFunction;)I" = some ⟨[.int, .int, (.object "java/util/function/BiFunction")], some .int⟩ := by decide +kernel
theorem own_pd8 : parseMethodDescriptor "(II)V" = some ⟨[.int, .int], none⟩ := by decide +kernel
theorem own_pd9 : parseMethodDescriptor "([BI)C" = some ⟨[(.array .byte), .int], some .char⟩ := by decide +kernel
theorem own_pd10 : parseMethodDescriptor "(I)C" = some ⟨[.int], some .char⟩ := by decide +kernel
theorem own_pd11 : parseMethodDescriptor "(C)Z" = some ⟨[.char], some .boolean⟩ := by decide +kernel
theorem own_pd12 : parseMethodDescriptor "(Ljava/lang/String;I)I" = some ⟨[(.object y_s2), .int], some .int⟩ := by decide +kernel
theorem own_pd13 : parseMethodDescriptor "(Ljava/lang/String;)J" = some ⟨[(.object y_s2)], some .long⟩ := by decide +kernel
theorem own_pd14 : parseMethodDescriptor "(Ljava/lang/String;IC)Z" = some ⟨[(.object y_s2), .int, .char], some .boolean⟩ := by decide +kernel
theorem own_pd15 : parseMethodDescriptor "(Ljava/lang/String;)I" = some ⟨[(.object y_s2)], some .int⟩ := by decide +kernel
theorem own_pd16 : parseMethodDescriptor "([B[B)Z" = some ⟨[(.array .byte), (.array .byte)], some .boolean⟩ := by decide +kernel
theorem own_pd17 : parseMethodDescriptor "(Ljava/lang/Object;)Z" = some ⟨[(.object "java/lang/Object")], some .boolean⟩ := by decide +kernel
theorem own_pd18 : parseMethodDescriptor "(Ljava/lang/String;IIII)I" = some ⟨[(.object y_s2), .int, .int, .int, .int], some .int⟩ := by decide +kernel
theorem own_pd19 : parseMethodDescriptor "(Ljava/lang/String;IC)I" = some ⟨[(.object y_s2), .int, .char], some .int⟩ := by decide +kernel
theorem own_pd20 : parseMethodDescriptor "(Ljava/lang/String;IZZ)I" = some ⟨[(.object y_s2), .int, .boolean, .boolean], some .int⟩ := by decide +kernel
theorem own_k (p : Int32) : ∃ n, n < 28 ∧ ((p &&& (2147483647 : Int32)) % 28) = Int32.ofNat n := by
  have q0 := c_and p 2147483647 (by decide)
  have q := (c_irem (p &&& (2147483647 : Int32)) (28 : Int32) 28 rfl).1 q0.1
  refine ⟨((p &&& (2147483647 : Int32)).toInt % 28).toNat, by omega, ?_⟩
  rw [← Int32.toInt_inj, q, Int32.toInt_ofNat_small (by omega)]
  omega
theorem own_strAtoms (a0 : Array Value) (Z : State) (hw : ∀ d ∈ tables_1, d.before a0 Z = true) : ∀ a ∈ Bundle.stringAtoms, a.before a0 Z = true := by
  intro d hd
  simp only [Bundle.stringAtoms, Bundle.sN, List.mem_cons, List.not_mem_nil, or_false] at hd
  rcases hd with rfl | rfl | rfl | rfl | rfl | rfl | rfl
  · exact (own_W hw 9 rfl)
  · exact (own_W hw 10 rfl)
  · exact (own_W hw 11 rfl)
  · exact (own_W hw 12 rfl)
  · exact (own_W hw 13 rfl)
  · exact (own_W hw 14 rfl)
  · exact (own_W hw 15 rfl)
theorem own_EW (a0 : Array Value) (Z : State) (hw : ∀ d ∈ tables_1, d.before a0 Z = true) : EW Z a0 consts_1 := (EW.cons (own_W hw 43 rfl) (by decide) (EW.cons (own_W hw 128 rfl) (by decide) (EW.cons (own_W hw 139 rfl) (by decide) (EW.cons (own_W hw 8 rfl) (by decide) (EW.cons (own_W hw 87 rfl) (by decide) EW.nil)))))
theorem own_eqv {s : State} {args : Array Value} {t u : Term} {w : Value} (hu : u.eval args s none [] s = some w) (h : (Cond.eq t u).value args s none s [] = some true) (hk : (match w with | .retAddr _ => false | .float _ => false | .double _ => false | _ => true) = true := by rfl) : t.eval args s none [] s = some w := by
  obtain ⟨x, y, e1, e2, -, -⟩ := cmp_v (Or.inl h)
  cases hu.symm.trans e2
  rw [e1]
  simp only [Cond.value, e1, hu] at h
  cases x <;> cases w <;> simp at h hk ⊢ <;> exact h
theorem own_fld {s : State} {args : Array Value} {t : Term} {C n d : String} {a : Addr} {v : Value} (ht : t.eval args s none [] s = some (.ref a)) (h : (Term.field t C n d).eval args s none [] s = some v) : Fld s s.heap a C n d v := Fld.start ((fld_at ht).symm.trans h)
theorem own_len {s : State} {args : Array Value} {t : Term} {ty : FieldType} {a : Addr} {n : Int32} (ht : t.eval args s none [] s = some (.ref a)) (ha : (Cond.arrayOf t ty).value args s none s [] = some true) (hl : (Cond.eq (.length t) (.int n)).value args s none s [] = some true) (hn : ¬ n < 0) :
    ∃ c : Cell, Arr s s.heap a c ty ∧ c.slots.size < 2 ^ 31 ∧ c.slots.size.toInt32 = n := by
  obtain ⟨c, A⟩ := Arr.start ht ha
  have e := own_eqv (Term.int_eval n) hl
  have A2 := A.fin (Vm.Alike.refl _)
  obtain ⟨x, c2, e1, e2, e3⟩ := Term.length_spec e
  cases ht.symm.trans e1
  cases A2.symm.trans e2
  have h31 := SBG.length_lt ht A2 e
  refine ⟨c, A, h31, ?_⟩
  have := len_f ht A2 h31
  rw [e] at this
  simpa using (Option.some.inj this).symm
theorem own_elem {s : State} {args : Array Value} {t : Term} {ty : FieldType} {a : Addr} {c : Cell} {j : Int32} {v : Value} (ht : t.eval args s none [] s = some (.ref a)) (A : Arr s s.heap a c ty) (h : (Term.elem t (.int j)).eval args s none [] s = some v) : c.slots[j.toNatClampNeg]? = some v := (elem_in h ht (Term.int_eval j) A.1).2
theorem own_all0 {s : State} {args : Array Value} {t : Term} {ty : FieldType} {a : Addr} {c : Cell} {k n : Int32} (ht : ∀ idx, t.eval args s none idx s = some (.ref a)) (A : Arr s s.heap a c ty) (h31 : c.slots.size < 2 ^ 31) (hn : c.slots.size.toInt32 = n)
    (h : (Cond.all t (.or (.lt (.index 0) (.int k)) (.eq (.elem t (.index 0)) (.int 0)))).value args s none s [] = some true) (j : Nat) (hj : j < n.toNatClampNeg) (hk : ¬ j.toInt32 < k) : c.slots[j]? = some (.int 0) := by
  have A2 := A.fin (Vm.Alike.refl _)
  have hsz : n.toNatClampNeg = c.slots.size := by rw [← hn]; simp only [Int32.toNatClampNeg, len_toInt h31]; rfl
  have hj2 : j < c.slots.size := hsz ▸ hj
  have q := Cond.all_elim (ht []) A2 h j hj2
  have e1 : (Term.index 0).eval args s none [j] s = some (.int j.toInt32) := rfl
  have l1 : (Cond.lt (.index 0) (.int k)).value args s none s [j] = some false := by
    simp [Cond.value, e1, Term.int_eval, hk]
  have q2 : (Cond.eq (.elem t (.index 0)) (.int 0)).value args s none s [j] = some true := by
    have q3 : (match (Cond.lt (.index 0) (.int k)).value args s none s [j] with | some false => (Cond.eq (.elem t (.index 0)) (.int 0)).value args s none s [j] | x => x) = some true := q
    rw [l1] at q3
    exact q3
  obtain ⟨x, y, e2, e3, -, -⟩ := cmp_v (Or.inl q2)
  cases (Term.int_eval (args := args) (first := s) (o := none) (idx := [j]) (s := s) 0).symm.trans e3
  have e4 : (Term.elem t (.index 0)).eval args s none [j] s = some (.int 0) := by
    simp only [Cond.value, e2, e3] at q2
    rw [e2]; cases x <;> simp at q2 ⊢; exact q2
  have e5 := elem_in e4 (ht [j]) e1 A.1
  have e6 : (Nat.toInt32 j).toNatClampNeg = j := by simp only [Int32.toNatClampNeg, len_toInt (Nat.lt_trans hj2 h31)]; rfl
  rw [e6] at e5
  exact e5.2
theorem own_csne {s : State} {args : Array Value} {t : Term} {v : Int32} (e : t.eval args s none [] s = some (.int v)) (h : (Cond.not (.eq t (.int 0))).value args s none s [] = some true) : ¬ (v = (0 : Int32)) := by
  have q := not_v h
  intro hv
  subst hv
  have q2 := Cond.eq_ints e (Term.int_eval (args := args) (first := s) (o := none) (idx := []) (s := s) 0)
  rw [q2] at q
  simp at q
theorem own_orref {s : State} {args : Array Value} {C f d : String} (h : (Cond.isRef (.static C f d)).value args s none s [] = some true) (hi : (Cond.initializedFor C f d).before args s = true ∨ ((Cond.initialized C).before args s = true ∧ (Cond.laysStatic C f d).before args s = true)) : (Sta s s.heap C f d .null) ∨ (∃ a, Sta s s.heap C f d (.ref a)) := by
  obtain ⟨x, e, hr⟩ := isR_v h
  rcases ref_cases hr with rfl | ⟨a, rfl⟩
  · exact Or.inl (Sta.start e hi)
  · exact Or.inr ⟨a, Sta.start e hi⟩
def own_St (Z : State) (A : Nat → Addr) (K : Nat → ClassId) (cs : Int32) : Prop := ((Sta Z Z.heap y_s1 "INT" y_s0 (.ref (A 0))) ∧ (Exa Z Z.heap (A 0) y_s1) ∧ (Sta Z Z.heap y_s1 "SEQNUM" y_s0 (.ref (A 1))) ∧ (Exa Z Z.heap (A 1) y_s1) ∧ (Sta Z Z.heap y_s1 "LENGTH" y_s0 (.ref (A 2))) ∧ (Exa Z Z.heap (A 2) y_s1) ∧ (Sta Z Z.heap y_s1 "NUMINGROUP" y_s0 (.ref (A 3))) ∧ (Exa Z Z.heap (A 3) y_s1) ∧ True) ∧ ((Sta Z Z.heap y_s1 "FLOAT" y_s0 (.ref (A 4))) ∧ (Exa Z Z.heap (A 4) y_s1) ∧ (Sta Z Z.heap y_s1 "QTY" y_s0 (.ref (A 5))) ∧ (Exa Z Z.heap (A 5) y_s1) ∧ (Sta Z Z.heap y_s1 "PRICE" y_s0 (.ref (A 6))) ∧ (Exa Z Z.heap (A 6) y_s1) ∧ (Sta Z Z.heap y_s1 "AMT" y_s0 (.ref (A 7))) ∧ (Exa Z Z.heap (A 7) y_s1) ∧ True) ∧ ((Sta Z Z.heap y_s1 "PERCENTAGE" y_s0 (.ref (A 8))) ∧ (Exa Z Z.heap (A 8) y_s1) ∧ (Sta Z Z.heap y_s1 "PRICEOFFSET" y_s0 (.ref (A 9))) ∧ (Exa Z Z.heap (A 9) y_s1) ∧ (Sta Z Z.heap y_s1 "CHAR" y_s0 (.ref (A 10))) ∧ (Exa Z Z.heap (A 10) y_s1) ∧ (Sta Z Z.heap y_s1 "BOOLEAN" y_s0 (.ref (A 11))) ∧ (Exa Z Z.heap (A 11) y_s1) ∧ True) ∧ ((Sta Z Z.heap y_s1 "STRING" y_s0 (.ref (A 12))) ∧ (Exa Z Z.heap (A 12) y_s1) ∧ (Sta Z Z.heap y_s1 "MULTIPLEVALUESTRING" y_s0 (.ref (A 13))) ∧ (Exa Z Z.heap (A 13) y_s1) ∧ (Sta Z Z.heap y_s1 "MULTIPLESTRINGVALUE" y_s0 (.ref (A 14))) ∧ (Exa Z Z.heap (A 14) y_s1) ∧ (Sta Z Z.heap y_s1 "MULTIPLECHARVALUE" y_s0 (.ref (A 15))) ∧ (Exa Z Z.heap (A 15) y_s1) ∧ True) ∧ ((Sta Z Z.heap y_s1 "EXCHANGE" y_s0 (.ref (A 16))) ∧ (Exa Z Z.heap (A 16) y_s1) ∧ (Sta Z Z.heap y_s1 "CURRENCY" y_s0 (.ref (A 17))) ∧ (Exa Z Z.heap (A 17) y_s1) ∧ (Sta Z Z.heap y_s1 "COUNTRY" y_s0 (.ref (A 18))) ∧ (Exa Z Z.heap (A 18) y_s1) ∧ (Sta Z Z.heap y_s1 "LOCALMKTDATE" y_s0 (.ref (A 19))) ∧ (Exa Z Z.heap (A 19) y_s1) ∧ True) ∧ ((Sta Z Z.heap y_s1 "UTCDATEONLY" y_s0 (.ref (A 20))) ∧ (Exa Z Z.heap (A 20) y_s1) ∧ (Sta Z Z.heap y_s1 "MONTHYEAR" y_s0 (.ref (A 21))) ∧ (Exa Z Z.heap (A 21) y_s1) ∧ (Sta Z Z.heap y_s1 "UTCTIMESTAMP" y_s0 (.ref (A 22))) ∧ (Exa Z Z.heap (A 22) y_s1) ∧ (Sta Z Z.heap y_s1 "UTCTIMEONLY" y_s0 (.ref (A 23))) ∧ (Exa Z Z.heap (A 23) y_s1) ∧ True) ∧ ((Sta Z Z.heap y_s1 "TZTIMEONLY" y_s0 (.ref (A 24))) ∧ (Exa Z Z.heap (A 24) y_s1) ∧ (Sta Z Z.heap y_s1 "TZTIMESTAMP" y_s0 (.ref (A 25))) ∧ (Exa Z Z.heap (A 25) y_s1) ∧ (Sta Z Z.heap y_s1 "DATA" y_s0 (.ref (A 26))) ∧ (Exa Z Z.heap (A 26) y_s1) ∧ (Sta Z Z.heap y_s1 "XMLDATA" y_s0 (.ref (A 27))) ∧ (Exa Z Z.heap (A 27) y_s1) ∧ True) ∧ ((Sta Z Z.heap y_s2 "COMPACT_STRINGS" "Z" (.int cs)) ∧ (¬ (cs = (0 : Int32))) ∧ ((Sta Z Z.heap "jdk/internal/util/Preconditions" "SIOOBE_FORMATTER" "Ljava/util/function/BiFunction;" .null) ∨ (∃ a, Sta Z Z.heap "jdk/internal/util/Preconditions" "SIOOBE_FORMATTER" "Ljava/util/function/BiFunction;" (.ref a))) ∧ (Fld Z Z.heap (A 0) y_s3 "ordinal" "I" (.int 0)) ∧ (Fld Z Z.heap (A 2) y_s3 "ordinal" "I" (.int 2)) ∧ (Fld Z Z.heap (A 3) y_s3 "ordinal" "I" (.int 3)) ∧ (Fld Z Z.heap (A 26) y_s3 "ordinal" "I" (.int 26)) ∧ (Fld Z Z.heap (A 27) y_s3 "ordinal" "I" (.int 27)) ∧ True) ∧ ((Fld Z Z.heap (A 18) y_s3 "ordinal" "I" (.int 18)) ∧ (Fld Z Z.heap (A 7) y_s3 "ordinal" "I" (.int 7)) ∧ (Fld Z Z.heap (A 11) y_s3 "ordinal" "I" (.int 11)) ∧ (Fld Z Z.heap (A 24) y_s3 "ordinal" "I" (.int 24)) ∧ (Fld Z Z.heap (A 8) y_s3 "ordinal" "I" (.int 8)) ∧ (Fld Z Z.heap (A 1) y_s3 "ordinal" "I" (.int 1)) ∧ (Fld Z Z.heap (A 10) y_s3 "ordinal" "I" (.int 10)) ∧ (Fld Z Z.heap (A 9) y_s3 "ordinal" "I" (.int 9)) ∧ True) ∧ ((Fld Z Z.heap (A 19) y_s3 "ordinal" "I" (.int 19)) ∧ (Fld Z Z.heap (A 16) y_s3 "ordinal" "I" (.int 16)) ∧ (Fld Z Z.heap (A 15) y_s3 "ordinal" "I" (.int 15)) ∧ (Fld Z Z.heap (A 6) y_s3 "ordinal" "I" (.int 6)) ∧ (Fld Z Z.heap (A 20) y_s3 "ordinal" "I" (.int 20)) ∧ (Fld Z Z.heap (A 23) y_s3 "ordinal" "I" (.int 23)) ∧ (Fld Z Z.heap (A 13) y_s3 "ordinal" "I" (.int 13)) ∧ (Fld Z Z.heap (A 4) y_s3 "ordinal" "I" (.int 4)) ∧ True) ∧ ((Fld Z Z.heap (A 22) y_s3 "ordinal" "I" (.int 22)) ∧ (Fld Z Z.heap (A 17) y_s3 "ordinal" "I" (.int 17)) ∧ (Fld Z Z.heap (A 14) y_s3 "ordinal" "I" (.int 14)) ∧ (Fld Z Z.heap (A 5) y_s3 "ordinal" "I" (.int 5)) ∧ (Fld Z Z.heap (A 12) y_s3 "ordinal" "I" (.int 12)) ∧ (Fld Z Z.heap (A 25) y_s3 "ordinal" "I" (.int 25)) ∧ (Fld Z Z.heap (A 21) y_s3 "ordinal" "I" (.int 21)) ∧ True) ∧ True
theorem y0_0 : decode method_2_code 0 = .ok (.iload_n 0, 1) := by decide +kernel
theorem y0_1 : decode method_2_code 1 = .ok (.tableswitch 231 0 26 #[123, 127, 131, 135, 139, 143, 147, 151, 155, 159, 163, 167, 171, 175, 179, 183, 187, 191, 195, 199, 203, 207, 211, 215, 219, 223, 227], 123) := by decide +kernel
theorem y0_124 : decode method_2_code 124 = .ok (.getstatic 7, 3) := by decide +kernel
theorem y0_127 : decode method_2_code 127 = .ok (.areturn, 1) := by decide +kernel
theorem y0_128 : decode method_2_code 128 = .ok (.getstatic 13, 3) := by decide +kernel
theorem y0_131 : decode method_2_code 131 = .ok (.areturn, 1) := by decide +kernel
theorem y0_132 : decode method_2_code 132 = .ok (.getstatic 16, 3) := by decide +kernel
theorem y0_135 : decode method_2_code 135 = .ok (.areturn, 1) := by decide +kernel
theorem y0_136 : decode method_2_code 136 = .ok (.getstatic 19, 3) := by decide +kernel
theorem y0_139 : decode method_2_code 139 = .ok (.areturn, 1) := by decide +kernel
theorem y0_140 : decode method_2_code 140 = .ok (.getstatic 22, 3) := by decide +kernel
theorem y0_143 : decode method_2_code 143 = .ok (.areturn, 1) := by decide +kernel
theorem y0_144 : decode method_2_code 144 = .ok (.getstatic 25, 3) := by decide +kernel
theorem y0_147 : decode method_2_code 147 = .ok (.areturn, 1) := by decide +kernel
theorem y0_148 : decode method_2_code 148 = .ok (.getstatic 28, 3) := by decide +kernel
theorem y0_151 : decode method_2_code 151 = .ok (.areturn, 1) := by decide +kernel
theorem y0_152 : decode method_2_code 152 = .ok (.getstatic 31, 3) := by decide +kernel
theorem y0_155 : decode method_2_code 155 = .ok (.areturn, 1) := by decide +kernel
theorem y0_156 : decode method_2_code 156 = .ok (.getstatic 34, 3) := by decide +kernel
theorem y0_159 : decode method_2_code 159 = .ok (.areturn, 1) := by decide +kernel
theorem y0_160 : decode method_2_code 160 = .ok (.getstatic 37, 3) := by decide +kernel
theorem y0_163 : decode method_2_code 163 = .ok (.areturn, 1) := by decide +kernel
theorem y0_164 : decode method_2_code 164 = .ok (.getstatic 40, 3) := by decide +kernel
theorem y0_167 : decode method_2_code 167 = .ok (.areturn, 1) := by decide +kernel
theorem y0_168 : decode method_2_code 168 = .ok (.getstatic 43, 3) := by decide +kernel
theorem y0_171 : decode method_2_code 171 = .ok (.areturn, 1) := by decide +kernel
theorem y0_172 : decode method_2_code 172 = .ok (.getstatic 46, 3) := by decide +kernel
theorem y0_175 : decode method_2_code 175 = .ok (.areturn, 1) := by decide +kernel
theorem y0_176 : decode method_2_code 176 = .ok (.getstatic 49, 3) := by decide +kernel
theorem y0_179 : decode method_2_code 179 = .ok (.areturn, 1) := by decide +kernel
theorem y0_180 : decode method_2_code 180 = .ok (.getstatic 52, 3) := by decide +kernel
theorem y0_183 : decode method_2_code 183 = .ok (.areturn, 1) := by decide +kernel
theorem y0_184 : decode method_2_code 184 = .ok (.getstatic 55, 3) := by decide +kernel
theorem y0_187 : decode method_2_code 187 = .ok (.areturn, 1) := by decide +kernel
theorem y0_188 : decode method_2_code 188 = .ok (.getstatic 58, 3) := by decide +kernel
theorem y0_191 : decode method_2_code 191 = .ok (.areturn, 1) := by decide +kernel
theorem y0_192 : decode method_2_code 192 = .ok (.getstatic 61, 3) := by decide +kernel
theorem y0_195 : decode method_2_code 195 = .ok (.areturn, 1) := by decide +kernel
theorem y0_196 : decode method_2_code 196 = .ok (.getstatic 64, 3) := by decide +kernel
theorem y0_199 : decode method_2_code 199 = .ok (.areturn, 1) := by decide +kernel
theorem y0_200 : decode method_2_code 200 = .ok (.getstatic 67, 3) := by decide +kernel
theorem y0_203 : decode method_2_code 203 = .ok (.areturn, 1) := by decide +kernel
theorem y0_204 : decode method_2_code 204 = .ok (.getstatic 70, 3) := by decide +kernel
theorem y0_207 : decode method_2_code 207 = .ok (.areturn, 1) := by decide +kernel
theorem y0_208 : decode method_2_code 208 = .ok (.getstatic 73, 3) := by decide +kernel
theorem y0_211 : decode method_2_code 211 = .ok (.areturn, 1) := by decide +kernel
theorem y0_212 : decode method_2_code 212 = .ok (.getstatic 76, 3) := by decide +kernel
theorem y0_215 : decode method_2_code 215 = .ok (.areturn, 1) := by decide +kernel
theorem y0_216 : decode method_2_code 216 = .ok (.getstatic 79, 3) := by decide +kernel
theorem y0_219 : decode method_2_code 219 = .ok (.areturn, 1) := by decide +kernel
theorem y0_220 : decode method_2_code 220 = .ok (.getstatic 82, 3) := by decide +kernel
theorem y0_223 : decode method_2_code 223 = .ok (.areturn, 1) := by decide +kernel
theorem y0_224 : decode method_2_code 224 = .ok (.getstatic 85, 3) := by decide +kernel
theorem y0_227 : decode method_2_code 227 = .ok (.areturn, 1) := by decide +kernel
theorem y0_228 : decode method_2_code 228 = .ok (.getstatic 88, 3) := by decide +kernel
theorem y0_231 : decode method_2_code 231 = .ok (.areturn, 1) := by decide +kernel
theorem y0_232 : decode method_2_code 232 = .ok (.getstatic 91, 3) := by decide +kernel
theorem y0_235 : decode method_2_code 235 = .ok (.areturn, 1) := by decide +kernel
theorem own_pn0 : plainName "com/example/tallywire/tallywire/wire/FieldTypeIsLengthPinLaw" = true := by first | (simp [plainName, overriddenIn]; done) | decide +kernel
theorem rmPick (l : Launch) (Z : State) (a0 : Array Value) (hw : ∀ d ∈ tables_1, d.before a0 Z = true) (ws : List Jvm.Cond) (h0 : Heap) (n0 : Nat) (p1 : Int32) (A : Nat → Addr) (K : Nat → ClassId) (cs : Int32) (z1 : Int32) (ra : Addr)  (EN : own_St Z A K cs) (gI : ∃ n, n < 28 ∧ z1 = Int32.ofNat n) (gA : ra = A z1.toNatClampNeg) (OL0 : Old Z n0 h0) :
    own_MF l Z own_m5 method_2_code 1 (some (.object y_s1)) ws (Room.mk 0 0 0 0) #[(.int z1)] h0 (PQ (some (.ref ra)) h0 n0) := by
  refine MetFree.of_bodySF (plainFor_of_name own_pn0) hisR ?_
  intro p e s m args below meth c s₁ Bd hml0 hP hK
  obtain ⟨rfl, hZ, hh⟩ := hP
  have hx := Bd.exec
  have hby := Bd.bytes
  have hml : c.maxLocals = 1 := hml0
  have hown : s.vm.findClass "com/example/tallywire/tallywire/wire/FieldTypeIsLengthPinLaw" = some m.cls := findClass_of_methodNamed Bd.named
  have hnm := (name_of_methodNamed Bd.named Bd.method).1
  have X0 : Stand p l e (Room.mk 0 0 0 0) s m #[(.int z1)] below meth c s₁ [] 0 0 := Stand.of_body Bd
  have e0 : s₁.heap = h0 := by rw [← hh, Bd.state]; rfl
  have N0 := Fr.nil n0
  have pre0 : own_P p e below s₁ m 0 #[.val (.int z1)] [] s₁ #[(.int z1)] 1 := fun t k => castTop (by first | (simp [entryFrame, mkF, argsToLocals, Value.category, maxLocals]; done) | rfl) k
  have KK0 : Keep h0 h0 [] := Keep.refl _ _
  have z2 : own_P p e below s₁ m 1 #[.val (.int z1)] [(.int z1)] s₁ #[(.int z1)] 1 := fun t k => pre0 t (by
    show own_Y p e below s₁ m 0 #[.val (.int z1)] [] _
    refine XS.iloadN X0.here hx rfl (hb hby y0_0) rfl ?_
    exact k)
  obtain ⟨z1n, z1o, z0⟩ := gI
  match z1n, z1o, z0 with
  | 0, _, z0 =>
    obtain ⟨z3, z4, z1p, z1q⟩ := getS2 X0 hx hZ hown (host := "") (Or.inl (own_W hw 5 rfl)) Via.refl e0 (EN.1.1.ext OL0.2) (g := (mkF m 124 #[.val (.int 0)] [])) rfl (hb hby y0_124)
    obtain ⟨fs, hr, hrun, hended, hW, hsame⟩ := z4.leave (v := some (.ref (A 0))) (fun h => by rw [Bd.returns] at h; cases h)
    refine ⟨_, _, z2 _ ?_, hrun, hended, _, _, rfl, ?_, ⟨_, rfl⟩, hW, hsame.mono (by decide) (by decide)⟩
    · show own_Y p e below s₁ m 1 #[.val (.int z1)] [(.int z1)] _
      rw [z0]
      show own_Y p e below s₁ m 1 #[.val (.int 0)] [(.int 0)] _
      refine XS.tswIn X0.here hx rfl (pc0 := 1) (pc' := 124) rfl (hb hby y0_1) rfl (by decide) (o := 123) (by decide) (by decide) (by decide) ?_
      show own_Y p e below s₁ m 124 #[.val (.int 0)] [] _
      refine z1q _ ?_
      show own_Y p e below z3 m 127 #[.val (.int 0)] [(.ref (A 0))] _
      exact retOut z4 hx Bd.returns rfl (Or.inr (Or.inr (Or.inr (Or.inr ⟨rfl, rfl, rfl⟩)))) (hb hby y0_127) hr
    · show PQ (some (.ref ra)) h0 n0 _ z3.heap _
      rw [z1p]
      exact ⟨by rw [gA, z0]; exact congrArg (fun z => some (Value.ref (A z))) (by decide), N0, rfl⟩
  | 1, _, z0 =>
    obtain ⟨z5, z6, z1r, z1s⟩ := getS2 X0 hx hZ hown (host := "") (Or.inl (own_W hw 156 rfl)) Via.refl e0 (EN.1.2.2.1.ext OL0.2) (g := (mkF m 128 #[.val (.int 1)] [])) rfl (hb hby y0_128)
    obtain ⟨fs, hr, hrun, hended, hW, hsame⟩ := z6.leave (v := some (.ref (A 1))) (fun h => by rw [Bd.returns] at h; cases h)
    refine ⟨_, _, z2 _ ?_, hrun, hended, _, _, rfl, ?_, ⟨_, rfl⟩, hW, hsame.mono (by decide) (by decide)⟩
    · show own_Y p e below s₁ m 1 #[.val (.int z1)] [(.int z1)] _
      rw [z0]
      show own_Y p e below s₁ m 1 #[.val (.int 1)] [(.int 1)] _
      refine XS.tswIn X0.here hx rfl (pc0 := 1) (pc' := 128) rfl (hb hby y0_1) rfl (by decide) (o := 127) (by decide) (by decide) (by decide) ?_
      show own_Y p e below s₁ m 128 #[.val (.int 1)] [] _
      refine z1s _ ?_
      show own_Y p e below z5 m 131 #[.val (.int 1)] [(.ref (A 1))] _
      exact retOut z6 hx Bd.returns rfl (Or.inr (Or.inr (Or.inr (Or.inr ⟨rfl, rfl, rfl⟩)))) (hb hby y0_131) hr
    · show PQ (some (.ref ra)) h0 n0 _ z5.heap _
      rw [z1r]
      exact ⟨by rw [gA, z0]; exact congrArg (fun z => some (Value.ref (A z))) (by decide), N0, rfl⟩
  | 2, _, z0 =>
    obtain ⟨z7, z8, z1t, z1u⟩ := getS2 X0 hx hZ hown (host := "") (Or.inl (own_W hw 124 rfl)) Via.refl e0 (EN.1.2.2.2.2.1.ext OL0.2) (g := (mkF m 132 #[.val (.int 2)] [])) rfl (hb hby y0_132)
    obtain ⟨fs, hr, hrun, hended, hW, hsame⟩ := z8.leave (v := some (.ref (A 2))) (fun h => by rw [Bd.returns] at h; cases h)
    refine ⟨_, _, z2 _ ?_, hrun, hended, _, _, rfl, ?_, ⟨_, rfl⟩, hW, hsame.mono (by decide) (by decide)⟩
    · show own_Y p e below s₁ m 1 #[.val (.int z1)] [(.int z1)] _
      rw [z0]
      show own_Y p e below s₁ m 1 #[.val (.int 2)] [(.int 2)] _
      refine XS.tswIn X0.here hx rfl (pc0 := 1) (pc' := 132) rfl (hb hby y0_1) rfl (by decide) (o := 131) (by decide) (by decide) (by decide) ?_
      show own_Y p e below s₁ m 132 #[.val (.int 2)] [] _
      refine z1u _ ?_
      show own_Y p e below z7 m 135 #[.val (.int 2)] [(.ref (A 2))] _
      exact retOut z8 hx Bd.returns rfl (Or.inr (Or.inr (Or.inr (Or.inr ⟨rfl, rfl, rfl⟩)))) (hb hby y0_135) hr
    · show PQ (some (.ref ra)) h0 n0 _ z7.heap _
      rw [z1t]
      exact ⟨by rw [gA, z0]; exact congrArg (fun z => some (Value.ref (A z))) (by decide), N0, rfl⟩
  | 3, _, z0 =>
    obtain ⟨z9, za, z1v, z1w⟩ := getS2 X0 hx hZ hown (host := "") (Or.inl (own_W hw 95 rfl)) Via.refl e0 (EN.1.2.2.2.2.2.2.1.ext OL0.2) (g := (mkF m 136 #[.val (.int 3)] [])) rfl (hb hby y0_136)
    obtain ⟨fs, hr, hrun, hended, hW, hsame⟩ := za.leave (v := some (.ref (A 3))) (fun h => by rw [Bd.returns] at h; cases h)
    refine ⟨_, _, z2 _ ?_, hrun, hended, _, _, rfl, ?_, ⟨_, rfl⟩, hW, hsame.mono (by decide) (by decide)⟩
    · show own_Y p e below s₁ m 1 #[.val (.int z1)] [(.int z1)] _
      rw [z0]
      show own_Y p e below s₁ m 1 #[.val (.int 3)] [(.int 3)] _
      refine XS.tswIn X0.here hx rfl (pc0 := 1) (pc' := 136) rfl (hb hby y0_1) rfl (by decide) (o := 135) (by decide) (by decide) (by decide) ?_
      show own_Y p e below s₁ m 136 #[.val (.int 3)] [] _
      refine z1w _ ?_
      show own_Y p e below z9 m 139 #[.val (.int 3)] [(.ref (A 3))] _
      exact retOut za hx Bd.returns rfl (Or.inr (Or.inr (Or.inr (Or.inr ⟨rfl, rfl, rfl⟩)))) (hb hby y0_139) hr
    · show PQ (some (.ref ra)) h0 n0 _ z9.heap _
      rw [z1v]
      exact ⟨by rw [gA, z0]; exact congrArg (fun z => some (Value.ref (A z))) (by decide), N0, rfl⟩
  | 4, _, z0 =>
    obtain ⟨zb, zc, z1x, z1y⟩ := getS2 X0 hx hZ hown (host := "") (Or.inl (own_W hw 185 rfl)) Via.refl e0 (EN.2.1.1.ext OL0.2) (g := (mkF m 140 #[.val (.int 4)] [])) rfl (hb hby y0_140)
    obtain ⟨fs, hr, hrun, hended, hW, hsame⟩ := zc.leave (v := some (.ref (A 4))) (fun h => by rw [Bd.returns] at h; cases h)
    refine ⟨_, _, z2 _ ?_, hrun, hended, _, _, rfl, ?_, ⟨_, rfl⟩, hW, hsame.mono (by decide) (by decide)⟩
    · show own_Y p e below s₁ m 1 #[.val (.int z1)] [(.int z1)] _
      rw [z0]
      show own_Y p e below s₁ m 1 #[.val (.int 4)] [(.int 4)] _
      refine XS.tswIn X0.here hx rfl (pc0 := 1) (pc' := 140) rfl (hb hby y0_1) rfl (by decide) (o := 139) (by decide) (by decide) (by decide) ?_
      show own_Y p e below s₁ m 140 #[.val (.int 4)] [] _
      refine z1y _ ?_
      show own_Y p e below zb m 143 #[.val (.int 4)] [(.ref (A 4))] _
      exact retOut zc hx Bd.returns rfl (Or.inr (Or.inr (Or.inr (Or.inr ⟨rfl, rfl, rfl⟩)))) (hb hby y0_143) hr
    · show PQ (some (.ref ra)) h0 n0 _ zb.heap _
      rw [z1x]
      exact ⟨by rw [gA, z0]; exact congrArg (fun z => some (Value.ref (A z))) (by decide), N0, rfl⟩
  | 5, _, z0 =>
    obtain ⟨zd, ze, z1z, z20⟩ := getS2 X0 hx hZ hown (host := "") (Or.inl (own_W hw 196 rfl)) Via.refl e0 (EN.2.1.2.2.1.ext OL0.2) (g := (mkF m 144 #[.val (.int 5)] [])) rfl (hb hby y0_144)
    obtain ⟨fs, hr, hrun, hended, hW, hsame⟩ := ze.leave (v := some (.ref (A 5))) (fun h => by rw [Bd.returns] at h; cases h)
    refine ⟨_, _, z2 _ ?_, hrun, hended, _, _, rfl, ?_, ⟨_, rfl⟩, hW, hsame.mono (by decide) (by decide)⟩
    · show own_Y p e below s₁ m 1 #[.val (.int z1)] [(.int z1)] _
      rw [z0]
      show own_Y p e below s₁ m 1 #[.val (.int 5)] [(.int 5)] _
      refine XS.tswIn X0.here hx rfl (pc0 := 1) (pc' := 144) rfl (hb hby y0_1) rfl (by decide) (o := 143) (by decide) (by decide) (by decide) ?_
      show own_Y p e below s₁ m 144 #[.val (.int 5)] [] _
      refine z20 _ ?_
      show own_Y p e below zd m 147 #[.val (.int 5)] [(.ref (A 5))] _
      exact retOut ze hx Bd.returns rfl (Or.inr (Or.inr (Or.inr (Or.inr ⟨rfl, rfl, rfl⟩)))) (hb hby y0_147) hr
    · show PQ (some (.ref ra)) h0 n0 _ zd.heap _
      rw [z1z]
      exact ⟨by rw [gA, z0]; exact congrArg (fun z => some (Value.ref (A z))) (by decide), N0, rfl⟩
  | 6, _, z0 =>
    obtain ⟨zf, zg, z21, z22⟩ := getS2 X0 hx hZ hown (host := "") (Or.inl (own_W hw 177 rfl)) Via.refl e0 (EN.2.1.2.2.2.2.1.ext OL0.2) (g := (mkF m 148 #[.val (.int 6)] [])) rfl (hb hby y0_148)
    obtain ⟨fs, hr, hrun, hended, hW, hsame⟩ := zg.leave (v := some (.ref (A 6))) (fun h => by rw [Bd.returns] at h; cases h)
    refine ⟨_, _, z2 _ ?_, hrun, hended, _, _, rfl, ?_, ⟨_, rfl⟩, hW, hsame.mono (by decide) (by decide)⟩
    · show own_Y p e below s₁ m 1 #[.val (.int z1)] [(.int z1)] _
      rw [z0]
      show own_Y p e below s₁ m 1 #[.val (.int 6)] [(.int 6)] _
      refine XS.tswIn X0.here hx rfl (pc0 := 1) (pc' := 148) rfl (hb hby y0_1) rfl (by decide) (o := 147) (by decide) (by decide) (by decide) ?_
      show own_Y p e below s₁ m 148 #[.val (.int 6)] [] _
      refine z22 _ ?_
      show own_Y p e below zf m 151 #[.val (.int 6)] [(.ref (A 6))] _
      exact retOut zg hx Bd.returns rfl (Or.inr (Or.inr (Or.inr (Or.inr ⟨rfl, rfl, rfl⟩)))) (hb hby y0_151) hr
    · show PQ (some (.ref ra)) h0 n0 _ zf.heap _
      rw [z21]
      exact ⟨by rw [gA, z0]; exact congrArg (fun z => some (Value.ref (A z))) (by decide), N0, rfl⟩
  | 7, _, z0 =>
    obtain ⟨zh, zi, z23, z24⟩ := getS2 X0 hx hZ hown (host := "") (Or.inl (own_W hw 116 rfl)) Via.refl e0 (EN.2.1.2.2.2.2.2.2.1.ext OL0.2) (g := (mkF m 152 #[.val (.int 7)] [])) rfl (hb hby y0_152)
    obtain ⟨fs, hr, hrun, hended, hW, hsame⟩ := zi.leave (v := some (.ref (A 7))) (fun h => by rw [Bd.returns] at h; cases h)
    refine ⟨_, _, z2 _ ?_, hrun, hended, _, _, rfl, ?_, ⟨_, rfl⟩, hW, hsame.mono (by decide) (by decide)⟩
    · show own_Y p e below s₁ m 1 #[.val (.int z1)] [(.int z1)] _
      rw [z0]
      show own_Y p e below s₁ m 1 #[.val (.int 7)] [(.int 7)] _
      refine XS.tswIn X0.here hx rfl (pc0 := 1) (pc' := 152) rfl (hb hby y0_1) rfl (by decide) (o := 151) (by decide) (by decide) (by decide) ?_
      show own_Y p e below s₁ m 152 #[.val (.int 7)] [] _
      refine z24 _ ?_
      show own_Y p e below zh m 155 #[.val (.int 7)] [(.ref (A 7))] _
      exact retOut zi hx Bd.returns rfl (Or.inr (Or.inr (Or.inr (Or.inr ⟨rfl, rfl, rfl⟩)))) (hb hby y0_155) hr
    · show PQ (some (.ref ra)) h0 n0 _ zh.heap _
      rw [z23]
      exact ⟨by rw [gA, z0]; exact congrArg (fun z => some (Value.ref (A z))) (by decide), N0, rfl⟩
  | 8, _, z0 =>
    obtain ⟨zj, zk, z25, z26⟩ := getS2 X0 hx hZ hown (host := "") (Or.inl (own_W hw 154 rfl)) Via.refl e0 (EN.2.2.1.1.ext OL0.2) (g := (mkF m 156 #[.val (.int 8)] [])) rfl (hb hby y0_156)
    obtain ⟨fs, hr, hrun, hended, hW, hsame⟩ := zk.leave (v := some (.ref (A 8))) (fun h => by rw [Bd.returns] at h; cases h)
    refine ⟨_, _, z2 _ ?_, hrun, hended, _, _, rfl, ?_, ⟨_, rfl⟩, hW, hsame.mono (by decide) (by decide)⟩
    · show own_Y p e below s₁ m 1 #[.val (.int z1)] [(.int z1)] _
      rw [z0]
      show own_Y p e below s₁ m 1 #[.val (.int 8)] [(.int 8)] _
      refine XS.tswIn X0.here hx rfl (pc0 := 1) (pc' := 156) rfl (hb hby y0_1) rfl (by decide) (o := 155) (by decide) (by decide) (by decide) ?_
      show own_Y p e below s₁ m 156 #[.val (.int 8)] [] _
      refine z26 _ ?_
      show own_Y p e below zj m 159 #[.val (.int 8)] [(.ref (A 8))] _
      exact retOut zk hx Bd.returns rfl (Or.inr (Or.inr (Or.inr (Or.inr ⟨rfl, rfl, rfl⟩)))) (hb hby y0_159) hr
    · show PQ (some (.ref ra)) h0 n0 _ zj.heap _
      rw [z25]
      exact ⟨by rw [gA, z0]; exact congrArg (fun z => some (Value.ref (A z))) (by decide), N0, rfl⟩
  | 9, _, z0 =>
    obtain ⟨zl, zm, z27, z28⟩ := getS2 X0 hx hZ hown (host := "") (Or.inl (own_W hw 160 rfl)) Via.refl e0 (EN.2.2.1.2.2.1.ext OL0.2) (g := (mkF m 160 #[.val (.int 9)] [])) rfl (hb hby y0_160)
    obtain ⟨fs, hr, hrun, hended, hW, hsame⟩ := zm.leave (v := some (.ref (A 9))) (fun h => by rw [Bd.returns] at h; cases h)
    refine ⟨_, _, z2 _ ?_, hrun, hended, _, _, rfl, ?_, ⟨_, rfl⟩, hW, hsame.mono (by decide) (by decide)⟩
    · show own_Y p e below s₁ m 1 #[.val (.int z1)] [(.int z1)] _
      rw [z0]
      show own_Y p e below s₁ m 1 #[.val (.int 9)] [(.int 9)] _
      refine XS.tswIn X0.here hx rfl (pc0 := 1) (pc' := 160) rfl (hb hby y0_1) rfl (by decide) (o := 159) (by decide) (by decide) (by decide) ?_
      show own_Y p e below s₁ m 160 #[.val (.int 9)] [] _
      refine z28 _ ?_
      show own_Y p e below zl m 163 #[.val (.int 9)] [(.ref (A 9))] _
      exact retOut zm hx Bd.returns rfl (Or.inr (Or.inr (Or.inr (Or.inr ⟨rfl, rfl, rfl⟩)))) (hb hby y0_163) hr
    · show PQ (some (.ref ra)) h0 n0 _ zl.heap _
      rw [z27]
      exact ⟨by rw [gA, z0]; exact congrArg (fun z => some (Value.ref (A z))) (by decide), N0, rfl⟩
  | 10, _, z0 =>
    obtain ⟨zn, zo, z29, z2a⟩ := getS2 X0 hx hZ hown (host := "") (Or.inl (own_W hw 158 rfl)) Via.refl e0 (EN.2.2.1.2.2.2.2.1.ext OL0.2) (g := (mkF m 164 #[.val (.int 10)] [])) rfl (hb hby y0_164)
    obtain ⟨fs, hr, hrun, hended, hW, hsame⟩ := zo.leave (v := some (.ref (A 10))) (fun h => by rw [Bd.returns] at h; cases h)
    refine ⟨_, _, z2 _ ?_, hrun, hended, _, _, rfl, ?_, ⟨_, rfl⟩, hW, hsame.mono (by decide) (by decide)⟩
    · show own_Y p e below s₁ m 1 #[.val (.int z1)] [(.int z1)] _
      rw [z0]
      show own_Y p e below s₁ m 1 #[.val (.int 10)] [(.int 10)] _
      refine XS.tswIn X0.here hx rfl (pc0 := 1) (pc' := 164) rfl (hb hby y0_1) rfl (by decide) (o := 163) (by decide) (by decide) (by decide) ?_
      show own_Y p e below s₁ m 164 #[.val (.int 10)] [] _
      refine z2a _ ?_
      show own_Y p e below zn m 167 #[.val (.int 10)] [(.ref (A 10))] _
      exact retOut zo hx Bd.returns rfl (Or.inr (Or.inr (Or.inr (Or.inr ⟨rfl, rfl, rfl⟩)))) (hb hby y0_167) hr
    · show PQ (some (.ref ra)) h0 n0 _ zn.heap _
      rw [z29]
      exact ⟨by rw [gA, z0]; exact congrArg (fun z => some (Value.ref (A z))) (by decide), N0, rfl⟩
  | 11, _, z0 =>
    obtain ⟨zp, zq, z2b, z2c⟩ := getS2 X0 hx hZ hown (host := "") (Or.inl (own_W hw 126 rfl)) Via.refl e0 (EN.2.2.1.2.2.2.2.2.2.1.ext OL0.2) (g := (mkF m 168 #[.val (.int 11)] [])) rfl (hb hby y0_168)
    obtain ⟨fs, hr, hrun, hended, hW, hsame⟩ := zq.leave (v := some (.ref (A 11))) (fun h => by rw [Bd.returns] at h; cases h)
    refine ⟨_, _, z2 _ ?_, hrun, hended, _, _, rfl, ?_, ⟨_, rfl⟩, hW, hsame.mono (by decide) (by decide)⟩
    · show own_Y p e below s₁ m 1 #[.val (.int z1)] [(.int z1)] _
      rw [z0]
      show own_Y p e below s₁ m 1 #[.val (.int 11)] [(.int 11)] _
      refine XS.tswIn X0.here hx rfl (pc0 := 1) (pc' := 168) rfl (hb hby y0_1) rfl (by decide) (o := 167) (by decide) (by decide) (by decide) ?_
      show own_Y p e below s₁ m 168 #[.val (.int 11)] [] _
      refine z2c _ ?_
      show own_Y p e below zp m 171 #[.val (.int 11)] [(.ref (A 11))] _
      exact retOut zq hx Bd.returns rfl (Or.inr (Or.inr (Or.inr (Or.inr ⟨rfl, rfl, rfl⟩)))) (hb hby y0_171) hr
    · show PQ (some (.ref ra)) h0 n0 _ zp.heap _
      rw [z2b]
      exact ⟨by rw [gA, z0]; exact congrArg (fun z => some (Value.ref (A z))) (by decide), N0, rfl⟩
  | 12, _, z0 =>
    obtain ⟨zr, zs, z2d, z2e⟩ := getS2 X0 hx hZ hown (host := "") (Or.inl (own_W hw 198 rfl)) Via.refl e0 (EN.2.2.2.1.1.ext OL0.2) (g := (mkF m 172 #[.val (.int 12)] [])) rfl (hb hby y0_172)
    obtain ⟨fs, hr, hrun, hended, hW, hsame⟩ := zs.leave (v := some (.ref (A 12))) (fun h => by rw [Bd.returns] at h; cases h)
    refine ⟨_, _, z2 _ ?_, hrun, hended, _, _, rfl, ?_, ⟨_, rfl⟩, hW, hsame.mono (by decide) (by decide)⟩
    · show own_Y p e below s₁ m 1 #[.val (.int z1)] [(.int z1)] _
      rw [z0]
      show own_Y p e below s₁ m 1 #[.val (.int 12)] [(.int 12)] _
      refine XS.tswIn X0.here hx rfl (pc0 := 1) (pc' := 172) rfl (hb hby y0_1) rfl (by decide) (o := 171) (by decide) (by decide) (by decide) ?_
      show own_Y p e below s₁ m 172 #[.val (.int 12)] [] _
      refine z2e _ ?_
      show own_Y p e below zr m 175 #[.val (.int 12)] [(.ref (A 12))] _
      exact retOut zs hx Bd.returns rfl (Or.inr (Or.inr (Or.inr (Or.inr ⟨rfl, rfl, rfl⟩)))) (hb hby y0_175) hr
    · show PQ (some (.ref ra)) h0 n0 _ zr.heap _
      rw [z2d]
      exact ⟨by rw [gA, z0]; exact congrArg (fun z => some (Value.ref (A z))) (by decide), N0, rfl⟩
  | 13, _, z0 =>
    obtain ⟨zt, zu, z2f, z2g⟩ := getS2 X0 hx hZ hown (host := "") (Or.inl (own_W hw 183 rfl)) Via.refl e0 (EN.2.2.2.1.2.2.1.ext OL0.2) (g := (mkF m 176 #[.val (.int 13)] [])) rfl (hb hby y0_176)
    obtain ⟨fs, hr, hrun, hended, hW, hsame⟩ := zu.leave (v := some (.ref (A 13))) (fun h => by rw [Bd.returns] at h; cases h)
    refine ⟨_, _, z2 _ ?_, hrun, hended, _, _, rfl, ?_, ⟨_, rfl⟩, hW, hsame.mono (by decide) (by decide)⟩
    · show own_Y p e below s₁ m 1 #[.val (.int z1)] [(.int z1)] _
      rw [z0]
      show own_Y p e below s₁ m 1 #[.val (.int 13)] [(.int 13)] _
      refine XS.tswIn X0.here hx rfl (pc0 := 1) (pc' := 176) rfl (hb hby y0_1) rfl (by decide) (o := 175) (by decide) (by decide) (by decide) ?_
      show own_Y p e below s₁ m 176 #[.val (.int 13)] [] _
      refine z2g _ ?_
      show own_Y p e below zt m 179 #[.val (.int 13)] [(.ref (A 13))] _
      exact retOut zu hx Bd.returns rfl (Or.inr (Or.inr (Or.inr (Or.inr ⟨rfl, rfl, rfl⟩)))) (hb hby y0_179) hr
    · show PQ (some (.ref ra)) h0 n0 _ zt.heap _
      rw [z2f]
      exact ⟨by rw [gA, z0]; exact congrArg (fun z => some (Value.ref (A z))) (by decide), N0, rfl⟩
  | 14, _, z0 =>
    obtain ⟨zv, zw, z2h, z2i⟩ := getS2 X0 hx hZ hown (host := "") (Or.inl (own_W hw 194 rfl)) Via.refl e0 (EN.2.2.2.1.2.2.2.2.1.ext OL0.2) (g := (mkF m 180 #[.val (.int 14)] [])) rfl (hb hby y0_180)
    obtain ⟨fs, hr, hrun, hended, hW, hsame⟩ := zw.leave (v := some (.ref (A 14))) (fun h => by rw [Bd.returns] at h; cases h)
    refine ⟨_, _, z2 _ ?_, hrun, hended, _, _, rfl, ?_, ⟨_, rfl⟩, hW, hsame.mono (by decide) (by decide)⟩
    · show own_Y p e below s₁ m 1 #[.val (.int z1)] [(.int z1)] _
      rw [z0]
      show own_Y p e below s₁ m 1 #[.val (.int 14)] [(.int 14)] _
      refine XS.tswIn X0.here hx rfl (pc0 := 1) (pc' := 180) rfl (hb hby y0_1) rfl (by decide) (o := 179) (by decide) (by decide) (by decide) ?_
      show own_Y p e below s₁ m 180 #[.val (.int 14)] [] _
      refine z2i _ ?_
      show own_Y p e below zv m 183 #[.val (.int 14)] [(.ref (A 14))] _
      exact retOut zw hx Bd.returns rfl (Or.inr (Or.inr (Or.inr (Or.inr ⟨rfl, rfl, rfl⟩)))) (hb hby y0_183) hr
    · show PQ (some (.ref ra)) h0 n0 _ zv.heap _
      rw [z2h]
      exact ⟨by rw [gA, z0]; exact congrArg (fun z => some (Value.ref (A z))) (by decide), N0, rfl⟩
  | 15, _, z0 =>
    obtain ⟨zx, zy, z2j, z2k⟩ := getS2 X0 hx hZ hown (host := "") (Or.inl (own_W hw 172 rfl)) Via.refl e0 (EN.2.2.2.1.2.2.2.2.2.2.1.ext OL0.2) (g := (mkF m 184 #[.val (.int 15)] [])) rfl (hb hby y0_184)
    obtain ⟨fs, hr, hrun, hended, hW, hsame⟩ := zy.leave (v := some (.ref (A 15))) (fun h => by rw [Bd.returns] at h; cases h)
    refine ⟨_, _, z2 _ ?_, hrun, hended, _, _, rfl, ?_, ⟨_, rfl⟩, hW, hsame.mono (by decide) (by decide)⟩
    · show own_Y p e below s₁ m 1 #[.val (.int z1)] [(.int z1)] _
      rw [z0]
      show own_Y p e below s₁ m 1 #[.val (.int 15)] [(.int 15)] _
      refine XS.tswIn X0.here hx rfl (pc0 := 1) (pc' := 184) rfl (hb hby y0_1) rfl (by decide) (o := 183) (by decide) (by decide) (by decide) ?_
      show own_Y p e below s₁ m 184 #[.val (.int 15)] [] _
      refine z2k _ ?_
      show own_Y p e below zx m 187 #[.val (.int 15)] [(.ref (A 15))] _
      exact retOut zy hx Bd.returns rfl (Or.inr (Or.inr (Or.inr (Or.inr ⟨rfl, rfl, rfl⟩)))) (hb hby y0_187) hr
    · show PQ (some (.ref ra)) h0 n0 _ zx.heap _
      rw [z2j]
      exact ⟨by rw [gA, z0]; exact congrArg (fun z => some (Value.ref (A z))) (by decide), N0, rfl⟩
  | 16, _, z0 =>
    obtain ⟨zz, z10, z2l, z2m⟩ := getS2 X0 hx hZ hown (host := "") (Or.inl (own_W hw 170 rfl)) Via.refl e0 (EN.2.2.2.2.1.1.ext OL0.2) (g := (mkF m 188 #[.val (.int 16)] [])) rfl (hb hby y0_188)
    obtain ⟨fs, hr, hrun, hended, hW, hsame⟩ := z10.leave (v := some (.ref (A 16))) (fun h => by rw [Bd.returns] at h; cases h)
    refine ⟨_, _, z2 _ ?_, hrun, hended, _, _, rfl, ?_, ⟨_, rfl⟩, hW, hsame.mono (by decide) (by decide)⟩
    · show own_Y p e below s₁ m 1 #[.val (.int z1)] [(.int z1)] _
      rw [z0]
      show own_Y p e below s₁ m 1 #[.val (.int 16)] [(.int 16)] _
      refine XS.tswIn X0.here hx rfl (pc0 := 1) (pc' := 188) rfl (hb hby y0_1) rfl (by decide) (o := 187) (by decide) (by decide) (by decide) ?_
      show own_Y p e below s₁ m 188 #[.val (.int 16)] [] _
      refine z2m _ ?_
      show own_Y p e below zz m 191 #[.val (.int 16)] [(.ref (A 16))] _
      exact retOut z10 hx Bd.returns rfl (Or.inr (Or.inr (Or.inr (Or.inr ⟨rfl, rfl, rfl⟩)))) (hb hby y0_191) hr
    · show PQ (some (.ref ra)) h0 n0 _ zz.heap _
      rw [z2l]
      exact ⟨by rw [gA, z0]; exact congrArg (fun z => some (Value.ref (A z))) (by decide), N0, rfl⟩
  | 17, _, z0 =>
    obtain ⟨z11, z12, z2n, z2o⟩ := getS2 X0 hx hZ hown (host := "") (Or.inl (own_W hw 192 rfl)) Via.refl e0 (EN.2.2.2.2.1.2.2.1.ext OL0.2) (g := (mkF m 192 #[.val (.int 17)] [])) rfl (hb hby y0_192)
    obtain ⟨fs, hr, hrun, hended, hW, hsame⟩ := z12.leave (v := some (.ref (A 17))) (fun h => by rw [Bd.returns] at h; cases h)
    refine ⟨_, _, z2 _ ?_, hrun, hended, _, _, rfl, ?_, ⟨_, rfl⟩, hW, hsame.mono (by decide) (by decide)⟩
    · show own_Y p e below s₁ m 1 #[.val (.int z1)] [(.int z1)] _
      rw [z0]
      show own_Y p e below s₁ m 1 #[.val (.int 17)] [(.int 17)] _
      refine XS.tswIn X0.here hx rfl (pc0 := 1) (pc' := 192) rfl (hb hby y0_1) rfl (by decide) (o := 191) (by decide) (by decide) (by decide) ?_
      show own_Y p e below s₁ m 192 #[.val (.int 17)] [] _
      refine z2o _ ?_
      show own_Y p e below z11 m 195 #[.val (.int 17)] [(.ref (A 17))] _
      exact retOut z12 hx Bd.returns rfl (Or.inr (Or.inr (Or.inr (Or.inr ⟨rfl, rfl, rfl⟩)))) (hb hby y0_195) hr
    · show PQ (some (.ref ra)) h0 n0 _ z11.heap _
      rw [z2n]
      exact ⟨by rw [gA, z0]; exact congrArg (fun z => some (Value.ref (A z))) (by decide), N0, rfl⟩
  | 18, _, z0 =>
    obtain ⟨z13, z14, z2p, z2q⟩ := getS2 X0 hx hZ hown (host := "") (Or.inl (own_W hw 114 rfl)) Via.refl e0 (EN.2.2.2.2.1.2.2.2.2.1.ext OL0.2) (g := (mkF m 196 #[.val (.int 18)] [])) rfl (hb hby y0_196)
    obtain ⟨fs, hr, hrun, hended, hW, hsame⟩ := z14.leave (v := some (.ref (A 18))) (fun h => by rw [Bd.returns] at h; cases h)
    refine ⟨_, _, z2 _ ?_, hrun, hended, _, _, rfl, ?_, ⟨_, rfl⟩, hW, hsame.mono (by decide) (by decide)⟩
    · show own_Y p e below s₁ m 1 #[.val (.int z1)] [(.int z1)] _
      rw [z0]
      show own_Y p e below s₁ m 1 #[.val (.int 18)] [(.int 18)] _
      refine XS.tswIn X0.here hx rfl (pc0 := 1) (pc' := 196) rfl (hb hby y0_1) rfl (by decide) (o := 195) (by decide) (by decide) (by decide) ?_
      show own_Y p e below s₁ m 196 #[.val (.int 18)] [] _
      refine z2q _ ?_
      show own_Y p e below z13 m 199 #[.val (.int 18)] [(.ref (A 18))] _
      exact retOut z14 hx Bd.returns rfl (Or.inr (Or.inr (Or.inr (Or.inr ⟨rfl, rfl, rfl⟩)))) (hb hby y0_199) hr
    · show PQ (some (.ref ra)) h0 n0 _ z13.heap _
      rw [z2p]
      exact ⟨by rw [gA, z0]; exact congrArg (fun z => some (Value.ref (A z))) (by decide), N0, rfl⟩
  | 19, _, z0 =>
    obtain ⟨z15, z16, z2r, z2s⟩ := getS2 X0 hx hZ hown (host := "") (Or.inl (own_W hw 162 rfl)) Via.refl e0 (EN.2.2.2.2.1.2.2.2.2.2.2.1.ext OL0.2) (g := (mkF m 200 #[.val (.int 19)] [])) rfl (hb hby y0_200)
    obtain ⟨fs, hr, hrun, hended, hW, hsame⟩ := z16.leave (v := some (.ref (A 19))) (fun h => by rw [Bd.returns] at h; cases h)
    refine ⟨_, _, z2 _ ?_, hrun, hended, _, _, rfl, ?_, ⟨_, rfl⟩, hW, hsame.mono (by decide) (by decide)⟩
    · show own_Y p e below s₁ m 1 #[.val (.int z1)] [(.int z1)] _
      rw [z0]
      show own_Y p e below s₁ m 1 #[.val (.int 19)] [(.int 19)] _
      refine XS.tswIn X0.here hx rfl (pc0 := 1) (pc' := 200) rfl (hb hby y0_1) rfl (by decide) (o := 199) (by decide) (by decide) (by decide) ?_
      show own_Y p e below s₁ m 200 #[.val (.int 19)] [] _
      refine z2s _ ?_
      show own_Y p e below z15 m 203 #[.val (.int 19)] [(.ref (A 19))] _
      exact retOut z16 hx Bd.returns rfl (Or.inr (Or.inr (Or.inr (Or.inr ⟨rfl, rfl, rfl⟩)))) (hb hby y0_203) hr
    · show PQ (some (.ref ra)) h0 n0 _ z15.heap _
      rw [z2r]
      exact ⟨by rw [gA, z0]; exact congrArg (fun z => some (Value.ref (A z))) (by decide), N0, rfl⟩
  | 20, _, z0 =>
    obtain ⟨z17, z18, z2t, z2u⟩ := getS2 X0 hx hZ hown (host := "") (Or.inl (own_W hw 179 rfl)) Via.refl e0 (EN.2.2.2.2.2.1.1.ext OL0.2) (g := (mkF m 204 #[.val (.int 20)] [])) rfl (hb hby y0_204)
    obtain ⟨fs, hr, hrun, hended, hW, hsame⟩ := z18.leave (v := some (.ref (A 20))) (fun h => by rw [Bd.returns] at h; cases h)
    refine ⟨_, _, z2 _ ?_, hrun, hended, _, _, rfl, ?_, ⟨_, rfl⟩, hW, hsame.mono (by decide) (by decide)⟩
    · show own_Y p e below s₁ m 1 #[.val (.int z1)] [(.int z1)] _
      rw [z0]
      show own_Y p e below s₁ m 1 #[.val (.int 20)] [(.int 20)] _
      refine XS.tswIn X0.here hx rfl (pc0 := 1) (pc' := 204) rfl (hb hby y0_1) rfl (by decide) (o := 203) (by decide) (by decide) (by decide) ?_
      show own_Y p e below s₁ m 204 #[.val (.int 20)] [] _
      refine z2u _ ?_
      show own_Y p e below z17 m 207 #[.val (.int 20)] [(.ref (A 20))] _
      exact retOut z18 hx Bd.returns rfl (Or.inr (Or.inr (Or.inr (Or.inr ⟨rfl, rfl, rfl⟩)))) (hb hby y0_207) hr
    · show PQ (some (.ref ra)) h0 n0 _ z17.heap _
      rw [z2t]
      exact ⟨by rw [gA, z0]; exact congrArg (fun z => some (Value.ref (A z))) (by decide), N0, rfl⟩
  | 21, _, z0 =>
    obtain ⟨z19, z1a, z2v, z2w⟩ := getS2 X0 hx hZ hown (host := "") (Or.inl (own_W hw 202 rfl)) Via.refl e0 (EN.2.2.2.2.2.1.2.2.1.ext OL0.2) (g := (mkF m 208 #[.val (.int 21)] [])) rfl (hb hby y0_208)
    obtain ⟨fs, hr, hrun, hended, hW, hsame⟩ := z1a.leave (v := some (.ref (A 21))) (fun h => by rw [Bd.returns] at h; cases h)
    refine ⟨_, _, z2 _ ?_, hrun, hended, _, _, rfl, ?_, ⟨_, rfl⟩, hW, hsame.mono (by decide) (by decide)⟩
    · show own_Y p e below s₁ m 1 #[.val (.int z1)] [(.int z1)] _
      rw [z0]
      show own_Y p e below s₁ m 1 #[.val (.int 21)] [(.int 21)] _
      refine XS.tswIn X0.here hx rfl (pc0 := 1) (pc' := 208) rfl (hb hby y0_1) rfl (by decide) (o := 207) (by decide) (by decide) (by decide) ?_
      show own_Y p e below s₁ m 208 #[.val (.int 21)] [] _
      refine z2w _ ?_
      show own_Y p e below z19 m 211 #[.val (.int 21)] [(.ref (A 21))] _
      exact retOut z1a hx Bd.returns rfl (Or.inr (Or.inr (Or.inr (Or.inr ⟨rfl, rfl, rfl⟩)))) (hb hby y0_211) hr
    · show PQ (some (.ref ra)) h0 n0 _ z19.heap _
      rw [z2v]
      exact ⟨by rw [gA, z0]; exact congrArg (fun z => some (Value.ref (A z))) (by decide), N0, rfl⟩
  | 22, _, z0 =>
    obtain ⟨z1b, z1c, z2x, z2y⟩ := getS2 X0 hx hZ hown (host := "") (Or.inl (own_W hw 187 rfl)) Via.refl e0 (EN.2.2.2.2.2.1.2.2.2.2.1.ext OL0.2) (g := (mkF m 212 #[.val (.int 22)] [])) rfl (hb hby y0_212)
    obtain ⟨fs, hr, hrun, hended, hW, hsame⟩ := z1c.leave (v := some (.ref (A 22))) (fun h => by rw [Bd.returns] at h; cases h)
    refine ⟨_, _, z2 _ ?_, hrun, hended, _, _, rfl, ?_, ⟨_, rfl⟩, hW, hsame.mono (by decide) (by decide)⟩
    · show own_Y p e below s₁ m 1 #[.val (.int z1)] [(.int z1)] _
      rw [z0]
      show own_Y p e below s₁ m 1 #[.val (.int 22)] [(.int 22)] _
      refine XS.tswIn X0.here hx rfl (pc0 := 1) (pc' := 212) rfl (hb hby y0_1) rfl (by decide) (o := 211) (by decide) (by decide) (by decide) ?_
      show own_Y p e below s₁ m 212 #[.val (.int 22)] [] _
      refine z2y _ ?_
      show own_Y p e below z1b m 215 #[.val (.int 22)] [(.ref (A 22))] _
      exact retOut z1c hx Bd.returns rfl (Or.inr (Or.inr (Or.inr (Or.inr ⟨rfl, rfl, rfl⟩)))) (hb hby y0_215) hr
    · show PQ (some (.ref ra)) h0 n0 _ z1b.heap _
      rw [z2x]
      exact ⟨by rw [gA, z0]; exact congrArg (fun z => some (Value.ref (A z))) (by decide), N0, rfl⟩
  | 23, _, z0 =>
    obtain ⟨z1d, z1e, z2z, z30⟩ := getS2 X0 hx hZ hown (host := "") (Or.inl (own_W hw 181 rfl)) Via.refl e0 (EN.2.2.2.2.2.1.2.2.2.2.2.2.1.ext OL0.2) (g := (mkF m 216 #[.val (.int 23)] [])) rfl (hb hby y0_216)
    obtain ⟨fs, hr, hrun, hended, hW, hsame⟩ := z1e.leave (v := some (.ref (A 23))) (fun h => by rw [Bd.returns] at h; cases h)
    refine ⟨_, _, z2 _ ?_, hrun, hended, _, _, rfl, ?_, ⟨_, rfl⟩, hW, hsame.mono (by decide) (by decide)⟩
    · show own_Y p e below s₁ m 1 #[.val (.int z1)] [(.int z1)] _
      rw [z0]
      show own_Y p e below s₁ m 1 #[.val (.int 23)] [(.int 23)] _
      refine XS.tswIn X0.here hx rfl (pc0 := 1) (pc' := 216) rfl (hb hby y0_1) rfl (by decide) (o := 215) (by decide) (by decide) (by decide) ?_
      show own_Y p e below s₁ m 216 #[.val (.int 23)] [] _
      refine z30 _ ?_
      show own_Y p e below z1d m 219 #[.val (.int 23)] [(.ref (A 23))] _
      exact retOut z1e hx Bd.returns rfl (Or.inr (Or.inr (Or.inr (Or.inr ⟨rfl, rfl, rfl⟩)))) (hb hby y0_219) hr
    · show PQ (some (.ref ra)) h0 n0 _ z1d.heap _
      rw [z2z]
      exact ⟨by rw [gA, z0]; exact congrArg (fun z => some (Value.ref (A z))) (by decide), N0, rfl⟩
  | 24, _, z0 =>
    obtain ⟨z1f, z1g, z31, z32⟩ := getS2 X0 hx hZ hown (host := "") (Or.inl (own_W hw 140 rfl)) Via.refl e0 (EN.2.2.2.2.2.2.1.1.ext OL0.2) (g := (mkF m 220 #[.val (.int 24)] [])) rfl (hb hby y0_220)
    obtain ⟨fs, hr, hrun, hended, hW, hsame⟩ := z1g.leave (v := some (.ref (A 24))) (fun h => by rw [Bd.returns] at h; cases h)
    refine ⟨_, _, z2 _ ?_, hrun, hended, _, _, rfl, ?_, ⟨_, rfl⟩, hW, hsame.mono (by decide) (by decide)⟩
    · show own_Y p e below s₁ m 1 #[.val (.int z1)] [(.int z1)] _
      rw [z0]
      show own_Y p e below s₁ m 1 #[.val (.int 24)] [(.int 24)] _
      refine XS.tswIn X0.here hx rfl (pc0 := 1) (pc' := 220) rfl (hb hby y0_1) rfl (by decide) (o := 219) (by decide) (by decide) (by decide) ?_
      show own_Y p e below s₁ m 220 #[.val (.int 24)] [] _
      refine z32 _ ?_
      show own_Y p e below z1f m 223 #[.val (.int 24)] [(.ref (A 24))] _
      exact retOut z1g hx Bd.returns rfl (Or.inr (Or.inr (Or.inr (Or.inr ⟨rfl, rfl, rfl⟩)))) (hb hby y0_223) hr
    · show PQ (some (.ref ra)) h0 n0 _ z1f.heap _
      rw [z31]
      exact ⟨by rw [gA, z0]; exact congrArg (fun z => some (Value.ref (A z))) (by decide), N0, rfl⟩
  | 25, _, z0 =>
    obtain ⟨z1h, z1i, z33, z34⟩ := getS2 X0 hx hZ hown (host := "") (Or.inl (own_W hw 200 rfl)) Via.refl e0 (EN.2.2.2.2.2.2.1.2.2.1.ext OL0.2) (g := (mkF m 224 #[.val (.int 25)] [])) rfl (hb hby y0_224)
    obtain ⟨fs, hr, hrun, hended, hW, hsame⟩ := z1i.leave (v := some (.ref (A 25))) (fun h => by rw [Bd.returns] at h; cases h)
    refine ⟨_, _, z2 _ ?_, hrun, hended, _, _, rfl, ?_, ⟨_, rfl⟩, hW, hsame.mono (by decide) (by decide)⟩
    · show own_Y p e below s₁ m 1 #[.val (.int z1)] [(.int z1)] _
      rw [z0]
      show own_Y p e below s₁ m 1 #[.val (.int 25)] [(.int 25)] _
      refine XS.tswIn X0.here hx rfl (pc0 := 1) (pc' := 224) rfl (hb hby y0_1) rfl (by decide) (o := 223) (by decide) (by decide) (by decide) ?_
      show own_Y p e below s₁ m 224 #[.val (.int 25)] [] _
      refine z34 _ ?_
      show own_Y p e below z1h m 227 #[.val (.int 25)] [(.ref (A 25))] _
      exact retOut z1i hx Bd.returns rfl (Or.inr (Or.inr (Or.inr (Or.inr ⟨rfl, rfl, rfl⟩)))) (hb hby y0_227) hr
    · show PQ (some (.ref ra)) h0 n0 _ z1h.heap _
      rw [z33]
      exact ⟨by rw [gA, z0]; exact congrArg (fun z => some (Value.ref (A z))) (by decide), N0, rfl⟩
  | 26, _, z0 =>
    obtain ⟨z1j, z1k, z35, z36⟩ := getS2 X0 hx hZ hown (host := "") (Or.inl (own_W hw 110 rfl)) Via.refl e0 (EN.2.2.2.2.2.2.1.2.2.2.2.1.ext OL0.2) (g := (mkF m 228 #[.val (.int 26)] [])) rfl (hb hby y0_228)
    obtain ⟨fs, hr, hrun, hended, hW, hsame⟩ := z1k.leave (v := some (.ref (A 26))) (fun h => by rw [Bd.returns] at h; cases h)
    refine ⟨_, _, z2 _ ?_, hrun, hended, _, _, rfl, ?_, ⟨_, rfl⟩, hW, hsame.mono (by decide) (by decide)⟩
    · show own_Y p e below s₁ m 1 #[.val (.int z1)] [(.int z1)] _
      rw [z0]
      show own_Y p e below s₁ m 1 #[.val (.int 26)] [(.int 26)] _
      refine XS.tswIn X0.here hx rfl (pc0 := 1) (pc' := 228) rfl (hb hby y0_1) rfl (by decide) (o := 227) (by decide) (by decide) (by decide) ?_
      show own_Y p e below s₁ m 228 #[.val (.int 26)] [] _
      refine z36 _ ?_
      show own_Y p e below z1j m 231 #[.val (.int 26)] [(.ref (A 26))] _
      exact retOut z1k hx Bd.returns rfl (Or.inr (Or.inr (Or.inr (Or.inr ⟨rfl, rfl, rfl⟩)))) (hb hby y0_231) hr
    · show PQ (some (.ref ra)) h0 n0 _ z1j.heap _
      rw [z35]
      exact ⟨by rw [gA, z0]; exact congrArg (fun z => some (Value.ref (A z))) (by decide), N0, rfl⟩
  | 27, _, z0 =>
    obtain ⟨z1l, z1m, z37, z38⟩ := getS2 X0 hx hZ hown (host := "") (Or.inl (own_W hw 112 rfl)) Via.refl e0 (EN.2.2.2.2.2.2.1.2.2.2.2.2.2.1.ext OL0.2) (g := (mkF m 232 #[.val (.int 27)] [])) rfl (hb hby y0_232)
    obtain ⟨fs, hr, hrun, hended, hW, hsame⟩ := z1m.leave (v := some (.ref (A 27))) (fun h => by rw [Bd.returns] at h; cases h)
    refine ⟨_, _, z2 _ ?_, hrun, hended, _, _, rfl, ?_, ⟨_, rfl⟩, hW, hsame.mono (by decide) (by decide)⟩
    · show own_Y p e below s₁ m 1 #[.val (.int z1)] [(.int z1)] _
      rw [z0]
      show own_Y p e below s₁ m 1 #[.val (.int 27)] [(.int 27)] _
      refine XS.tswOut X0.here hx rfl (pc0 := 1) (pc' := 232) rfl (hb hby y0_1) rfl (by decide) (by decide) (by decide) ?_
      show own_Y p e below s₁ m 232 #[.val (.int 27)] [] _
      refine z38 _ ?_
      show own_Y p e below z1l m 235 #[.val (.int 27)] [(.ref (A 27))] _
      exact retOut z1m hx Bd.returns rfl (Or.inr (Or.inr (Or.inr (Or.inr ⟨rfl, rfl, rfl⟩)))) (hb hby y0_235) hr
    · show PQ (some (.ref ra)) h0 n0 _ z1l.heap _
      rw [z37]
      exact ⟨by rw [gA, z0]; exact congrArg (fun z => some (Value.ref (A z))) (by decide), N0, rfl⟩
  | kk + 28, h, _ => exact absurd h (by omega)
theorem y1_0 : decode jdk_42_method_152_code 0 = .ok (.getstatic 38, 3) := by decide +kernel
theorem y1_3 : decode jdk_42_method_152_code 3 = .ok (.ifCond .eq 10, 3) := by decide +kernel
theorem y1_6 : decode jdk_42_method_152_code 6 = .ok (.aload_n 0, 1) := by decide +kernel
theorem y1_7 : decode jdk_42_method_152_code 7 = .ok (.getfield 15, 3) := by decide +kernel
theorem y1_10 : decode jdk_42_method_152_code 10 = .ok (.goto 4, 3) := by decide +kernel
theorem y1_14 : decode jdk_42_method_152_code 14 = .ok (.ireturn, 1) := by decide +kernel
theorem own_pn1 : plainName y_s2 = true := by first | (simp [plainName, overriddenIn]; done) | decide +kernel
theorem rm3 (l : Launch) (Z : State) (a0 : Array Value) (hw : ∀ d ∈ tables_1, d.before a0 Z = true) (ws : List Jvm.Cond) (h0 : Heap) (n0 : Nat) (p1 : Int32) (A : Nat → Addr) (K : Nat → ClassId) (cs : Int32)  (sa35 : Addr) (EN : own_St Z A K cs) (OL0 : Old Z n0 h0) (z4 : Fld Z h0 sa35 y_s2 "coder" "B" (.int 0)) :
    own_MF l Z own_m9 jdk_42_method_152_code 1 (some .byte) ws (Room.mk 0 0 0 0) #[(.ref sa35)] h0 (PQ (some (.int 0)) h0 n0) := by
  refine MetFree.of_bodySF (plainFor_of_name own_pn1) hisR ?_
  intro p e s m args below meth c s₁ Bd hml0 hP hK
  obtain ⟨rfl, hZ, hh⟩ := hP
  have hx := Bd.exec
  have hby := Bd.bytes
  have hml : c.maxLocals = 1 := hml0
  have hown : s.vm.findClass y_s2 = some m.cls := findClass_of_methodNamed Bd.named
  have hnm := (name_of_methodNamed Bd.named Bd.method).1
  have X0 : Stand p l e (Room.mk 0 0 0 0) s m #[(.ref sa35)] below meth c s₁ [] 0 0 := Stand.of_body Bd
  have e0 : s₁.heap = h0 := by rw [← hh, Bd.state]; rfl
  have N0 := Fr.nil n0
  have pre0 : own_P p e below s₁ m 0 #[.val (.ref sa35)] [] s₁ #[(.ref sa35)] 1 := fun t k => castTop (by first | (simp [entryFrame, mkF, argsToLocals, Value.category, maxLocals]; done) | rfl) k
  have KK0 : Keep h0 h0 [] := Keep.refl _ _
  obtain ⟨z2, z0, z5, z6⟩ := getS2 X0 hx hZ hown (host := "") (Or.inl (own_W hw 32 rfl)) Via.refl e0 (EN.2.2.2.2.2.2.2.1.1.ext OL0.2) (g := (mkF m 0 #[.val (.ref sa35)] [])) rfl (hb hby y1_0)
  obtain ⟨z3, z1, z7, z8⟩ := getF z0 hx hZ hown (host := "") (Or.inl (own_W hw 33 rfl)) Via.refl z5 z4 (g := (mkF m 7 #[.val (.ref sa35)] [(.ref sa35)])) rfl rfl (hb hby y1_7)
  obtain ⟨fs, hr, hrun, hended, hW, hsame⟩ := z1.leave (v := some (.int 0)) (fun h => by rw [Bd.returns] at h; cases h)
  refine ⟨_, _, pre0 _ ?_, hrun, hended, _, _, rfl, ?_, ⟨_, rfl⟩, hW, hsame.mono (by decide) (by decide)⟩
  · show own_Y p e below s₁ m 0 #[.val (.ref sa35)] [] _
    refine z6 _ ?_
    show own_Y p e below z2 m 3 #[.val (.ref sa35)] [(.int cs)] _
    refine XS.ifNo z0.here hx rfl (hb hby y1_3) rfl ((if0 _ _).trans (feq EN.2.2.2.2.2.2.2.1.2.1).1) ?_
    show own_Y p e below z2 m 6 #[.val (.ref sa35)] [] _
    refine XS.aloadN z0.here hx rfl (hb hby y1_6) rfl rfl ?_
    refine z8 _ ?_
    show own_Y p e below z3 m 10 #[.val (.ref sa35)] [(.int 0)] _
    refine XS.goto z1.here hx rfl (pc0 := 10) (pc' := 14) rfl (hb hby y1_10) (by decide) (by decide) ?_
    exact retN z1 hx (t := .byte) Bd.returns (by simp) (hb hby y1_14) hr
  · show PQ (some (.int 0)) h0 n0 _ z3.heap _
    rw [z7]
    exact ⟨rfl, N0, rfl⟩
theorem y2_0 : decode jdk_42_method_54_code 0 = .ok (.aload_n 0, 1) := by decide +kernel
theorem y2_1 : decode jdk_42_method_54_code 1 = .ok (.getfield 9, 3) := by decide +kernel
theorem y2_4 : decode jdk_42_method_54_code 4 = .ok (.arraylength, 1) := by decide +kernel
theorem y2_5 : decode jdk_42_method_54_code 5 = .ok (.aload_n 0, 1) := by decide +kernel
theorem y2_6 : decode jdk_42_method_54_code 6 = .ok (.invokevirtual 335, 3) := by decide +kernel
theorem y2_9 : decode jdk_42_method_54_code 9 = .ok (.ishr, 1) := by decide +kernel
theorem y2_10 : decode jdk_42_method_54_code 10 = .ok (.ireturn, 1) := by decide +kernel
theorem rm2 (l : Launch) (Z : State) (a0 : Array Value) (hw : ∀ d ∈ tables_1, d.before a0 Z = true) (ws : List Jvm.Cond) (h0 : Heap) (n0 : Nat) (p1 : Int32) (A : Nat → Addr) (K : Nat → ClassId) (cs : Int32)  (sb35 : Addr) (sa35 : Addr) (kc35 : ClassId) (EN : own_St Z A K cs) (OL0 : Old Z n0 h0) (z8 : Fld Z h0 sa35 y_s2 "value" "[B" (.ref sb35)) (z9 : Arv Z h0 sb35 kc35 .byte (2 : Int32) [(.int 48), (.int 48)] (.int 0)) (za : Exa Z h0 sa35 y_s2) (zb : Fld Z h0 sa35 y_s2 "coder" "B" (.int 0)) :
    own_MF l Z own_m1 jdk_42_method_54_code 1 (some .int) ws (Room.mk 1 0 0 13) #[(.ref sa35)] h0 (PQ (some (.int 2)) h0 n0) := by
  refine MetFree.of_bodySF (plainFor_of_name own_pn1) hisR ?_
  intro p e s m args below meth c s₁ Bd hml0 hP hK
  obtain ⟨rfl, hZ, hh⟩ := hP
  have hx := Bd.exec
  have hby := Bd.bytes
  have hml : c.maxLocals = 1 := hml0
  have hown : s.vm.findClass y_s2 = some m.cls := findClass_of_methodNamed Bd.named
  have hnm := (name_of_methodNamed Bd.named Bd.method).1
  have X0 : Stand p l e (Room.mk 1 0 0 13) s m #[(.ref sa35)] below meth c s₁ [] 0 0 := Stand.of_body Bd
  have e0 : s₁.heap = h0 := by rw [← hh, Bd.state]; rfl
  have N0 := Fr.nil n0
  have pre0 : own_P p e below s₁ m 0 #[.val (.ref sa35)] [] s₁ #[(.ref sa35)] 1 := fun t k => castTop (by first | (simp [entryFrame, mkF, argsToLocals, Value.category, maxLocals]; done) | rfl) k
  have KK0 : Keep h0 h0 [] := Keep.refl _ _
  obtain ⟨z4, z1, z2, zc⟩ := getF X0 hx hZ hown (host := "") (Or.inl (own_W hw 26 rfl)) Via.refl e0 z8 (g := (mkF m 1 #[.val (.ref sa35)] [(.ref sa35)])) rfl rfl (hb hby y2_1)
  obtain ⟨zk, z5, -, zd, ze, -, -⟩ := (id z9)
  obtain ⟨cq40, kq40, zf, zl, zg⟩ := isOf hZ z2 za
  obtain ⟨_, _, ⟨z3, L40, zm, n40⟩, -, z0, ⟨Lc40, z6, l40, y40, z40⟩, z7⟩ := z1.virtualBack hx (y := own_m9) (z := own_m9) hown (mvT hZ (own_W hw 27 rfl)) (mvT hZ (own_W hw 28 rfl)) (notFace_of_selects (args := #[]) (mvT hZ (own_W hw 30 rfl))) (mvT hZ (own_W hw 30 rfl)) (mvT hZ (own_W hw 29 rfl)) (by decide) (backOf (W := 1) (rm3 l Z a0 hw [] h0 n0 p1 A K cs sa35 EN OL0 zb) hZ (own_W hw 31 rfl) (own_W hw 9 rfl) (by decide) (by decide)) zf zg (g := (mkF m 6 #[.val (.ref sa35)] [(.ref sa35), (.int 2)])) rfl (by rw [hml]; rfl) (Steps.refl _) (argsL := []) (rest := [(.int 2)]) (lenOf own_pd1 rfl) rfl (by show 2 * 0 + _ ≤ _; exact Nat.le_of_eq rfl) (hb hby y2_6) (fun _ _ => ⟨rfl, z2, (by decide : 0 + 0 ≤ _), (by decide : 0 + 0 ≤ _)⟩)
  dsimp only [Pt.U, Pt.locs, Pt.cells, Pt.slots] at z0 l40 y40 z40 z7 z6
  replace z0 := own_sub z0 l40 y40 z40
  obtain ⟨rfl, zh, zi⟩ := z6
  have zj := Fr.app N0 zh
  obtain ⟨fs, hr, hrun, hended, hW, hsame⟩ := z0.leave (v := some (.int 2)) (fun h => by rw [Bd.returns] at h; cases h)
  refine ⟨_, _, pre0 _ ?_, hrun, hended, _, _, rfl, ?_, ⟨_, rfl⟩, hW, hsame.mono (by decide) (by decide)⟩
  · show own_Y p e below s₁ m 0 #[.val (.ref sa35)] [] _
    refine XS.aloadN X0.here hx rfl (hb hby y2_0) rfl rfl ?_
    refine zc _ ?_
    show own_Y p e below z4 m 4 #[.val (.ref sa35)] [(.ref sb35)] _
    refine z1.arraylength hx (by rw [z2]; exact z5.1) (State.isArrayOf_alike hZ.alike z5.2.1) (g := (mkF m 4 #[.val (.ref sa35)] [(.ref sb35)])) rfl rfl (hb hby y2_4) _ ?_
    rw [len_of zd ze]
    show own_Y p e below z4 m 5 #[.val (.ref sa35)] [(.int 2)] _
    refine XS.aloadN z1.here hx rfl (hb hby y2_5) rfl rfl ?_
    refine z7.trans ?_
    show own_Y p e below z3 m 9 #[.val (.ref sa35)] [(.int 0), (.int 2)] _
    refine XS.ishr z0.here hx rfl (hb hby y2_9) rfl ?_
    show own_Y p e below z3 m 10 #[.val (.ref sa35)] [(.int 2)] _
    exact retI z0 hx Bd.returns (hb hby y2_10) hr
  · show PQ (some (.int 2)) h0 n0 _ z3.heap _
    rw [zi]
    exact ⟨rfl, zj, rfl⟩
theorem y3_0 : decode jdk_37_method_2_code 0 = .ok (.aload_n 0, 1) := by decide +kernel
theorem y3_1 : decode jdk_37_method_2_code 1 = .ok (.getfield 7, 3) := by decide +kernel
theorem y3_4 : decode jdk_37_method_2_code 4 = .ok (.ireturn, 1) := by decide +kernel
theorem own_pn2 : plainName y_s3 = true := by first | (simp [plainName, overriddenIn]; done) | decide +kernel
theorem rm4 (l : Launch) (Z : State) (a0 : Array Value) (hw : ∀ d ∈ tables_1, d.before a0 Z = true) (ws : List Jvm.Cond) (h0 : Heap) (n0 : Nat) (p1 : Int32) (A : Nat → Addr) (K : Nat → ClassId) (cs : Int32) (ta : Addr) (tj : Int32)  (EN : own_St Z A K cs) (gE : Exa Z Z.heap ta y_s1) (gF : Fld Z Z.heap ta y_s3 "ordinal" "I" (.int tj)) (OL0 : Old Z n0 h0) :
    own_MF l Z own_m7 jdk_37_method_2_code 1 (some .int) ws (Room.mk 0 0 0 0) #[(.ref ta)] h0 (PQ (some (.int tj)) h0 n0) := by
  refine MetFree.of_bodySF (plainFor_of_name own_pn2) hisR ?_
  intro p e s m args below meth c s₁ Bd hml0 hP hK
  obtain ⟨rfl, hZ, hh⟩ := hP
  have hx := Bd.exec
  have hby := Bd.bytes
  have hml : c.maxLocals = 1 := hml0
  have hown : s.vm.findClass y_s3 = some m.cls := findClass_of_methodNamed Bd.named
  have hnm := (name_of_methodNamed Bd.named Bd.method).1
  have X0 : Stand p l e (Room.mk 0 0 0 0) s m #[(.ref ta)] below meth c s₁ [] 0 0 := Stand.of_body Bd
  have e0 : s₁.heap = h0 := by rw [← hh, Bd.state]; rfl
  have N0 := Fr.nil n0
  have pre0 : own_P p e below s₁ m 0 #[.val (.ref ta)] [] s₁ #[(.ref ta)] 1 := fun t k => castTop (by first | (simp [entryFrame, mkF, argsToLocals, Value.category, maxLocals]; done) | rfl) k
  have KK0 : Keep h0 h0 [] := Keep.refl _ _
  obtain ⟨z0, z1, z2, z3⟩ := getF X0 hx hZ hown (host := "") (Or.inl (own_W hw 41 rfl)) Via.refl e0 (gF.ext OL0.2) (g := (mkF m 1 #[.val (.ref ta)] [(.ref ta)])) rfl rfl (hb hby y3_1)
  obtain ⟨fs, hr, hrun, hended, hW, hsame⟩ := z1.leave (v := some (.int tj)) (fun h => by rw [Bd.returns] at h; cases h)
  refine ⟨_, _, pre0 _ ?_, hrun, hended, _, _, rfl, ?_, ⟨_, rfl⟩, hW, hsame.mono (by decide) (by decide)⟩
  · show own_Y p e below s₁ m 0 #[.val (.ref ta)] [] _
    refine XS.aloadN X0.here hx rfl (hb hby y3_0) rfl rfl ?_
    refine z3 _ ?_
    show own_Y p e below z0 m 4 #[.val (.ref ta)] [(.int tj)] _
    exact retI z1 hx Bd.returns (hb hby y3_4) hr
  · show PQ (some (.int tj)) h0 n0 _ z0.heap _
    rw [z2]
    exact ⟨rfl, N0, rfl⟩
theorem rm7 (l : Launch) (Z : State) (a0 : Array Value) (hw : ∀ d ∈ tables_1, d.before a0 Z = true) (ws : List Jvm.Cond) (h0 : Heap) (n0 : Nat) (p1 : Int32) (A : Nat → Addr) (K : Nat → ClassId) (cs : Int32)  (sb49 : Addr) (sa49 : Addr) (kc49 : ClassId) (EN : own_St Z A K cs) (OL0 : Old Z n0 h0) (z8 : Fld Z h0 sa49 y_s2 "value" "[B" (.ref sb49)) (z9 : Arv Z h0 sb49 kc49 .byte (1 : Int32) [(.int 45)] (.int 0)) (za : Exa Z h0 sa49 y_s2) (zb : Fld Z h0 sa49 y_s2 "coder" "B" (.int 0)) :
    own_MF l Z own_m1 jdk_42_method_54_code 1 (some .int) ws (Room.mk 1 0 0 13) #[(.ref sa49)] h0 (PQ (some (.int 1)) h0 n0) := by
  refine MetFree.of_bodySF (plainFor_of_name own_pn1) hisR ?_
  intro p e s m args below meth c s₁ Bd hml0 hP hK
  obtain ⟨rfl, hZ, hh⟩ := hP
  have hx := Bd.exec
  have hby := Bd.bytes
  have hml : c.maxLocals = 1 := hml0
  have hown : s.vm.findClass y_s2 = some m.cls := findClass_of_methodNamed Bd.named
  have hnm := (name_of_methodNamed Bd.named Bd.method).1
  have X0 : Stand p l e (Room.mk 1 0 0 13) s m #[(.ref sa49)] below meth c s₁ [] 0 0 := Stand.of_body Bd
  have e0 : s₁.heap = h0 := by rw [← hh, Bd.state]; rfl
  have N0 := Fr.nil n0
  have pre0 : own_P p e below s₁ m 0 #[.val (.ref sa49)] [] s₁ #[(.ref sa49)] 1 := fun t k => castTop (by first | (simp [entryFrame, mkF, argsToLocals, Value.category, maxLocals]; done) | rfl) k
  have KK0 : Keep h0 h0 [] := Keep.refl _ _
  obtain ⟨z4, z1, z2, zc⟩ := getF X0 hx hZ hown (host := "") (Or.inl (own_W hw 26 rfl)) Via.refl e0 z8 (g := (mkF m 1 #[.val (.ref sa49)] [(.ref sa49)])) rfl rfl (hb hby y2_1)
  obtain ⟨zk, z5, -, zd, ze, -, -⟩ := (id z9)
  obtain ⟨cq54, kq54, zf, zl, zg⟩ := isOf hZ z2 za
  obtain ⟨_, _, ⟨z3, L54, zm, n54⟩, -, z0, ⟨Lc54, z6, l54, y54, z54⟩, z7⟩ := z1.virtualBack hx (y := own_m9) (z := own_m9) hown (mvT hZ (own_W hw 27 rfl)) (mvT hZ (own_W hw 28 rfl)) (notFace_of_selects (args := #[]) (mvT hZ (own_W hw 30 rfl))) (mvT hZ (own_W hw 30 rfl)) (mvT hZ (own_W hw 29 rfl)) (by decide) (backOf (W := 1) (rm3 l Z a0 hw [] h0 n0 p1 A K cs sa49 EN OL0 zb) hZ (own_W hw 31 rfl) (own_W hw 9 rfl) (by decide) (by decide)) zf zg (g := (mkF m 6 #[.val (.ref sa49)] [(.ref sa49), (.int 1)])) rfl (by rw [hml]; rfl) (Steps.refl _) (argsL := []) (rest := [(.int 1)]) (lenOf own_pd1 rfl) rfl (by show 2 * 0 + _ ≤ _; exact Nat.le_of_eq rfl) (hb hby y2_6) (fun _ _ => ⟨rfl, z2, (by decide : 0 + 0 ≤ _), (by decide : 0 + 0 ≤ _)⟩)
  dsimp only [Pt.U, Pt.locs, Pt.cells, Pt.slots] at z0 l54 y54 z54 z7 z6
  replace z0 := own_sub z0 l54 y54 z54
  obtain ⟨rfl, zh, zi⟩ := z6
  have zj := Fr.app N0 zh
  obtain ⟨fs, hr, hrun, hended, hW, hsame⟩ := z0.leave (v := some (.int 1)) (fun h => by rw [Bd.returns] at h; cases h)
  refine ⟨_, _, pre0 _ ?_, hrun, hended, _, _, rfl, ?_, ⟨_, rfl⟩, hW, hsame.mono (by decide) (by decide)⟩
  · show own_Y p e below s₁ m 0 #[.val (.ref sa49)] [] _
    refine XS.aloadN X0.here hx rfl (hb hby y2_0) rfl rfl ?_
    refine zc _ ?_
    show own_Y p e below z4 m 4 #[.val (.ref sa49)] [(.ref sb49)] _
    refine z1.arraylength hx (by rw [z2]; exact z5.1) (State.isArrayOf_alike hZ.alike z5.2.1) (g := (mkF m 4 #[.val (.ref sa49)] [(.ref sb49)])) rfl rfl (hb hby y2_4) _ ?_
    rw [len_of zd ze]
    show own_Y p e below z4 m 5 #[.val (.ref sa49)] [(.int 1)] _
    refine XS.aloadN z1.here hx rfl (hb hby y2_5) rfl rfl ?_
    refine z7.trans ?_
    show own_Y p e below z3 m 9 #[.val (.ref sa49)] [(.int 0), (.int 1)] _
    refine XS.ishr z0.here hx rfl (hb hby y2_9) rfl ?_
    show own_Y p e below z3 m 10 #[.val (.ref sa49)] [(.int 1)] _
    exact retI z0 hx Bd.returns (hb hby y2_10) hr
  · show PQ (some (.int 1)) h0 n0 _ z3.heap _
    rw [zi]
    exact ⟨rfl, zj, rfl⟩
theorem y4_0 : decode jdk_48_method_14_code 0 = .ok (.iconst 0, 1) := by decide +kernel
theorem y4_1 : decode jdk_48_method_14_code 1 = .ok (.istore 5, 2) := by decide +kernel
theorem y4_3 : decode jdk_48_method_14_code 3 = .ok (.iload 4, 2) := by decide +kernel
theorem y4_5 : decode jdk_48_method_14_code 5 = .ok (.bipush 7, 2) := by decide +kernel
theorem y4_7 : decode jdk_48_method_14_code 7 = .ok (.if_icmp .le 63, 3) := by decide +kernel
theorem y4_70 : decode jdk_48_method_14_code 70 = .ok (.iload 5, 2) := by decide +kernel
theorem y4_72 : decode jdk_48_method_14_code 72 = .ok (.iload 4, 2) := by decide +kernel
theorem y4_74 : decode jdk_48_method_14_code 74 = .ok (.if_icmp .ge 27, 3) := by decide +kernel
theorem y4_77 : decode jdk_48_method_14_code 77 = .ok (.aload_n 0, 1) := by decide +kernel
theorem y4_78 : decode jdk_48_method_14_code 78 = .ok (.iload_n 1, 1) := by decide +kernel
theorem y4_79 : decode jdk_48_method_14_code 79 = .ok (.iload 5, 2) := by decide +kernel
theorem y4_81 : decode jdk_48_method_14_code 81 = .ok (.iadd, 1) := by decide +kernel
theorem y4_82 : decode jdk_48_method_14_code 82 = .ok (.baload, 1) := by decide +kernel
theorem y4_83 : decode jdk_48_method_14_code 83 = .ok (.aload_n 2, 1) := by decide +kernel
theorem y4_84 : decode jdk_48_method_14_code 84 = .ok (.iload_n 3, 1) := by decide +kernel
theorem y4_85 : decode jdk_48_method_14_code 85 = .ok (.iload 5, 2) := by decide +kernel
theorem y4_87 : decode jdk_48_method_14_code 87 = .ok (.iadd, 1) := by decide +kernel
theorem y4_88 : decode jdk_48_method_14_code 88 = .ok (.baload, 1) := by decide +kernel
theorem y4_89 : decode jdk_48_method_14_code 89 = .ok (.if_icmp .eq 6, 3) := by decide +kernel
theorem y4_92 : decode jdk_48_method_14_code 92 = .ok (.iload 5, 2) := by decide +kernel
theorem y4_94 : decode jdk_48_method_14_code 94 = .ok (.ireturn, 1) := by decide +kernel
theorem own_pn3 : plainName "jdk/internal/util/ArraysSupport" = true := by first | (simp [plainName, overriddenIn]; done) | decide +kernel
theorem rm8 (l : Launch) (Z : State) (a0 : Array Value) (hw : ∀ d ∈ tables_1, d.before a0 Z = true) (ws : List Jvm.Cond) (h0 : Heap) (n0 : Nat) (p1 : Int32) (A : Nat → Addr) (K : Nat → ClassId) (cs : Int32)  (sb35 : Addr) (sb49 : Addr) (kc35 : ClassId) (kc49 : ClassId) (EN : own_St Z A K cs) (OL0 : Old Z n0 h0) (z6 : Arv Z h0 sb35 kc35 .byte (2 : Int32) [(.int 48), (.int 48)] (.int 0)) (z7 : Arv Z h0 sb49 kc49 .byte (1 : Int32) [(.int 45)] (.int 0)) :
    own_MF l Z own_m23 jdk_48_method_14_code 8 (some .int) ws (Room.mk 0 0 0 0) #[(.ref sb35), (.int 0), (.ref sb49), (.int 0), (.int 1)] h0 (PQ (some (.int 0)) h0 n0) := by
  refine MetFree.of_bodySF (plainFor_of_name own_pn3) hisR ?_
  intro p e s m args below meth c s₁ Bd hml0 hP hK
  obtain ⟨rfl, hZ, hh⟩ := hP
  have hx := Bd.exec
  have hby := Bd.bytes
  have hml : c.maxLocals = 8 := hml0
  have hown : s.vm.findClass "jdk/internal/util/ArraysSupport" = some m.cls := findClass_of_methodNamed Bd.named
  have hnm := (name_of_methodNamed Bd.named Bd.method).1
  have X0 : Stand p l e (Room.mk 0 0 0 0) s m #[(.ref sb35), (.int 0), (.ref sb49), (.int 0), (.int 1)] below meth c s₁ [] 0 0 := Stand.of_body Bd
  have e0 : s₁.heap = h0 := by rw [← hh, Bd.state]; rfl
  have N0 := Fr.nil n0
  have pre0 : own_P p e below s₁ m 0 #[.val (.ref sb35), .val (.int 0), .val (.ref sb49), .val (.int 0), .val (.int 1), .unset, .unset, .unset] [] s₁ #[(.ref sb35), (.int 0), (.ref sb49), (.int 0), (.int 1)] 8 := fun t k => castTop (by first | (simp [entryFrame, mkF, argsToLocals, Value.category, maxLocals]; done) | rfl) k
  have KK0 : Keep h0 h0 [] := Keep.refl _ _
  obtain ⟨z2, z0, ze, z8, zf, z9, zg⟩ := (id z6)
  have z3 : ¬ ((0 : Int32) < 0 ∨ z2.slots.size ≤ ((0 : Int32)).toNatClampNeg) := inb_of z8 ⟨by decide, by decide⟩
  have za : z2.slots[((0 : Int32)).toNatClampNeg]? = some (.int 48) := Has.at z9 z3 rfl
  obtain ⟨z4, z1, zh, zb, zi, zc, zj⟩ := (id z7)
  have z5 : ¬ ((0 : Int32) < 0 ∨ z4.slots.size ≤ ((0 : Int32)).toNatClampNeg) := inb_of zb ⟨by decide, by decide⟩
  have zd : z4.slots[((0 : Int32)).toNatClampNeg]? = some (.int 45) := Has.at zc z5 rfl
  obtain ⟨fs, hr, hrun, hended, hW, hsame⟩ := X0.leave (v := some (.int 0)) (fun h => by rw [Bd.returns] at h; cases h)
  refine ⟨_, _, pre0 _ ?_, hrun, hended, _, _, rfl, ?_, ⟨_, rfl⟩, hW, hsame.mono (by decide) (by decide)⟩
  · show own_Y p e below s₁ m 0 #[.val (.ref sb35), .val (.int 0), .val (.ref sb49), .val (.int 0), .val (.int 1), .unset, .unset, .unset] [] _
    refine XS.iconst X0.here hx rfl (hb hby y4_0) ?_
    refine XS.istore X0.here hx rfl (hb hby y4_1) rfl (l' := #[.val (.ref sb35), .val (.int 0), .val (.ref sb49), .val (.int 0), .val (.int 1), .val (.int 0), .unset, .unset]) rfl ?_
    refine XS.iload X0.here hx rfl (hb hby y4_3) rfl ?_
    refine XS.bipush X0.here hx rfl (hb hby y4_5) ?_
    refine XS.icmpYes X0.here hx rfl (pc0 := 7) (pc' := 70) rfl (hb hby y4_7) rfl (flt (by decide : ¬ ((7 : Int32) < (1 : Int32)))).2.2.2 (by decide) (by decide) ?_
    show own_Y p e below s₁ m 70 #[.val (.ref sb35), .val (.int 0), .val (.ref sb49), .val (.int 0), .val (.int 1), .val (.int 0), .unset, .unset] [] _
    refine XS.iload X0.here hx rfl (hb hby y4_70) rfl ?_
    refine XS.iload X0.here hx rfl (hb hby y4_72) rfl ?_
    refine XS.icmpNo X0.here hx rfl (hb hby y4_74) rfl (tlt (by decide : (0 : Int32) < (1 : Int32))).2.1 ?_
    show own_Y p e below s₁ m 77 #[.val (.ref sb35), .val (.int 0), .val (.ref sb49), .val (.int 0), .val (.int 1), .val (.int 0), .unset, .unset] [] _
    refine XS.aloadN X0.here hx rfl (hb hby y4_77) rfl rfl ?_
    refine XS.iloadN X0.here hx rfl (hb hby y4_78) rfl ?_
    refine XS.iload X0.here hx rfl (hb hby y4_79) rfl ?_
    refine XS.iadd X0.here hx rfl (hb hby y4_81) rfl ?_
    show own_Y p e below s₁ m 82 #[.val (.ref sb35), .val (.int 0), .val (.ref sb49), .val (.int 0), .val (.int 1), .val (.int 0), .unset, .unset] [(.int 0), (.ref sb35)] _
    refine X0.baloadBytes hx (j := (0 : Int32)) (v := (.int 48)) (by rw [e0]; exact z0.1) (State.isArrayOf_alike hZ.alike z0.2.1) z0.2.2 z3 za (g := (mkF m 82 #[.val (.ref sb35), .val (.int 0), .val (.ref sb49), .val (.int 0), .val (.int 1), .val (.int 0), .unset, .unset] [(.int 0), (.ref sb35)])) rfl rfl (hb hby y4_82) _ ?_
    show own_Y p e below s₁ m 83 #[.val (.ref sb35), .val (.int 0), .val (.ref sb49), .val (.int 0), .val (.int 1), .val (.int 0), .unset, .unset] [(.int 48)] _
    refine XS.aloadN X0.here hx rfl (hb hby y4_83) rfl rfl ?_
    refine XS.iloadN X0.here hx rfl (hb hby y4_84) rfl ?_
    refine XS.iload X0.here hx rfl (hb hby y4_85) rfl ?_
    refine XS.iadd X0.here hx rfl (hb hby y4_87) rfl ?_
    show own_Y p e below s₁ m 88 #[.val (.ref sb35), .val (.int 0), .val (.ref sb49), .val (.int 0), .val (.int 1), .val (.int 0), .unset, .unset] [(.int 0), (.ref sb49), (.int 48)] _
    refine X0.baloadBytes hx (j := (0 : Int32)) (v := (.int 45)) (by rw [e0]; exact z1.1) (State.isArrayOf_alike hZ.alike z1.2.1) z1.2.2 z5 zd (g := (mkF m 88 #[.val (.ref sb35), .val (.int 0), .val (.ref sb49), .val (.int 0), .val (.int 1), .val (.int 0), .unset, .unset] [(.int 0), (.ref sb49), (.int 48)])) rfl rfl (hb hby y4_88) _ ?_
    show own_Y p e below s₁ m 89 #[.val (.ref sb35), .val (.int 0), .val (.ref sb49), .val (.int 0), .val (.int 1), .val (.int 0), .unset, .unset] [(.int 45), (.int 48)] _
    refine XS.icmpNo X0.here hx rfl (hb hby y4_89) rfl (feq (by decide : ¬ ((48 : Int32) = (45 : Int32)))).1 ?_
    show own_Y p e below s₁ m 92 #[.val (.ref sb35), .val (.int 0), .val (.ref sb49), .val (.int 0), .val (.int 1), .val (.int 0), .unset, .unset] [] _
    refine XS.iload X0.here hx rfl (hb hby y4_92) rfl ?_
    exact retI X0 hx Bd.returns (hb hby y4_94) hr
  · show PQ (some (.int 0)) h0 n0 _ s₁.heap _
    rw [e0]
    exact ⟨rfl, N0, rfl⟩
theorem y5_0 : decode jdk_42_method_75_code 0 = .ok (.iload_n 2, 1) := by decide +kernel
theorem y5_1 : decode jdk_42_method_75_code 1 = .ok (.ifCond .lt 16, 3) := by decide +kernel
theorem y5_4 : decode jdk_42_method_75_code 4 = .ok (.iload_n 2, 1) := by decide +kernel
theorem y5_5 : decode jdk_42_method_75_code 5 = .ok (.aload_n 0, 1) := by decide +kernel
theorem y5_6 : decode jdk_42_method_75_code 6 = .ok (.invokevirtual 505, 3) := by decide +kernel
theorem y5_9 : decode jdk_42_method_75_code 9 = .ok (.aload_n 1, 1) := by decide +kernel
theorem y5_10 : decode jdk_42_method_75_code 10 = .ok (.invokevirtual 505, 3) := by decide +kernel
theorem y5_13 : decode jdk_42_method_75_code 13 = .ok (.isub, 1) := by decide +kernel
theorem y5_14 : decode jdk_42_method_75_code 14 = .ok (.if_icmp .le 5, 3) := by decide +kernel
theorem y5_19 : decode jdk_42_method_75_code 19 = .ok (.aload_n 0, 1) := by decide +kernel
theorem y5_20 : decode jdk_42_method_75_code 20 = .ok (.getfield 9, 3) := by decide +kernel
theorem y5_23 : decode jdk_42_method_75_code 23 = .ok (.astore_n 3, 1) := by decide +kernel
theorem y5_24 : decode jdk_42_method_75_code 24 = .ok (.aload_n 1, 1) := by decide +kernel
theorem y5_25 : decode jdk_42_method_75_code 25 = .ok (.getfield 9, 3) := by decide +kernel
theorem y5_28 : decode jdk_42_method_75_code 28 = .ok (.astore 4, 2) := by decide +kernel
theorem y5_30 : decode jdk_42_method_75_code 30 = .ok (.iconst 0, 1) := by decide +kernel
theorem y5_31 : decode jdk_42_method_75_code 31 = .ok (.istore 5, 2) := by decide +kernel
theorem y5_33 : decode jdk_42_method_75_code 33 = .ok (.aload 4, 2) := by decide +kernel
theorem y5_35 : decode jdk_42_method_75_code 35 = .ok (.arraylength, 1) := by decide +kernel
theorem y5_36 : decode jdk_42_method_75_code 36 = .ok (.istore 6, 2) := by decide +kernel
theorem y5_38 : decode jdk_42_method_75_code 38 = .ok (.aload_n 0, 1) := by decide +kernel
theorem y5_39 : decode jdk_42_method_75_code 39 = .ok (.invokevirtual 335, 3) := by decide +kernel
theorem y5_42 : decode jdk_42_method_75_code 42 = .ok (.istore 7, 2) := by decide +kernel
theorem y5_44 : decode jdk_42_method_75_code 44 = .ok (.iload 7, 2) := by decide +kernel
theorem y5_46 : decode jdk_42_method_75_code 46 = .ok (.aload_n 1, 1) := by decide +kernel
theorem y5_47 : decode jdk_42_method_75_code 47 = .ok (.invokevirtual 335, 3) := by decide +kernel
theorem y5_50 : decode jdk_42_method_75_code 50 = .ok (.if_icmp .ne 32, 3) := by decide +kernel
theorem y5_53 : decode jdk_42_method_75_code 53 = .ok (.iload 7, 2) := by decide +kernel
theorem y5_55 : decode jdk_42_method_75_code 55 = .ok (.iconst 1, 1) := by decide +kernel
theorem y5_56 : decode jdk_42_method_75_code 56 = .ok (.if_icmp .ne 7, 3) := by decide +kernel
theorem y5_63 : decode jdk_42_method_75_code 63 = .ok (.aload_n 3, 1) := by decide +kernel
theorem y5_64 : decode jdk_42_method_75_code 64 = .ok (.iload_n 2, 1) := by decide +kernel
theorem y5_65 : decode jdk_42_method_75_code 65 = .ok (.aload 4, 2) := by decide +kernel
theorem y5_67 : decode jdk_42_method_75_code 67 = .ok (.iconst 0, 1) := by decide +kernel
theorem y5_68 : decode jdk_42_method_75_code 68 = .ok (.iload 6, 2) := by decide +kernel
theorem y5_70 : decode jdk_42_method_75_code 70 = .ok (.invokestatic 607, 3) := by decide +kernel
theorem y5_73 : decode jdk_42_method_75_code 73 = .ok (.ifCond .ge 7, 3) := by decide +kernel
theorem y5_80 : decode jdk_42_method_75_code 80 = .ok (.iconst 0, 1) := by decide +kernel
theorem y5_81 : decode jdk_42_method_75_code 81 = .ok (.ireturn, 1) := by decide +kernel
theorem rm6 (l : Launch) (Z : State) (a0 : Array Value) (hw : ∀ d ∈ tables_1, d.before a0 Z = true) (ws : List Jvm.Cond) (h0 : Heap) (n0 : Nat) (p1 : Int32) (A : Nat → Addr) (K : Nat → ClassId) (cs : Int32)  (sb35 : Addr) (sa35 : Addr) (sb49 : Addr) (sa49 : Addr) (kc35 : ClassId) (kc49 : ClassId) (EN : own_St Z A K cs) (OL0 : Old Z n0 h0) (z6 : Exa Z h0 sa35 y_s2) (ze : Fld Z h0 sa35 y_s2 "value" "[B" (.ref sb35)) (zf : Arv Z h0 sb35 kc35 .byte (2 : Int32) [(.int 48), (.int 48)] (.int 0)) (zg : Fld Z h0 sa35 y_s2 "coder" "B" (.int 0)) (z7 : Exa Z h0 sa49 y_s2) (zh : Fld Z h0 sa49 y_s2 "value" "[B" (.ref sb49)) (z8 : Arv Z h0 sb49 kc49 .byte (1 : Int32) [(.int 45)] (.int 0)) (zi : Fld Z h0 sa49 y_s2 "coder" "B" (.int 0)) :
    own_MF l Z own_m16 jdk_42_method_75_code 8 (some .boolean) ws (Room.mk 2 0 0 27) #[(.ref sa35), (.ref sa49), (.int 0)] h0 (PQ (some (.int 0)) h0 n0) := by
  refine MetFree.of_bodySF (plainFor_of_name own_pn1) hisR ?_
  intro p e s m args below meth c s₁ Bd hml0 hP hK
  obtain ⟨rfl, hZ, hh⟩ := hP
  have hx := Bd.exec
  have hby := Bd.bytes
  have hml : c.maxLocals = 8 := hml0
  have hown : s.vm.findClass y_s2 = some m.cls := findClass_of_methodNamed Bd.named
  have hnm := (name_of_methodNamed Bd.named Bd.method).1
  have X0 : Stand p l e (Room.mk 2 0 0 27) s m #[(.ref sa35), (.ref sa49), (.int 0)] below meth c s₁ [] 0 0 := Stand.of_body Bd
  have e0 : s₁.heap = h0 := by rw [← hh, Bd.state]; rfl
  have N0 := Fr.nil n0
  have pre0 : own_P p e below s₁ m 0 #[.val (.ref sa35), .val (.ref sa49), .val (.int 0), .unset, .unset, .unset, .unset, .unset] [] s₁ #[(.ref sa35), (.ref sa49), (.int 0)] 8 := fun t k => castTop (by first | (simp [entryFrame, mkF, argsToLocals, Value.category, maxLocals]; done) | rfl) k
  have KK0 : Keep h0 h0 [] := Keep.refl _ _
  obtain ⟨cq51, kq51, zx, z1q, zy⟩ := isOf hZ e0 z6
  obtain ⟨_, _, ⟨zz, L51, z1r, n51⟩, -, z5, ⟨Lc51, zj, l51, y51, z51⟩, zk⟩ := X0.virtualBack hx (y := own_m1) (z := own_m1) hown (mvT hZ (own_W hw 54 rfl)) (mvT hZ (own_W hw 22 rfl)) (notFace_of_selects (args := #[]) (mvT hZ (own_W hw 24 rfl))) (mvT hZ (own_W hw 24 rfl)) (mvT hZ (own_W hw 23 rfl)) (by decide) (backOf (W := 1) (rm2 l Z a0 hw [] h0 n0 p1 A K cs sb35 sa35 kc35 EN OL0 ze zf z6 zg) hZ (own_W hw 25 rfl) (own_W hw 9 rfl) (by decide) (by decide)) zx zy (g := (mkF m 6 #[.val (.ref sa35), .val (.ref sa49), .val (.int 0), .unset, .unset, .unset, .unset, .unset] [(.ref sa35), (.int 0)])) rfl (by rw [hml]; rfl) (Steps.refl _) (argsL := []) (rest := [(.int 0)]) (lenOf own_pd2 rfl) rfl (by show 2 * 0 + _ ≤ _; exact Nat.le_of_eq rfl) (hb hby y5_6) (fun _ _ => ⟨rfl, e0, (by decide : 0 + 0 ≤ _), (by decide : 0 + 0 ≤ _)⟩)
  dsimp only [Pt.U, Pt.locs, Pt.cells, Pt.slots] at z5 l51 y51 z51 zk zj
  replace z5 := own_sub z5 l51 y51 z51
  obtain ⟨rfl, z10, zl⟩ := zj
  have z11 := Fr.app N0 z10
  obtain ⟨cq55, kq55, z12, z1s, z13⟩ := isOf hZ zl z7
  obtain ⟨_, _, ⟨z9, L55, z1t, n55⟩, -, z2, ⟨Lc55, zm, l55, y55, z55⟩, zn⟩ := z5.virtualBack hx (y := own_m1) (z := own_m1) hown (mvT hZ (own_W hw 54 rfl)) (mvT hZ (own_W hw 22 rfl)) (notFace_of_selects (args := #[]) (mvT hZ (own_W hw 24 rfl))) (mvT hZ (own_W hw 24 rfl)) (mvT hZ (own_W hw 23 rfl)) (by decide) (backOf (W := 2) (rm7 l Z a0 hw [] h0 n0 p1 A K cs sb49 sa49 kc49 EN OL0 zh z8 z7 zi) hZ (own_W hw 25 rfl) (own_W hw 9 rfl) (by decide) (by decide)) z12 z13 (g := (mkF m 10 #[.val (.ref sa35), .val (.ref sa49), .val (.int 0), .unset, .unset, .unset, .unset, .unset] [(.ref sa49), (.int 2), (.int 0)])) rfl (by rw [hml]; rfl) (Steps.refl _) (argsL := []) (rest := [(.int 2), (.int 0)]) (lenOf own_pd2 rfl) rfl (by show 2 * 0 + _ ≤ _; exact Nat.le_of_eq rfl) (hb hby y5_10) (fun _ _ => ⟨rfl, zl, (by decide : 0 + 0 ≤ _), (by decide : 0 + 0 ≤ _)⟩)
  dsimp only [Pt.U, Pt.locs, Pt.cells, Pt.slots] at z2 l55 y55 z55 zn zm
  replace z2 := own_sub z2 l55 y55 z55
  obtain ⟨rfl, z14, z15⟩ := zm
  have z16 := Fr.app z11 z14
  obtain ⟨z17, za, z18, z19⟩ := getF z2 hx hZ hown (host := "") (Or.inl (own_W hw 26 rfl)) Via.refl z15 ze (g := (mkF m 20 #[.val (.ref sa35), .val (.ref sa49), .val (.int 0), .unset, .unset, .unset, .unset, .unset] [(.ref sa35)])) rfl rfl (hb hby y5_20)
  obtain ⟨zo, z1, zb, z1a⟩ := getF za hx hZ hown (host := "") (Or.inl (own_W hw 26 rfl)) Via.refl z18 zh (g := (mkF m 25 #[.val (.ref sa35), .val (.ref sa49), .val (.int 0), .val (.ref sb35), .unset, .unset, .unset, .unset] [(.ref sa49)])) rfl rfl (hb hby y5_25)
  obtain ⟨z1u, zp, -, z1b, z1c, -, -⟩ := (id z8)
  obtain ⟨cq59, kq59, z1d, z1v, z1e⟩ := isOf hZ zb z6
  obtain ⟨_, _, ⟨z1f, L59, z1w, n59⟩, -, z3, ⟨Lc59, zq, l59, y59, z59⟩, zr⟩ := z1.virtualBack hx (y := own_m9) (z := own_m9) hown (mvT hZ (own_W hw 27 rfl)) (mvT hZ (own_W hw 28 rfl)) (notFace_of_selects (args := #[]) (mvT hZ (own_W hw 30 rfl))) (mvT hZ (own_W hw 30 rfl)) (mvT hZ (own_W hw 29 rfl)) (by decide) (backOf (W := 0) (rm3 l Z a0 hw [] h0 n0 p1 A K cs sa35 EN OL0 zg) hZ (own_W hw 31 rfl) (own_W hw 9 rfl) (by decide) (by decide)) z1d z1e (g := (mkF m 39 #[.val (.ref sa35), .val (.ref sa49), .val (.int 0), .val (.ref sb35), .val (.ref sb49), .val (.int 0), .val (.int 1), .unset] [(.ref sa35)])) rfl (by rw [hml]; rfl) (Steps.refl _) (argsL := []) (rest := []) (lenOf own_pd1 rfl) rfl (by show 2 * 0 + _ ≤ _; exact Nat.le_of_eq rfl) (hb hby y5_39) (fun _ _ => ⟨rfl, zb, (by decide : 0 + 0 ≤ _), (by decide : 0 + 0 ≤ _)⟩)
  dsimp only [Pt.U, Pt.locs, Pt.cells, Pt.slots] at z3 l59 y59 z59 zr zq
  replace z3 := own_sub z3 l59 y59 z59
  obtain ⟨rfl, z1g, zs⟩ := zq
  have z1h := Fr.app z16 z1g
  obtain ⟨cq60, kq60, z1i, z1x, z1j⟩ := isOf hZ zs z7
  obtain ⟨_, _, ⟨zc, L60, z1y, n60⟩, -, z0, ⟨Lc60, zt, l60, y60, z60⟩, zu⟩ := z3.virtualBack hx (y := own_m9) (z := own_m9) hown (mvT hZ (own_W hw 27 rfl)) (mvT hZ (own_W hw 28 rfl)) (notFace_of_selects (args := #[]) (mvT hZ (own_W hw 30 rfl))) (mvT hZ (own_W hw 30 rfl)) (mvT hZ (own_W hw 29 rfl)) (by decide) (backOf (W := 1) (rm3 l Z a0 hw [] h0 n0 p1 A K cs sa49 EN OL0 zi) hZ (own_W hw 31 rfl) (own_W hw 9 rfl) (by decide) (by decide)) z1i z1j (g := (mkF m 47 #[.val (.ref sa35), .val (.ref sa49), .val (.int 0), .val (.ref sb35), .val (.ref sb49), .val (.int 0), .val (.int 1), .val (.int 0)] [(.ref sa49), (.int 0)])) rfl (by rw [hml]; rfl) (Steps.refl _) (argsL := []) (rest := [(.int 0)]) (lenOf own_pd1 rfl) rfl (by show 2 * 0 + _ ≤ _; exact Nat.le_of_eq rfl) (hb hby y5_47) (fun _ _ => ⟨rfl, zs, (by decide : 0 + 0 ≤ _), (by decide : 0 + 0 ≤ _)⟩)
  dsimp only [Pt.U, Pt.locs, Pt.cells, Pt.slots] at z0 l60 y60 z60 zu zt
  replace z0 := own_sub z0 l60 y60 z60
  obtain ⟨rfl, z1k, z1l⟩ := zt
  have z1m := Fr.app z1h z1k
  obtain ⟨_, _, ⟨zd, L63, z1z, n63⟩, -, z4, ⟨Lc63, zv, l63, y63, z63⟩, zw⟩ := Jvm.LawKit.callS z0 hx (y := own_m23) hown (mvT hZ (own_W hw 55 rfl)) (mvT hZ (own_W hw 56 rfl)) (mvT hZ (own_W hw 57 rfl)) (mvT hZ (own_W hw 58 rfl)) (by decide) (backOf (W := 0) (rm8 l Z a0 hw [] h0 n0 p1 A K cs sb35 sb49 kc35 kc49 EN OL0 zf z8) hZ (own_W hw 58 rfl) (own_W hw 57 rfl) (by decide) (by decide)) (g := (mkF m 70 #[.val (.ref sa35), .val (.ref sa49), .val (.int 0), .val (.ref sb35), .val (.ref sb49), .val (.int 0), .val (.int 1), .val (.int 0)] [(.int 1), (.int 0), (.ref sb49), (.int 0), (.ref sb35)])) rfl (by rw [hml]; rfl) (argsL := [(.ref sb35), (.int 0), (.ref sb49), (.int 0), (.int 1)]) (rest := []) (lenOf own_pd3 rfl) rfl (by show 2 * 0 + _ ≤ _; exact Nat.le_of_eq rfl) (hb hby y5_70) (fun _ _ => ⟨rfl, z1l, (by decide : 0 + 0 ≤ _), (by decide : 0 + 0 ≤ _)⟩)
  dsimp only [Pt.U, Pt.locs, Pt.cells, Pt.slots] at z4 l63 y63 z63 zw zv
  replace z4 := own_sub z4 l63 y63 z63
  obtain ⟨rfl, z1n, z1o⟩ := zv
  have z1p := Fr.app z1m z1n
  obtain ⟨fs, hr, hrun, hended, hW, hsame⟩ := z4.leave (v := some (.int 0)) (fun h => by rw [Bd.returns] at h; cases h)
  refine ⟨_, _, pre0 _ ?_, hrun, hended, _, _, rfl, ?_, ⟨_, rfl⟩, hW, hsame.mono (by decide) (by decide)⟩
  · show own_Y p e below s₁ m 0 #[.val (.ref sa35), .val (.ref sa49), .val (.int 0), .unset, .unset, .unset, .unset, .unset] [] _
    refine XS.iloadN X0.here hx rfl (hb hby y5_0) rfl ?_
    refine XS.ifNo X0.here hx rfl (hb hby y5_1) rfl ((if0 _ _).trans (flt (by decide : ¬ ((0 : Int32) < (0 : Int32)))).1) ?_
    show own_Y p e below s₁ m 4 #[.val (.ref sa35), .val (.ref sa49), .val (.int 0), .unset, .unset, .unset, .unset, .unset] [] _
    refine XS.iloadN X0.here hx rfl (hb hby y5_4) rfl ?_
    refine XS.aloadN X0.here hx rfl (hb hby y5_5) rfl rfl ?_
    refine zk.trans ?_
    show own_Y p e below zz m 9 #[.val (.ref sa35), .val (.ref sa49), .val (.int 0), .unset, .unset, .unset, .unset, .unset] [(.int 2), (.int 0)] _
    refine XS.aloadN z5.here hx rfl (hb hby y5_9) rfl rfl ?_
    refine zn.trans ?_
    show own_Y p e below z9 m 13 #[.val (.ref sa35), .val (.ref sa49), .val (.int 0), .unset, .unset, .unset, .unset, .unset] [(.int 1), (.int 2), (.int 0)] _
    refine XS.isub z2.here hx rfl (hb hby y5_13) rfl ?_
    show own_Y p e below z9 m 14 #[.val (.ref sa35), .val (.ref sa49), .val (.int 0), .unset, .unset, .unset, .unset, .unset] [(.int 1), (.int 0)] _
    refine XS.icmpYes z2.here hx rfl (pc0 := 14) (pc' := 19) rfl (hb hby y5_14) rfl (flt (by decide : ¬ ((1 : Int32) < (0 : Int32)))).2.2.2 (by decide) (by decide) ?_
    show own_Y p e below z9 m 19 #[.val (.ref sa35), .val (.ref sa49), .val (.int 0), .unset, .unset, .unset, .unset, .unset] [] _
    refine XS.aloadN z2.here hx rfl (hb hby y5_19) rfl rfl ?_
    refine z19 _ ?_
    show own_Y p e below z17 m 23 #[.val (.ref sa35), .val (.ref sa49), .val (.int 0), .unset, .unset, .unset, .unset, .unset] [(.ref sb35)] _
    refine XS.astoreN za.here hx rfl (hb hby y5_23) rfl rfl (l' := #[.val (.ref sa35), .val (.ref sa49), .val (.int 0), .val (.ref sb35), .unset, .unset, .unset, .unset]) rfl ?_
    refine XS.aloadN za.here hx rfl (hb hby y5_24) rfl rfl ?_
    refine z1a _ ?_
    show own_Y p e below zo m 28 #[.val (.ref sa35), .val (.ref sa49), .val (.int 0), .val (.ref sb35), .unset, .unset, .unset, .unset] [(.ref sb49)] _
    refine XS.astore z1.here hx rfl (hb hby y5_28) rfl rfl (l' := #[.val (.ref sa35), .val (.ref sa49), .val (.int 0), .val (.ref sb35), .val (.ref sb49), .unset, .unset, .unset]) rfl ?_
    refine XS.iconst z1.here hx rfl (hb hby y5_30) ?_
    refine XS.istore z1.here hx rfl (hb hby y5_31) rfl (l' := #[.val (.ref sa35), .val (.ref sa49), .val (.int 0), .val (.ref sb35), .val (.ref sb49), .val (.int 0), .unset, .unset]) rfl ?_
    refine XS.aload z1.here hx rfl (hb hby y5_33) rfl rfl ?_
    refine z1.arraylength hx (by rw [zb]; exact zp.1) (State.isArrayOf_alike hZ.alike zp.2.1) (g := (mkF m 35 #[.val (.ref sa35), .val (.ref sa49), .val (.int 0), .val (.ref sb35), .val (.ref sb49), .val (.int 0), .unset, .unset] [(.ref sb49)])) rfl rfl (hb hby y5_35) _ ?_
    rw [len_of z1b z1c]
    show own_Y p e below zo m 36 #[.val (.ref sa35), .val (.ref sa49), .val (.int 0), .val (.ref sb35), .val (.ref sb49), .val (.int 0), .unset, .unset] [(.int 1)] _
    refine XS.istore z1.here hx rfl (hb hby y5_36) rfl (l' := #[.val (.ref sa35), .val (.ref sa49), .val (.int 0), .val (.ref sb35), .val (.ref sb49), .val (.int 0), .val (.int 1), .unset]) rfl ?_
    refine XS.aloadN z1.here hx rfl (hb hby y5_38) rfl rfl ?_
    refine zr.trans ?_
    show own_Y p e below z1f m 42 #[.val (.ref sa35), .val (.ref sa49), .val (.int 0), .val (.ref sb35), .val (.ref sb49), .val (.int 0), .val (.int 1), .unset] [(.int 0)] _
    refine XS.istore z3.here hx rfl (hb hby y5_42) rfl (l' := #[.val (.ref sa35), .val (.ref sa49), .val (.int 0), .val (.ref sb35), .val (.ref sb49), .val (.int 0), .val (.int 1), .val (.int 0)]) rfl ?_
    refine XS.iload z3.here hx rfl (hb hby y5_44) rfl ?_
    refine XS.aloadN z3.here hx rfl (hb hby y5_46) rfl rfl ?_
    refine zu.trans ?_
    show own_Y p e below zc m 50 #[.val (.ref sa35), .val (.ref sa49), .val (.int 0), .val (.ref sb35), .val (.ref sb49), .val (.int 0), .val (.int 1), .val (.int 0)] [(.int 0), (.int 0)] _
    refine XS.icmpNo z0.here hx rfl (hb hby y5_50) rfl (teq (by decide : (0 : Int32) = (0 : Int32))).2 ?_
    show own_Y p e below zc m 53 #[.val (.ref sa35), .val (.ref sa49), .val (.int 0), .val (.ref sb35), .val (.ref sb49), .val (.int 0), .val (.int 1), .val (.int 0)] [] _
    refine XS.iload z0.here hx rfl (hb hby y5_53) rfl ?_
    refine XS.iconst z0.here hx rfl (hb hby y5_55) ?_
    refine XS.icmpYes z0.here hx rfl (pc0 := 56) (pc' := 63) rfl (hb hby y5_56) rfl (feq (by decide : ¬ ((0 : Int32) = (1 : Int32)))).2 (by decide) (by decide) ?_
    show own_Y p e below zc m 63 #[.val (.ref sa35), .val (.ref sa49), .val (.int 0), .val (.ref sb35), .val (.ref sb49), .val (.int 0), .val (.int 1), .val (.int 0)] [] _
    refine XS.aloadN z0.here hx rfl (hb hby y5_63) rfl rfl ?_
    refine XS.iloadN z0.here hx rfl (hb hby y5_64) rfl ?_
    refine XS.aload z0.here hx rfl (hb hby y5_65) rfl rfl ?_
    refine XS.iconst z0.here hx rfl (hb hby y5_67) ?_
    refine XS.iload z0.here hx rfl (hb hby y5_68) rfl ?_
    refine zw _ ?_
    show own_Y p e below zd m 73 #[.val (.ref sa35), .val (.ref sa49), .val (.int 0), .val (.ref sb35), .val (.ref sb49), .val (.int 0), .val (.int 1), .val (.int 0)] [(.int 0)] _
    refine XS.ifYes z4.here hx rfl (pc0 := 73) (pc' := 80) rfl (hb hby y5_73) rfl ((if0 _ _).trans (flt (by decide : ¬ ((0 : Int32) < (0 : Int32)))).2.1) (by decide) (by decide) ?_
    show own_Y p e below zd m 80 #[.val (.ref sa35), .val (.ref sa49), .val (.int 0), .val (.ref sb35), .val (.ref sb49), .val (.int 0), .val (.int 1), .val (.int 0)] [] _
    refine XS.iconst z4.here hx rfl (hb hby y5_80) ?_
    exact retN z4 hx (t := .boolean) Bd.returns (by simp) (hb hby y5_81) hr
  · show PQ (some (.int 0)) h0 n0 _ zd.heap _
    rw [z1o]
    exact ⟨rfl, z1p, rfl⟩
theorem y6_0 : decode jdk_42_method_76_code 0 = .ok (.aload_n 0, 1) := by decide +kernel
theorem y6_1 : decode jdk_42_method_76_code 1 = .ok (.aload_n 1, 1) := by decide +kernel
theorem y6_2 : decode jdk_42_method_76_code 2 = .ok (.iconst 0, 1) := by decide +kernel
theorem y6_3 : decode jdk_42_method_76_code 3 = .ok (.invokevirtual 624, 3) := by decide +kernel
theorem y6_6 : decode jdk_42_method_76_code 6 = .ok (.ireturn, 1) := by decide +kernel
theorem rm5 (l : Launch) (Z : State) (a0 : Array Value) (hw : ∀ d ∈ tables_1, d.before a0 Z = true) (ws : List Jvm.Cond) (h0 : Heap) (n0 : Nat) (p1 : Int32) (A : Nat → Addr) (K : Nat → ClassId) (cs : Int32)  (sb35 : Addr) (sa35 : Addr) (sb49 : Addr) (sa49 : Addr) (kc35 : ClassId) (kc49 : ClassId) (EN : own_St Z A K cs) (OL0 : Old Z n0 h0) (z1 : Exa Z h0 sa35 y_s2) (z5 : Fld Z h0 sa35 y_s2 "value" "[B" (.ref sb35)) (z6 : Arv Z h0 sb35 kc35 .byte (2 : Int32) [(.int 48), (.int 48)] (.int 0)) (z7 : Fld Z h0 sa35 y_s2 "coder" "B" (.int 0)) (z8 : Exa Z h0 sa49 y_s2) (z9 : Fld Z h0 sa49 y_s2 "value" "[B" (.ref sb49)) (za : Arv Z h0 sb49 kc49 .byte (1 : Int32) [(.int 45)] (.int 0)) (zb : Fld Z h0 sa49 y_s2 "coder" "B" (.int 0)) :
    own_MF l Z own_m11 jdk_42_method_76_code 2 (some .boolean) ws (Room.mk 3 0 0 46) #[(.ref sa35), (.ref sa49)] h0 (PQ (some (.int 0)) h0 n0) := by
  refine MetFree.of_bodySF (plainFor_of_name own_pn1) hisR ?_
  intro p e s m args below meth c s₁ Bd hml0 hP hK
  obtain ⟨rfl, hZ, hh⟩ := hP
  have hx := Bd.exec
  have hby := Bd.bytes
  have hml : c.maxLocals = 2 := hml0
  have hown : s.vm.findClass y_s2 = some m.cls := findClass_of_methodNamed Bd.named
  have hnm := (name_of_methodNamed Bd.named Bd.method).1
  have X0 : Stand p l e (Room.mk 3 0 0 46) s m #[(.ref sa35), (.ref sa49)] below meth c s₁ [] 0 0 := Stand.of_body Bd
  have e0 : s₁.heap = h0 := by rw [← hh, Bd.state]; rfl
  have N0 := Fr.nil n0
  have pre0 : own_P p e below s₁ m 0 #[.val (.ref sa35), .val (.ref sa49)] [] s₁ #[(.ref sa35), (.ref sa49)] 2 := fun t k => castTop (by first | (simp [entryFrame, mkF, argsToLocals, Value.category, maxLocals]; done) | rfl) k
  have KK0 : Keep h0 h0 [] := Keep.refl _ _
  obtain ⟨cq64, kq64, zc, zh, zd⟩ := isOf hZ e0 z1
  obtain ⟨_, _, ⟨z2, L64, zi, n64⟩, -, z0, ⟨Lc64, z3, l64, y64, z64⟩, z4⟩ := X0.virtualBack hx (y := own_m16) (z := own_m16) hown (mvT hZ (own_W hw 49 rfl)) (mvT hZ (own_W hw 50 rfl)) (notFace_of_selects (args := #[]) (mvT hZ (own_W hw 52 rfl))) (mvT hZ (own_W hw 52 rfl)) (mvT hZ (own_W hw 51 rfl)) (by decide) (backOf (W := 0) (rm6 l Z a0 hw [] h0 n0 p1 A K cs sb35 sa35 sb49 sa49 kc35 kc49 EN OL0 z1 z5 z6 z7 z8 z9 za zb) hZ (own_W hw 53 rfl) (own_W hw 9 rfl) (by decide) (by decide)) zc zd (g := (mkF m 3 #[.val (.ref sa35), .val (.ref sa49)] [(.int 0), (.ref sa49), (.ref sa35)])) rfl (by rw [hml]; rfl) (Steps.refl _) (argsL := [(.ref sa49), (.int 0)]) (rest := []) (lenOf own_pd4 rfl) rfl (by show 2 * 0 + _ ≤ _; exact Nat.le_of_eq rfl) (hb hby y6_3) (fun _ _ => ⟨rfl, e0, (by decide : 0 + 0 ≤ _), (by decide : 0 + 0 ≤ _)⟩)
  dsimp only [Pt.U, Pt.locs, Pt.cells, Pt.slots] at z0 l64 y64 z64 z4 z3
  replace z0 := own_sub z0 l64 y64 z64
  obtain ⟨rfl, ze, zf⟩ := z3
  have zg := Fr.app N0 ze
  obtain ⟨fs, hr, hrun, hended, hW, hsame⟩ := z0.leave (v := some (.int 0)) (fun h => by rw [Bd.returns] at h; cases h)
  refine ⟨_, _, pre0 _ ?_, hrun, hended, _, _, rfl, ?_, ⟨_, rfl⟩, hW, hsame.mono (by decide) (by decide)⟩
  · show own_Y p e below s₁ m 0 #[.val (.ref sa35), .val (.ref sa49)] [] _
    refine XS.aloadN X0.here hx rfl (hb hby y6_0) rfl rfl ?_
    refine XS.aloadN X0.here hx rfl (hb hby y6_1) rfl rfl ?_
    refine XS.iconst X0.here hx rfl (hb hby y6_2) ?_
    refine z4.trans ?_
    show own_Y p e below z2 m 6 #[.val (.ref sa35), .val (.ref sa49)] [(.int 0)] _
    exact retN z0 hx (t := .boolean) Bd.returns (by simp) (hb hby y6_6) hr
  · show PQ (some (.int 0)) h0 n0 _ z2.heap _
    rw [zf]
    exact ⟨rfl, zg, rfl⟩
theorem y7_0 : decode jdk_42_method_154_code 0 = .ok (.getstatic 38, 3) := by decide +kernel
theorem y7_3 : decode jdk_42_method_154_code 3 = .ok (.ifCond .eq 14, 3) := by decide +kernel
theorem y7_6 : decode jdk_42_method_154_code 6 = .ok (.aload_n 0, 1) := by decide +kernel
theorem y7_7 : decode jdk_42_method_154_code 7 = .ok (.getfield 15, 3) := by decide +kernel
theorem y7_10 : decode jdk_42_method_154_code 10 = .ok (.ifCond .ne 7, 3) := by decide +kernel
theorem y7_13 : decode jdk_42_method_154_code 13 = .ok (.iconst 1, 1) := by decide +kernel
theorem y7_14 : decode jdk_42_method_154_code 14 = .ok (.goto 4, 3) := by decide +kernel
theorem y7_18 : decode jdk_42_method_154_code 18 = .ok (.ireturn, 1) := by decide +kernel
theorem rm11 (l : Launch) (Z : State) (a0 : Array Value) (hw : ∀ d ∈ tables_1, d.before a0 Z = true) (ws : List Jvm.Cond) (h0 : Heap) (n0 : Nat) (p1 : Int32) (A : Nat → Addr) (K : Nat → ClassId) (cs : Int32)  (sa35 : Addr) (EN : own_St Z A K cs) (OL0 : Old Z n0 h0) (z4 : Fld Z h0 sa35 y_s2 "coder" "B" (.int 0)) :
    own_MF l Z own_m15 jdk_42_method_154_code 1 (some .boolean) ws (Room.mk 0 0 0 0) #[(.ref sa35)] h0 (PQ (some (.int 1)) h0 n0) := by
  refine MetFree.of_bodySF (plainFor_of_name own_pn1) hisR ?_
  intro p e s m args below meth c s₁ Bd hml0 hP hK
  obtain ⟨rfl, hZ, hh⟩ := hP
  have hx := Bd.exec
  have hby := Bd.bytes
  have hml : c.maxLocals = 1 := hml0
  have hown : s.vm.findClass y_s2 = some m.cls := findClass_of_methodNamed Bd.named
  have hnm := (name_of_methodNamed Bd.named Bd.method).1
  have X0 : Stand p l e (Room.mk 0 0 0 0) s m #[(.ref sa35)] below meth c s₁ [] 0 0 := Stand.of_body Bd
  have e0 : s₁.heap = h0 := by rw [← hh, Bd.state]; rfl
  have N0 := Fr.nil n0
  have pre0 : own_P p e below s₁ m 0 #[.val (.ref sa35)] [] s₁ #[(.ref sa35)] 1 := fun t k => castTop (by first | (simp [entryFrame, mkF, argsToLocals, Value.category, maxLocals]; done) | rfl) k
  have KK0 : Keep h0 h0 [] := Keep.refl _ _
  obtain ⟨z3, z1, z5, z6⟩ := getS2 X0 hx hZ hown (host := "") (Or.inl (own_W hw 32 rfl)) Via.refl e0 (EN.2.2.2.2.2.2.2.1.1.ext OL0.2) (g := (mkF m 0 #[.val (.ref sa35)] [])) rfl (hb hby y7_0)
  obtain ⟨z2, z0, z7, z8⟩ := getF z1 hx hZ hown (host := "") (Or.inl (own_W hw 33 rfl)) Via.refl z5 z4 (g := (mkF m 7 #[.val (.ref sa35)] [(.ref sa35)])) rfl rfl (hb hby y7_7)
  obtain ⟨fs, hr, hrun, hended, hW, hsame⟩ := z0.leave (v := some (.int 1)) (fun h => by rw [Bd.returns] at h; cases h)
  refine ⟨_, _, pre0 _ ?_, hrun, hended, _, _, rfl, ?_, ⟨_, rfl⟩, hW, hsame.mono (by decide) (by decide)⟩
  · show own_Y p e below s₁ m 0 #[.val (.ref sa35)] [] _
    refine z6 _ ?_
    show own_Y p e below z3 m 3 #[.val (.ref sa35)] [(.int cs)] _
    refine XS.ifNo z1.here hx rfl (hb hby y7_3) rfl ((if0 _ _).trans (feq EN.2.2.2.2.2.2.2.1.2.1).1) ?_
    show own_Y p e below z3 m 6 #[.val (.ref sa35)] [] _
    refine XS.aloadN z1.here hx rfl (hb hby y7_6) rfl rfl ?_
    refine z8 _ ?_
    show own_Y p e below z2 m 10 #[.val (.ref sa35)] [(.int 0)] _
    refine XS.ifNo z0.here hx rfl (hb hby y7_10) rfl ((if0 _ _).trans (teq (by decide : (0 : Int32) = (0 : Int32))).2) ?_
    show own_Y p e below z2 m 13 #[.val (.ref sa35)] [] _
    refine XS.iconst z0.here hx rfl (hb hby y7_13) ?_
    refine XS.goto z0.here hx rfl (pc0 := 14) (pc' := 18) rfl (hb hby y7_14) (by decide) (by decide) ?_
    exact retN z0 hx (t := .boolean) Bd.returns (by simp) (hb hby y7_18) hr
  · show PQ (some (.int 1)) h0 n0 _ z2.heap _
    rw [z7]
    exact ⟨rfl, N0, rfl⟩
theorem y8_0 : decode jdk_41_method_11_code 0 = .ok (.iload_n 0, 1) := by decide +kernel
theorem y8_1 : decode jdk_41_method_11_code 1 = .ok (.ifCond .lt 8, 3) := by decide +kernel
theorem y8_4 : decode jdk_41_method_11_code 4 = .ok (.iload_n 0, 1) := by decide +kernel
theorem y8_5 : decode jdk_41_method_11_code 5 = .ok (.iload_n 1, 1) := by decide +kernel
theorem y8_6 : decode jdk_41_method_11_code 6 = .ok (.if_icmp .lt 10, 3) := by decide +kernel
theorem y8_16 : decode jdk_41_method_11_code 16 = .ok (.iload_n 0, 1) := by decide +kernel
theorem y8_17 : decode jdk_41_method_11_code 17 = .ok (.ireturn, 1) := by decide +kernel
theorem own_pn4 : plainName "jdk/internal/util/Preconditions" = true := by first | (simp [plainName, overriddenIn]; done) | decide +kernel
theorem rm14 (l : Launch) (Z : State) (a0 : Array Value) (hw : ∀ d ∈ tables_1, d.before a0 Z = true) (ws : List Jvm.Cond) (h0 : Heap) (n0 : Nat) (p1 : Int32) (A : Nat → Addr) (K : Nat → ClassId) (cs : Int32)  (EN : own_St Z A K cs) (OL0 : Old Z n0 h0) :
    own_MF l Z own_m12 jdk_41_method_11_code 3 (some .int) ws (Room.mk 0 0 0 0) #[(.int 0), (.int 2), .null] h0 (PQ (some (.int 0)) h0 n0) := by
  refine MetFree.of_bodySF (plainFor_of_name own_pn4) hisR ?_
  intro p e s m args below meth c s₁ Bd hml0 hP hK
  obtain ⟨rfl, hZ, hh⟩ := hP
  have hx := Bd.exec
  have hby := Bd.bytes
  have hml : c.maxLocals = 3 := hml0
  have hown : s.vm.findClass "jdk/internal/util/Preconditions" = some m.cls := findClass_of_methodNamed Bd.named
  have hnm := (name_of_methodNamed Bd.named Bd.method).1
  have X0 : Stand p l e (Room.mk 0 0 0 0) s m #[(.int 0), (.int 2), .null] below meth c s₁ [] 0 0 := Stand.of_body Bd
  have e0 : s₁.heap = h0 := by rw [← hh, Bd.state]; rfl
  have N0 := Fr.nil n0
  have pre0 : own_P p e below s₁ m 0 #[.val (.int 0), .val (.int 2), .val .null] [] s₁ #[(.int 0), (.int 2), .null] 3 := fun t k => castTop (by first | (simp [entryFrame, mkF, argsToLocals, Value.category, maxLocals]; done) | rfl) k
  have KK0 : Keep h0 h0 [] := Keep.refl _ _
  obtain ⟨fs, hr, hrun, hended, hW, hsame⟩ := X0.leave (v := some (.int 0)) (fun h => by rw [Bd.returns] at h; cases h)
  refine ⟨_, _, pre0 _ ?_, hrun, hended, _, _, rfl, ?_, ⟨_, rfl⟩, hW, hsame.mono (by decide) (by decide)⟩
  · show own_Y p e below s₁ m 0 #[.val (.int 0), .val (.int 2), .val .null] [] _
    refine XS.iloadN X0.here hx rfl (hb hby y8_0) rfl ?_
    refine XS.ifNo X0.here hx rfl (hb hby y8_1) rfl ((if0 _ _).trans (flt (by decide : ¬ ((0 : Int32) < (0 : Int32)))).1) ?_
    show own_Y p e below s₁ m 4 #[.val (.int 0), .val (.int 2), .val .null] [] _
    refine XS.iloadN X0.here hx rfl (hb hby y8_4) rfl ?_
    refine XS.iloadN X0.here hx rfl (hb hby y8_5) rfl ?_
    refine XS.icmpYes X0.here hx rfl (pc0 := 6) (pc' := 16) rfl (hb hby y8_6) rfl (tlt (by decide : (0 : Int32) < (2 : Int32))).1 (by decide) (by decide) ?_
    show own_Y p e below s₁ m 16 #[.val (.int 0), .val (.int 2), .val .null] [] _
    refine XS.iloadN X0.here hx rfl (hb hby y8_16) rfl ?_
    exact retI X0 hx Bd.returns (hb hby y8_17) hr
  · show PQ (some (.int 0)) h0 n0 _ s₁.heap _
    rw [e0]
    exact ⟨rfl, N0, rfl⟩
theorem rm15 (l : Launch) (Z : State) (a0 : Array Value) (hw : ∀ d ∈ tables_1, d.before a0 Z = true) (ws : List Jvm.Cond) (h0 : Heap) (n0 : Nat) (p1 : Int32) (A : Nat → Addr) (K : Nat → ClassId) (cs : Int32)  (af76 : Addr) (EN : own_St Z A K cs) (OL0 : Old Z n0 h0) :
    own_MF l Z own_m12 jdk_41_method_11_code 3 (some .int) ws (Room.mk 0 0 0 0) #[(.int 0), (.int 2), (.ref af76)] h0 (PQ (some (.int 0)) h0 n0) := by
  refine MetFree.of_bodySF (plainFor_of_name own_pn4) hisR ?_
  intro p e s m args below meth c s₁ Bd hml0 hP hK
  obtain ⟨rfl, hZ, hh⟩ := hP
  have hx := Bd.exec
  have hby := Bd.bytes
  have hml : c.maxLocals = 3 := hml0
  have hown : s.vm.findClass "jdk/internal/util/Preconditions" = some m.cls := findClass_of_methodNamed Bd.named
  have hnm := (name_of_methodNamed Bd.named Bd.method).1
  have X0 : Stand p l e (Room.mk 0 0 0 0) s m #[(.int 0), (.int 2), (.ref af76)] below meth c s₁ [] 0 0 := Stand.of_body Bd
  have e0 : s₁.heap = h0 := by rw [← hh, Bd.state]; rfl
  have N0 := Fr.nil n0
  have pre0 : own_P p e below s₁ m 0 #[.val (.int 0), .val (.int 2), .val (.ref af76)] [] s₁ #[(.int 0), (.int 2), (.ref af76)] 3 := fun t k => castTop (by first | (simp [entryFrame, mkF, argsToLocals, Value.category, maxLocals]; done) | rfl) k
  have KK0 : Keep h0 h0 [] := Keep.refl _ _
  obtain ⟨fs, hr, hrun, hended, hW, hsame⟩ := X0.leave (v := some (.int 0)) (fun h => by rw [Bd.returns] at h; cases h)
  refine ⟨_, _, pre0 _ ?_, hrun, hended, _, _, rfl, ?_, ⟨_, rfl⟩, hW, hsame.mono (by decide) (by decide)⟩
  · show own_Y p e below s₁ m 0 #[.val (.int 0), .val (.int 2), .val (.ref af76)] [] _
    refine XS.iloadN X0.here hx rfl (hb hby y8_0) rfl ?_
    refine XS.ifNo X0.here hx rfl (hb hby y8_1) rfl ((if0 _ _).trans (flt (by decide : ¬ ((0 : Int32) < (0 : Int32)))).1) ?_
    show own_Y p e below s₁ m 4 #[.val (.int 0), .val (.int 2), .val (.ref af76)] [] _
    refine XS.iloadN X0.here hx rfl (hb hby y8_4) rfl ?_
    refine XS.iloadN X0.here hx rfl (hb hby y8_5) rfl ?_
    refine XS.icmpYes X0.here hx rfl (pc0 := 6) (pc' := 16) rfl (hb hby y8_6) rfl (tlt (by decide : (0 : Int32) < (2 : Int32))).1 (by decide) (by decide) ?_
    show own_Y p e below s₁ m 16 #[.val (.int 0), .val (.int 2), .val (.ref af76)] [] _
    refine XS.iloadN X0.here hx rfl (hb hby y8_16) rfl ?_
    exact retI X0 hx Bd.returns (hb hby y8_17) hr
  · show PQ (some (.int 0)) h0 n0 _ s₁.heap _
    rw [e0]
    exact ⟨rfl, N0, rfl⟩
theorem y9_0 : decode jdk_42_method_155_code 0 = .ok (.iload_n 0, 1) := by decide +kernel
theorem y9_1 : decode jdk_42_method_155_code 1 = .ok (.iload_n 1, 1) := by decide +kernel
theorem y9_2 : decode jdk_42_method_155_code 2 = .ok (.getstatic 1053, 3) := by decide +kernel
theorem y9_5 : decode jdk_42_method_155_code 5 = .ok (.invokestatic 1059, 3) := by decide +kernel
theorem y9_8 : decode jdk_42_method_155_code 8 = .ok (.pop, 1) := by decide +kernel
theorem y9_9 : decode jdk_42_method_155_code 9 = .ok (.return_, 1) := by decide +kernel
theorem rm13 (l : Launch) (Z : State) (a0 : Array Value) (hw : ∀ d ∈ tables_1, d.before a0 Z = true) (ws : List Jvm.Cond) (h0 : Heap) (n0 : Nat) (p1 : Int32) (A : Nat → Addr) (K : Nat → ClassId) (cs : Int32)  (EN : own_St Z A K cs) (OL0 : Old Z n0 h0) :
    own_MF l Z own_m17 jdk_42_method_155_code 2 none ws (Room.mk 1 0 0 14) #[(.int 0), (.int 2)] h0 (PQ none h0 n0) := by
  refine MetFree.of_bodySF (plainFor_of_name own_pn1) hisR ?_
  intro p e s m args below meth c s₁ Bd hml0 hP hK
  obtain ⟨rfl, hZ, hh⟩ := hP
  have hx := Bd.exec
  have hby := Bd.bytes
  have hml : c.maxLocals = 2 := hml0
  have hown : s.vm.findClass y_s2 = some m.cls := findClass_of_methodNamed Bd.named
  have hnm := (name_of_methodNamed Bd.named Bd.method).1
  have X0 : Stand p l e (Room.mk 1 0 0 14) s m #[(.int 0), (.int 2)] below meth c s₁ [] 0 0 := Stand.of_body Bd
  have e0 : s₁.heap = h0 := by rw [← hh, Bd.state]; rfl
  have N0 := Fr.nil n0
  have pre0 : own_P p e below s₁ m 0 #[.val (.int 0), .val (.int 2)] [] s₁ #[(.int 0), (.int 2)] 2 := fun t k => castTop (by first | (simp [entryFrame, mkF, argsToLocals, Value.category, maxLocals]; done) | rfl) k
  have KK0 : Keep h0 h0 [] := Keep.refl _ _
  have z2 : own_P p e below s₁ m 2 #[.val (.int 0), .val (.int 2)] [(.int 2), (.int 0)] s₁ #[(.int 0), (.int 2)] 2 := fun t k => pre0 t (by
    show own_Y p e below s₁ m 0 #[.val (.int 0), .val (.int 2)] [] _
    refine XS.iloadN X0.here hx rfl (hb hby y9_0) rfl ?_
    refine XS.iloadN X0.here hx rfl (hb hby y9_1) rfl ?_
    exact k)
  rcases EN.2.2.2.2.2.2.2.1.2.2.1 with SF76 | ⟨af76, SF76⟩
  · obtain ⟨z9, za, zb, zc⟩ := getS2 X0 hx hZ hown (host := "") (Or.inl (own_W hw 79 rfl)) Via.refl e0 (SF76.ext OL0.2) (g := (mkF m 2 #[.val (.int 0), .val (.int 2)] [(.int 2), (.int 0)])) rfl (hb hby y9_2)
    obtain ⟨_, _, ⟨z3, L78, zn, n78⟩, -, z0, ⟨Lc78, z4, l78, y78, z78⟩, z5⟩ := Jvm.LawKit.callS za hx (y := own_m12) hown (mvT hZ (own_W hw 81 rfl)) (mvT hZ (own_W hw 82 rfl)) (mvT hZ (own_W hw 80 rfl)) (mvT hZ (own_W hw 83 rfl)) (by decide) (backOf (W := 0) (rm14 l Z a0 hw [] h0 n0 p1 A K cs EN OL0) hZ (own_W hw 83 rfl) (own_W hw 80 rfl) (by decide) (by decide)) (g := (mkF m 5 #[.val (.int 0), .val (.int 2)] [.null, (.int 2), (.int 0)])) rfl (by rw [hml]; rfl) (argsL := [(.int 0), (.int 2), .null]) (rest := []) (lenOf own_pd7 rfl) rfl (by show 2 * 0 + _ ≤ _; exact Nat.le_of_eq rfl) (hb hby y9_5) (fun _ _ => ⟨rfl, zb, (by decide : 0 + 0 ≤ _), (by decide : 0 + 0 ≤ _)⟩)
    dsimp only [Pt.U, Pt.locs, Pt.cells, Pt.slots] at z0 l78 y78 z78 z5 z4
    replace z0 := own_sub z0 l78 y78 z78
    obtain ⟨rfl, zd, ze⟩ := z4
    have zf := Fr.app N0 zd
    obtain ⟨fs, hr, hrun, hended, hW, hsame⟩ := z0.leave (v := none) (fun _ => rfl)
    refine ⟨_, _, z2 _ ?_, hrun, hended, _, _, rfl, ?_, ⟨_, rfl⟩, hW, hsame.mono (by decide) (by decide)⟩
    · show own_Y p e below s₁ m 2 #[.val (.int 0), .val (.int 2)] [(.int 2), (.int 0)] _
      refine zc _ ?_
      show own_Y p e below z9 m 5 #[.val (.int 0), .val (.int 2)] [.null, (.int 2), (.int 0)] _
      refine z5 _ ?_
      show own_Y p e below z3 m 8 #[.val (.int 0), .val (.int 2)] [(.int 0)] _
      refine XS.pop z0.here hx rfl (hb hby y9_8) rfl rfl ?_
      exact z0.returnOut hx Bd.returns (hb hby y9_9) hr
    · show PQ none h0 n0 _ z3.heap _
      rw [ze]
      exact ⟨rfl, zf, rfl⟩
  · obtain ⟨zg, zh, zi, zj⟩ := getS2 X0 hx hZ hown (host := "") (Or.inl (own_W hw 79 rfl)) Via.refl e0 (SF76.ext OL0.2) (g := (mkF m 2 #[.val (.int 0), .val (.int 2)] [(.int 2), (.int 0)])) rfl (hb hby y9_2)
    obtain ⟨_, _, ⟨z6, L80, zo, n80⟩, -, z1, ⟨Lc80, z7, l80, y80, z80⟩, z8⟩ := Jvm.LawKit.callS zh hx (y := own_m12) hown (mvT hZ (own_W hw 81 rfl)) (mvT hZ (own_W hw 82 rfl)) (mvT hZ (own_W hw 80 rfl)) (mvT hZ (own_W hw 83 rfl)) (by decide) (backOf (W := 0) (rm15 l Z a0 hw [] h0 n0 p1 A K cs af76 EN OL0) hZ (own_W hw 83 rfl) (own_W hw 80 rfl) (by decide) (by decide)) (g := (mkF m 5 #[.val (.int 0), .val (.int 2)] [(.ref af76), (.int 2), (.int 0)])) rfl (by rw [hml]; rfl) (argsL := [(.int 0), (.int 2), (.ref af76)]) (rest := []) (lenOf own_pd7 rfl) rfl (by show 2 * 0 + _ ≤ _; exact Nat.le_of_eq rfl) (hb hby y9_5) (fun _ _ => ⟨rfl, zi, (by decide : 0 + 0 ≤ _), (by decide : 0 + 0 ≤ _)⟩)
    dsimp only [Pt.U, Pt.locs, Pt.cells, Pt.slots] at z1 l80 y80 z80 z8 z7
    replace z1 := own_sub z1 l80 y80 z80
    obtain ⟨rfl, zk, zl⟩ := z7
    have zm := Fr.app N0 zk
    obtain ⟨fs, hr, hrun, hended, hW, hsame⟩ := z1.leave (v := none) (fun _ => rfl)
    refine ⟨_, _, z2 _ ?_, hrun, hended, _, _, rfl, ?_, ⟨_, rfl⟩, hW, hsame.mono (by decide) (by decide)⟩
    · show own_Y p e below s₁ m 2 #[.val (.int 0), .val (.int 2)] [(.int 2), (.int 0)] _
      refine zj _ ?_
      show own_Y p e below zg m 5 #[.val (.int 0), .val (.int 2)] [(.ref af76), (.int 2), (.int 0)] _
      refine z8 _ ?_
      show own_Y p e below z6 m 8 #[.val (.int 0), .val (.int 2)] [(.int 0)] _
      refine XS.pop z1.here hx rfl (hb hby y9_8) rfl rfl ?_
      exact z1.returnOut hx Bd.returns (hb hby y9_9) hr
    · show PQ none h0 n0 _ z6.heap _
      rw [zl]
      exact ⟨rfl, zm, rfl⟩
theorem ya_0 : decode jdk_43_method_2_code 0 = .ok (.iload_n 1, 1) := by decide +kernel
theorem ya_1 : decode jdk_43_method_2_code 1 = .ok (.aload_n 0, 1) := by decide +kernel
theorem ya_2 : decode jdk_43_method_2_code 2 = .ok (.arraylength, 1) := by decide +kernel
theorem ya_3 : decode jdk_43_method_2_code 3 = .ok (.invokestatic 9, 3) := by decide +kernel
theorem ya_6 : decode jdk_43_method_2_code 6 = .ok (.aload_n 0, 1) := by decide +kernel
theorem ya_7 : decode jdk_43_method_2_code 7 = .ok (.iload_n 1, 1) := by decide +kernel
theorem ya_8 : decode jdk_43_method_2_code 8 = .ok (.baload, 1) := by decide +kernel
theorem ya_9 : decode jdk_43_method_2_code 9 = .ok (.sipush 255, 3) := by decide +kernel
theorem ya_12 : decode jdk_43_method_2_code 12 = .ok (.iand, 1) := by decide +kernel
theorem ya_13 : decode jdk_43_method_2_code 13 = .ok (.i2c, 1) := by decide +kernel
theorem ya_14 : decode jdk_43_method_2_code 14 = .ok (.ireturn, 1) := by decide +kernel
theorem own_pn5 : plainName "java/lang/StringLatin1" = true := by first | (simp [plainName, overriddenIn]; done) | decide +kernel
theorem rm12 (l : Launch) (Z : State) (a0 : Array Value) (hw : ∀ d ∈ tables_1, d.before a0 Z = true) (ws : List Jvm.Cond) (h0 : Heap) (n0 : Nat) (p1 : Int32) (A : Nat → Addr) (K : Nat → ClassId) (cs : Int32)  (sb35 : Addr) (kc35 : ClassId) (EN : own_St Z A K cs) (OL0 : Old Z n0 h0) (z3 : Arv Z h0 sb35 kc35 .byte (2 : Int32) [(.int 48), (.int 48)] (.int 0)) :
    own_MF l Z own_m13 jdk_43_method_2_code 2 (some .char) ws (Room.mk 2 0 0 27) #[(.ref sb35), (.int 0)] h0 (PQ (some (.int 48)) h0 n0) := by
  refine MetFree.of_bodySF (plainFor_of_name own_pn5) hisR ?_
  intro p e s m args below meth c s₁ Bd hml0 hP hK
  obtain ⟨rfl, hZ, hh⟩ := hP
  have hx := Bd.exec
  have hby := Bd.bytes
  have hml : c.maxLocals = 2 := hml0
  have hown : s.vm.findClass "java/lang/StringLatin1" = some m.cls := findClass_of_methodNamed Bd.named
  have hnm := (name_of_methodNamed Bd.named Bd.method).1
  have X0 : Stand p l e (Room.mk 2 0 0 27) s m #[(.ref sb35), (.int 0)] below meth c s₁ [] 0 0 := Stand.of_body Bd
  have e0 : s₁.heap = h0 := by rw [← hh, Bd.state]; rfl
  have N0 := Fr.nil n0
  have pre0 : own_P p e below s₁ m 0 #[.val (.ref sb35), .val (.int 0)] [] s₁ #[(.ref sb35), (.int 0)] 2 := fun t k => castTop (by first | (simp [entryFrame, mkF, argsToLocals, Value.category, maxLocals]; done) | rfl) k
  have KK0 : Keep h0 h0 [] := Keep.refl _ _
  obtain ⟨zh, z4, -, za, zb, -, -⟩ := (id z3)
  obtain ⟨_, _, ⟨z1, L81, zi, n81⟩, -, z0, ⟨Lc81, z5, l81, y81, z81⟩, z6⟩ := Jvm.LawKit.callS X0 hx (y := own_m17) hown (mvT hZ (own_W hw 76 rfl)) (mvT hZ (own_W hw 77 rfl)) (mvT hZ (own_W hw 9 rfl)) (mvT hZ (own_W hw 78 rfl)) (by decide) (backOf (W := 0) (rm13 l Z a0 hw [] h0 n0 p1 A K cs EN OL0) hZ (own_W hw 78 rfl) (own_W hw 9 rfl) (by decide) (by decide)) (g := (mkF m 3 #[.val (.ref sb35), .val (.int 0)] [(.int 2), (.int 0)])) rfl (by rw [hml]; rfl) (argsL := [(.int 0), (.int 2)]) (rest := []) (lenOf own_pd8 rfl) rfl (by show 2 * 0 + _ ≤ _; exact Nat.le_of_eq rfl) (hb hby ya_3) (fun _ _ => ⟨rfl, e0, (by decide : 0 + 0 ≤ _), (by decide : 0 + 0 ≤ _)⟩)
  dsimp only [Pt.U, Pt.locs, Pt.cells, Pt.slots] at z0 l81 y81 z81 z6 z5
  replace z0 := own_sub z0 l81 y81 z81
  obtain ⟨rfl, zc, z7⟩ := z5
  have zd := Fr.app N0 zc
  obtain ⟨z8, z2, zj, ze, zk, zf, zl⟩ := (id z3)
  have z9 : ¬ ((0 : Int32) < 0 ∨ z8.slots.size ≤ ((0 : Int32)).toNatClampNeg) := inb_of ze ⟨by decide, by decide⟩
  have zg : z8.slots[((0 : Int32)).toNatClampNeg]? = some (.int 48) := Has.at zf z9 rfl
  obtain ⟨fs, hr, hrun, hended, hW, hsame⟩ := z0.leave (v := some (.int 48)) (fun h => by rw [Bd.returns] at h; cases h)
  refine ⟨_, _, pre0 _ ?_, hrun, hended, _, _, rfl, ?_, ⟨_, rfl⟩, hW, hsame.mono (by decide) (by decide)⟩
  · show own_Y p e below s₁ m 0 #[.val (.ref sb35), .val (.int 0)] [] _
    refine XS.iloadN X0.here hx rfl (hb hby ya_0) rfl ?_
    refine XS.aloadN X0.here hx rfl (hb hby ya_1) rfl rfl ?_
    refine X0.arraylength hx (by rw [e0]; exact z4.1) (State.isArrayOf_alike hZ.alike z4.2.1) (g := (mkF m 2 #[.val (.ref sb35), .val (.int 0)] [(.ref sb35), (.int 0)])) rfl rfl (hb hby ya_2) _ ?_
    rw [len_of za zb]
    show own_Y p e below s₁ m 3 #[.val (.ref sb35), .val (.int 0)] [(.int 2), (.int 0)] _
    refine z6 _ ?_
    show own_Y p e below z1 m 6 #[.val (.ref sb35), .val (.int 0)] [] _
    refine XS.aloadN z0.here hx rfl (hb hby ya_6) rfl rfl ?_
    refine XS.iloadN z0.here hx rfl (hb hby ya_7) rfl ?_
    refine z0.baloadBytes hx (j := (0 : Int32)) (v := (.int 48)) (by rw [z7]; exact z2.1) (State.isArrayOf_alike hZ.alike z2.2.1) z2.2.2 z9 zg (g := (mkF m 8 #[.val (.ref sb35), .val (.int 0)] [(.int 0), (.ref sb35)])) rfl rfl (hb hby ya_8) _ ?_
    show own_Y p e below z1 m 9 #[.val (.ref sb35), .val (.int 0)] [(.int 48)] _
    refine XS.sipush z0.here hx rfl (hb hby ya_9) ?_
    refine XS.iand z0.here hx rfl (hb hby ya_12) rfl ?_
    show own_Y p e below z1 m 13 #[.val (.ref sb35), .val (.int 0)] [(.int 48)] _
    refine XS.i2c z0.here hx rfl (hb hby ya_13) rfl ?_
    show own_Y p e below z1 m 14 #[.val (.ref sb35), .val (.int 0)] [(.int 48)] _
    exact retN z0 hx (t := .char) Bd.returns (by simp) (hb hby ya_14) hr
  · show PQ (some (.int 48)) h0 n0 _ z1.heap _
    rw [z7]
    exact ⟨rfl, zd, rfl⟩
theorem yb_0 : decode jdk_42_method_56_code 0 = .ok (.aload_n 0, 1) := by decide +kernel
theorem yb_1 : decode jdk_42_method_56_code 1 = .ok (.invokevirtual 492, 3) := by decide +kernel
theorem yb_4 : decode jdk_42_method_56_code 4 = .ok (.ifCond .eq 12, 3) := by decide +kernel
theorem yb_7 : decode jdk_42_method_56_code 7 = .ok (.aload_n 0, 1) := by decide +kernel
theorem yb_8 : decode jdk_42_method_56_code 8 = .ok (.getfield 9, 3) := by decide +kernel
theorem yb_11 : decode jdk_42_method_56_code 11 = .ok (.iload_n 1, 1) := by decide +kernel
theorem yb_12 : decode jdk_42_method_56_code 12 = .ok (.invokestatic 495, 3) := by decide +kernel
theorem yb_15 : decode jdk_42_method_56_code 15 = .ok (.ireturn, 1) := by decide +kernel
theorem rm10 (l : Launch) (Z : State) (a0 : Array Value) (hw : ∀ d ∈ tables_1, d.before a0 Z = true) (ws : List Jvm.Cond) (h0 : Heap) (n0 : Nat) (p1 : Int32) (A : Nat → Addr) (K : Nat → ClassId) (cs : Int32)  (sb35 : Addr) (sa35 : Addr) (kc35 : ClassId) (EN : own_St Z A K cs) (OL0 : Old Z n0 h0) (z9 : Exa Z h0 sa35 y_s2) (za : Fld Z h0 sa35 y_s2 "coder" "B" (.int 0)) (zb : Fld Z h0 sa35 y_s2 "value" "[B" (.ref sb35)) (zc : Arv Z h0 sb35 kc35 .byte (2 : Int32) [(.int 48), (.int 48)] (.int 0)) :
    own_MF l Z own_m3 jdk_42_method_56_code 2 (some .char) ws (Room.mk 3 0 0 40) #[(.ref sa35), (.int 0)] h0 (PQ (some (.int 48)) h0 n0) := by
  refine MetFree.of_bodySF (plainFor_of_name own_pn1) hisR ?_
  intro p e s m args below meth c s₁ Bd hml0 hP hK
  obtain ⟨rfl, hZ, hh⟩ := hP
  have hx := Bd.exec
  have hby := Bd.bytes
  have hml : c.maxLocals = 2 := hml0
  have hown : s.vm.findClass y_s2 = some m.cls := findClass_of_methodNamed Bd.named
  have hnm := (name_of_methodNamed Bd.named Bd.method).1
  have X0 : Stand p l e (Room.mk 3 0 0 40) s m #[(.ref sa35), (.int 0)] below meth c s₁ [] 0 0 := Stand.of_body Bd
  have e0 : s₁.heap = h0 := by rw [← hh, Bd.state]; rfl
  have N0 := Fr.nil n0
  have pre0 : own_P p e below s₁ m 0 #[.val (.ref sa35), .val (.int 0)] [] s₁ #[(.ref sa35), (.int 0)] 2 := fun t k => castTop (by first | (simp [entryFrame, mkF, argsToLocals, Value.category, maxLocals]; done) | rfl) k
  have KK0 : Keep h0 h0 [] := Keep.refl _ _
  obtain ⟨cq72, kq72, zd, zo, ze⟩ := isOf hZ e0 z9
  obtain ⟨_, _, ⟨z2, L72, zp, n72⟩, -, z0, ⟨Lc72, z3, l72, y72, z72⟩, z4⟩ := X0.virtualBack hx (y := own_m15) (z := own_m15) hown (mvT hZ (own_W hw 67 rfl)) (mvT hZ (own_W hw 68 rfl)) (notFace_of_selects (args := #[]) (mvT hZ (own_W hw 70 rfl))) (mvT hZ (own_W hw 70 rfl)) (mvT hZ (own_W hw 69 rfl)) (by decide) (backOf (W := 0) (rm11 l Z a0 hw [] h0 n0 p1 A K cs sa35 EN OL0 za) hZ (own_W hw 71 rfl) (own_W hw 9 rfl) (by decide) (by decide)) zd ze (g := (mkF m 1 #[.val (.ref sa35), .val (.int 0)] [(.ref sa35)])) rfl (by rw [hml]; rfl) (Steps.refl _) (argsL := []) (rest := []) (lenOf own_pd6 rfl) rfl (by show 2 * 0 + _ ≤ _; exact Nat.le_of_eq rfl) (hb hby yb_1) (fun _ _ => ⟨rfl, e0, (by decide : 0 + 0 ≤ _), (by decide : 0 + 0 ≤ _)⟩)
  dsimp only [Pt.U, Pt.locs, Pt.cells, Pt.slots] at z0 l72 y72 z72 z4 z3
  replace z0 := own_sub z0 l72 y72 z72
  obtain ⟨rfl, zf, zg⟩ := z3
  have zh := Fr.app N0 zf
  obtain ⟨zi, z5, zj, zk⟩ := getF z0 hx hZ hown (host := "") (Or.inl (own_W hw 26 rfl)) Via.refl zg zb (g := (mkF m 8 #[.val (.ref sa35), .val (.int 0)] [(.ref sa35)])) rfl rfl (hb hby yb_8)
  obtain ⟨_, _, ⟨z6, L83, zq, n83⟩, -, z1, ⟨Lc83, z7, l83, y83, z83⟩, z8⟩ := Jvm.LawKit.callS z5 hx (y := own_m13) hown (mvT hZ (own_W hw 72 rfl)) (mvT hZ (own_W hw 73 rfl)) (mvT hZ (own_W hw 74 rfl)) (mvT hZ (own_W hw 75 rfl)) (by decide) (backOf (W := 0) (rm12 l Z a0 hw [] h0 n0 p1 A K cs sb35 kc35 EN OL0 zc) hZ (own_W hw 75 rfl) (own_W hw 74 rfl) (by decide) (by decide)) (g := (mkF m 12 #[.val (.ref sa35), .val (.int 0)] [(.int 0), (.ref sb35)])) rfl (by rw [hml]; rfl) (argsL := [(.ref sb35), (.int 0)]) (rest := []) (lenOf own_pd9 rfl) rfl (by show 2 * 0 + _ ≤ _; exact Nat.le_of_eq rfl) (hb hby yb_12) (fun _ _ => ⟨rfl, zj, (by decide : 0 + 0 ≤ _), (by decide : 0 + 0 ≤ _)⟩)
  dsimp only [Pt.U, Pt.locs, Pt.cells, Pt.slots] at z1 l83 y83 z83 z8 z7
  replace z1 := own_sub z1 l83 y83 z83
  obtain ⟨rfl, zl, zm⟩ := z7
  have zn := Fr.app zh zl
  obtain ⟨fs, hr, hrun, hended, hW, hsame⟩ := z1.leave (v := some (.int 48)) (fun h => by rw [Bd.returns] at h; cases h)
  refine ⟨_, _, pre0 _ ?_, hrun, hended, _, _, rfl, ?_, ⟨_, rfl⟩, hW, hsame.mono (by decide) (by decide)⟩
  · show own_Y p e below s₁ m 0 #[.val (.ref sa35), .val (.int 0)] [] _
    refine XS.aloadN X0.here hx rfl (hb hby yb_0) rfl rfl ?_
    refine z4.trans ?_
    show own_Y p e below z2 m 4 #[.val (.ref sa35), .val (.int 0)] [(.int 1)] _
    refine XS.ifNo z0.here hx rfl (hb hby yb_4) rfl ((if0 _ _).trans (feq (by decide : ¬ ((1 : Int32) = (0 : Int32)))).1) ?_
    show own_Y p e below z2 m 7 #[.val (.ref sa35), .val (.int 0)] [] _
    refine XS.aloadN z0.here hx rfl (hb hby yb_7) rfl rfl ?_
    refine zk _ ?_
    show own_Y p e below zi m 11 #[.val (.ref sa35), .val (.int 0)] [(.ref sb35)] _
    refine XS.iloadN z5.here hx rfl (hb hby yb_11) rfl ?_
    refine z8 _ ?_
    show own_Y p e below z6 m 15 #[.val (.ref sa35), .val (.int 0)] [(.int 48)] _
    exact retN z1 hx (t := .char) Bd.returns (by simp) (hb hby yb_15) hr
  · show PQ (some (.int 48)) h0 n0 _ z6.heap _
    rw [zm]
    exact ⟨rfl, zn, rfl⟩
theorem yc_0 : decode prog_40_method_12_code 0 = .ok (.iload_n 0, 1) := by decide +kernel
theorem yc_1 : decode prog_40_method_12_code 1 = .ok (.bipush 48, 2) := by decide +kernel
theorem yc_3 : decode prog_40_method_12_code 3 = .ok (.if_icmp .lt 13, 3) := by decide +kernel
theorem yc_6 : decode prog_40_method_12_code 6 = .ok (.iload_n 0, 1) := by decide +kernel
theorem yc_7 : decode prog_40_method_12_code 7 = .ok (.bipush 57, 2) := by decide +kernel
theorem yc_9 : decode prog_40_method_12_code 9 = .ok (.if_icmp .gt 7, 3) := by decide +kernel
theorem yc_12 : decode prog_40_method_12_code 12 = .ok (.iconst 1, 1) := by decide +kernel
theorem yc_13 : decode prog_40_method_12_code 13 = .ok (.goto 4, 3) := by decide +kernel
theorem yc_17 : decode prog_40_method_12_code 17 = .ok (.ireturn, 1) := by decide +kernel
theorem own_pn6 : plainName y_s1 = true := by first | (simp [plainName, overriddenIn]; done) | decide +kernel
theorem rm16 (l : Launch) (Z : State) (a0 : Array Value) (hw : ∀ d ∈ tables_1, d.before a0 Z = true) (ws : List Jvm.Cond) (h0 : Heap) (n0 : Nat) (p1 : Int32) (A : Nat → Addr) (K : Nat → ClassId) (cs : Int32)  (EN : own_St Z A K cs) (OL0 : Old Z n0 h0) :
    own_MF l Z own_m21 prog_40_method_12_code 1 (some .boolean) ws (Room.mk 0 0 0 0) #[(.int 48)] h0 (PQ (some (.int 1)) h0 n0) := by
  refine MetFree.of_bodySF (plainFor_of_name own_pn6) hisR ?_
  intro p e s m args below meth c s₁ Bd hml0 hP hK
  obtain ⟨rfl, hZ, hh⟩ := hP
  have hx := Bd.exec
  have hby := Bd.bytes
  have hml : c.maxLocals = 1 := hml0
  have hown : s.vm.findClass y_s1 = some m.cls := findClass_of_methodNamed Bd.named
  have hnm := (name_of_methodNamed Bd.named Bd.method).1
  have X0 : Stand p l e (Room.mk 0 0 0 0) s m #[(.int 48)] below meth c s₁ [] 0 0 := Stand.of_body Bd
  have e0 : s₁.heap = h0 := by rw [← hh, Bd.state]; rfl
  have N0 := Fr.nil n0
  have pre0 : own_P p e below s₁ m 0 #[.val (.int 48)] [] s₁ #[(.int 48)] 1 := fun t k => castTop (by first | (simp [entryFrame, mkF, argsToLocals, Value.category, maxLocals]; done) | rfl) k
  have KK0 : Keep h0 h0 [] := Keep.refl _ _
  obtain ⟨fs, hr, hrun, hended, hW, hsame⟩ := X0.leave (v := some (.int 1)) (fun h => by rw [Bd.returns] at h; cases h)
  refine ⟨_, _, pre0 _ ?_, hrun, hended, _, _, rfl, ?_, ⟨_, rfl⟩, hW, hsame.mono (by decide) (by decide)⟩
  · show own_Y p e below s₁ m 0 #[.val (.int 48)] [] _
    refine XS.iloadN X0.here hx rfl (hb hby yc_0) rfl ?_
    refine XS.bipush X0.here hx rfl (hb hby yc_1) ?_
    refine XS.icmpNo X0.here hx rfl (hb hby yc_3) rfl (flt (by decide : ¬ ((48 : Int32) < (48 : Int32)))).1 ?_
    show own_Y p e below s₁ m 6 #[.val (.int 48)] [] _
    refine XS.iloadN X0.here hx rfl (hb hby yc_6) rfl ?_
    refine XS.bipush X0.here hx rfl (hb hby yc_7) ?_
    refine XS.icmpNo X0.here hx rfl (hb hby yc_9) rfl (flt (by decide : ¬ ((57 : Int32) < (48 : Int32)))).2.2.1 ?_
    show own_Y p e below s₁ m 12 #[.val (.int 48)] [] _
    refine XS.iconst X0.here hx rfl (hb hby yc_12) ?_
    refine XS.goto X0.here hx rfl (pc0 := 13) (pc' := 17) rfl (hb hby yc_13) (by decide) (by decide) ?_
    exact retN X0 hx (t := .boolean) Bd.returns (by simp) (hb hby yc_17) hr
  · show PQ (some (.int 1)) h0 n0 _ s₁.heap _
    rw [e0]
    exact ⟨rfl, N0, rfl⟩
theorem rm20 (l : Launch) (Z : State) (a0 : Array Value) (hw : ∀ d ∈ tables_1, d.before a0 Z = true) (ws : List Jvm.Cond) (h0 : Heap) (n0 : Nat) (p1 : Int32) (A : Nat → Addr) (K : Nat → ClassId) (cs : Int32)  (EN : own_St Z A K cs) (OL0 : Old Z n0 h0) :
    own_MF l Z own_m12 jdk_41_method_11_code 3 (some .int) ws (Room.mk 0 0 0 0) #[(.int 1), (.int 2), .null] h0 (PQ (some (.int 1)) h0 n0) := by
  refine MetFree.of_bodySF (plainFor_of_name own_pn4) hisR ?_
  intro p e s m args below meth c s₁ Bd hml0 hP hK
  obtain ⟨rfl, hZ, hh⟩ := hP
  have hx := Bd.exec
  have hby := Bd.bytes
  have hml : c.maxLocals = 3 := hml0
  have hown : s.vm.findClass "jdk/internal/util/Preconditions" = some m.cls := findClass_of_methodNamed Bd.named
  have hnm := (name_of_methodNamed Bd.named Bd.method).1
  have X0 : Stand p l e (Room.mk 0 0 0 0) s m #[(.int 1), (.int 2), .null] below meth c s₁ [] 0 0 := Stand.of_body Bd
  have e0 : s₁.heap = h0 := by rw [← hh, Bd.state]; rfl
  have N0 := Fr.nil n0
  have pre0 : own_P p e below s₁ m 0 #[.val (.int 1), .val (.int 2), .val .null] [] s₁ #[(.int 1), (.int 2), .null] 3 := fun t k => castTop (by first | (simp [entryFrame, mkF, argsToLocals, Value.category, maxLocals]; done) | rfl) k
  have KK0 : Keep h0 h0 [] := Keep.refl _ _
  obtain ⟨fs, hr, hrun, hended, hW, hsame⟩ := X0.leave (v := some (.int 1)) (fun h => by rw [Bd.returns] at h; cases h)
  refine ⟨_, _, pre0 _ ?_, hrun, hended, _, _, rfl, ?_, ⟨_, rfl⟩, hW, hsame.mono (by decide) (by decide)⟩
  · show own_Y p e below s₁ m 0 #[.val (.int 1), .val (.int 2), .val .null] [] _
    refine XS.iloadN X0.here hx rfl (hb hby y8_0) rfl ?_
    refine XS.ifNo X0.here hx rfl (hb hby y8_1) rfl ((if0 _ _).trans (flt (by decide : ¬ ((1 : Int32) < (0 : Int32)))).1) ?_
    show own_Y p e below s₁ m 4 #[.val (.int 1), .val (.int 2), .val .null] [] _
    refine XS.iloadN X0.here hx rfl (hb hby y8_4) rfl ?_
    refine XS.iloadN X0.here hx rfl (hb hby y8_5) rfl ?_
    refine XS.icmpYes X0.here hx rfl (pc0 := 6) (pc' := 16) rfl (hb hby y8_6) rfl (tlt (by decide : (1 : Int32) < (2 : Int32))).1 (by decide) (by decide) ?_
    show own_Y p e below s₁ m 16 #[.val (.int 1), .val (.int 2), .val .null] [] _
    refine XS.iloadN X0.here hx rfl (hb hby y8_16) rfl ?_
    exact retI X0 hx Bd.returns (hb hby y8_17) hr
  · show PQ (some (.int 1)) h0 n0 _ s₁.heap _
    rw [e0]
    exact ⟨rfl, N0, rfl⟩
theorem rm21 (l : Launch) (Z : State) (a0 : Array Value) (hw : ∀ d ∈ tables_1, d.before a0 Z = true) (ws : List Jvm.Cond) (h0 : Heap) (n0 : Nat) (p1 : Int32) (A : Nat → Addr) (K : Nat → ClassId) (cs : Int32)  (af91 : Addr) (EN : own_St Z A K cs) (OL0 : Old Z n0 h0) :
    own_MF l Z own_m12 jdk_41_method_11_code 3 (some .int) ws (Room.mk 0 0 0 0) #[(.int 1), (.int 2), (.ref af91)] h0 (PQ (some (.int 1)) h0 n0) := by
  refine MetFree.of_bodySF (plainFor_of_name own_pn4) hisR ?_
  intro p e s m args below meth c s₁ Bd hml0 hP hK
  obtain ⟨rfl, hZ, hh⟩ := hP
  have hx := Bd.exec
  have hby := Bd.bytes
  have hml : c.maxLocals = 3 := hml0
  have hown : s.vm.findClass "jdk/internal/util/Preconditions" = some m.cls := findClass_of_methodNamed Bd.named
  have hnm := (name_of_methodNamed Bd.named Bd.method).1
  have X0 : Stand p l e (Room.mk 0 0 0 0) s m #[(.int 1), (.int 2), (.ref af91)] below meth c s₁ [] 0 0 := Stand.of_body Bd
  have e0 : s₁.heap = h0 := by rw [← hh, Bd.state]; rfl
  have N0 := Fr.nil n0
  have pre0 : own_P p e below s₁ m 0 #[.val (.int 1), .val (.int 2), .val (.ref af91)] [] s₁ #[(.int 1), (.int 2), (.ref af91)] 3 := fun t k => castTop (by first | (simp [entryFrame, mkF, argsToLocals, Value.category, maxLocals]; done) | rfl) k
  have KK0 : Keep h0 h0 [] := Keep.refl _ _
  obtain ⟨fs, hr, hrun, hended, hW, hsame⟩ := X0.leave (v := some (.int 1)) (fun h => by rw [Bd.returns] at h; cases h)
  refine ⟨_, _, pre0 _ ?_, hrun, hended, _, _, rfl, ?_, ⟨_, rfl⟩, hW, hsame.mono (by decide) (by decide)⟩
  · show own_Y p e below s₁ m 0 #[.val (.int 1), .val (.int 2), .val (.ref af91)] [] _
    refine XS.iloadN X0.here hx rfl (hb hby y8_0) rfl ?_
    refine XS.ifNo X0.here hx rfl (hb hby y8_1) rfl ((if0 _ _).trans (flt (by decide : ¬ ((1 : Int32) < (0 : Int32)))).1) ?_
    show own_Y p e below s₁ m 4 #[.val (.int 1), .val (.int 2), .val (.ref af91)] [] _
    refine XS.iloadN X0.here hx rfl (hb hby y8_4) rfl ?_
    refine XS.iloadN X0.here hx rfl (hb hby y8_5) rfl ?_
    refine XS.icmpYes X0.here hx rfl (pc0 := 6) (pc' := 16) rfl (hb hby y8_6) rfl (tlt (by decide : (1 : Int32) < (2 : Int32))).1 (by decide) (by decide) ?_
    show own_Y p e below s₁ m 16 #[.val (.int 1), .val (.int 2), .val (.ref af91)] [] _
    refine XS.iloadN X0.here hx rfl (hb hby y8_16) rfl ?_
    exact retI X0 hx Bd.returns (hb hby y8_17) hr
  · show PQ (some (.int 1)) h0 n0 _ s₁.heap _
    rw [e0]
    exact ⟨rfl, N0, rfl⟩
theorem rm19 (l : Launch) (Z : State) (a0 : Array Value) (hw : ∀ d ∈ tables_1, d.before a0 Z = true) (ws : List Jvm.Cond) (h0 : Heap) (n0 : Nat) (p1 : Int32) (A : Nat → Addr) (K : Nat → ClassId) (cs : Int32)  (EN : own_St Z A K cs) (OL0 : Old Z n0 h0) :
    own_MF l Z own_m17 jdk_42_method_155_code 2 none ws (Room.mk 1 0 0 14) #[(.int 1), (.int 2)] h0 (PQ none h0 n0) := by
  refine MetFree.of_bodySF (plainFor_of_name own_pn1) hisR ?_
  intro p e s m args below meth c s₁ Bd hml0 hP hK
  obtain ⟨rfl, hZ, hh⟩ := hP
  have hx := Bd.exec
  have hby := Bd.bytes
  have hml : c.maxLocals = 2 := hml0
  have hown : s.vm.findClass y_s2 = some m.cls := findClass_of_methodNamed Bd.named
  have hnm := (name_of_methodNamed Bd.named Bd.method).1
  have X0 : Stand p l e (Room.mk 1 0 0 14) s m #[(.int 1), (.int 2)] below meth c s₁ [] 0 0 := Stand.of_body Bd
  have e0 : s₁.heap = h0 := by rw [← hh, Bd.state]; rfl
  have N0 := Fr.nil n0
  have pre0 : own_P p e below s₁ m 0 #[.val (.int 1), .val (.int 2)] [] s₁ #[(.int 1), (.int 2)] 2 := fun t k => castTop (by first | (simp [entryFrame, mkF, argsToLocals, Value.category, maxLocals]; done) | rfl) k
  have KK0 : Keep h0 h0 [] := Keep.refl _ _
  have z2 : own_P p e below s₁ m 2 #[.val (.int 1), .val (.int 2)] [(.int 2), (.int 1)] s₁ #[(.int 1), (.int 2)] 2 := fun t k => pre0 t (by
    show own_Y p e below s₁ m 0 #[.val (.int 1), .val (.int 2)] [] _
    refine XS.iloadN X0.here hx rfl (hb hby y9_0) rfl ?_
    refine XS.iloadN X0.here hx rfl (hb hby y9_1) rfl ?_
    exact k)
  rcases EN.2.2.2.2.2.2.2.1.2.2.1 with SF91 | ⟨af91, SF91⟩
  · obtain ⟨z9, za, zb, zc⟩ := getS2 X0 hx hZ hown (host := "") (Or.inl (own_W hw 79 rfl)) Via.refl e0 (SF91.ext OL0.2) (g := (mkF m 2 #[.val (.int 1), .val (.int 2)] [(.int 2), (.int 1)])) rfl (hb hby y9_2)
    obtain ⟨_, _, ⟨z3, L93, zn, n93⟩, -, z0, ⟨Lc93, z4, l93, y93, z93⟩, z5⟩ := Jvm.LawKit.callS za hx (y := own_m12) hown (mvT hZ (own_W hw 81 rfl)) (mvT hZ (own_W hw 82 rfl)) (mvT hZ (own_W hw 80 rfl)) (mvT hZ (own_W hw 83 rfl)) (by decide) (backOf (W := 0) (rm20 l Z a0 hw [] h0 n0 p1 A K cs EN OL0) hZ (own_W hw 83 rfl) (own_W hw 80 rfl) (by decide) (by decide)) (g := (mkF m 5 #[.val (.int 1), .val (.int 2)] [.null, (.int 2), (.int 1)])) rfl (by rw [hml]; rfl) (argsL := [(.int 1), (.int 2), .null]) (rest := []) (lenOf own_pd7 rfl) rfl (by show 2 * 0 + _ ≤ _; exact Nat.le_of_eq rfl) (hb hby y9_5) (fun _ _ => ⟨rfl, zb, (by decide : 0 + 0 ≤ _), (by decide : 0 + 0 ≤ _)⟩)
    dsimp only [Pt.U, Pt.locs, Pt.cells, Pt.slots] at z0 l93 y93 z93 z5 z4
    replace z0 := own_sub z0 l93 y93 z93
    obtain ⟨rfl, zd, ze⟩ := z4
    have zf := Fr.app N0 zd
    obtain ⟨fs, hr, hrun, hended, hW, hsame⟩ := z0.leave (v := none) (fun _ => rfl)
    refine ⟨_, _, z2 _ ?_, hrun, hended, _, _, rfl, ?_, ⟨_, rfl⟩, hW, hsame.mono (by decide) (by decide)⟩
    · show own_Y p e below s₁ m 2 #[.val (.int 1), .val (.int 2)] [(.int 2), (.int 1)] _
      refine zc _ ?_
      show own_Y p e below z9 m 5 #[.val (.int 1), .val (.int 2)] [.null, (.int 2), (.int 1)] _
      refine z5 _ ?_
      show own_Y p e below z3 m 8 #[.val (.int 1), .val (.int 2)] [(.int 1)] _
      refine XS.pop z0.here hx rfl (hb hby y9_8) rfl rfl ?_
      exact z0.returnOut hx Bd.returns (hb hby y9_9) hr
    · show PQ none h0 n0 _ z3.heap _
      rw [ze]
      exact ⟨rfl, zf, rfl⟩
  · obtain ⟨zg, zh, zi, zj⟩ := getS2 X0 hx hZ hown (host := "") (Or.inl (own_W hw 79 rfl)) Via.refl e0 (SF91.ext OL0.2) (g := (mkF m 2 #[.val (.int 1), .val (.int 2)] [(.int 2), (.int 1)])) rfl (hb hby y9_2)
    obtain ⟨_, _, ⟨z6, L95, zo, n95⟩, -, z1, ⟨Lc95, z7, l95, y95, z95⟩, z8⟩ := Jvm.LawKit.callS zh hx (y := own_m12) hown (mvT hZ (own_W hw 81 rfl)) (mvT hZ (own_W hw 82 rfl)) (mvT hZ (own_W hw 80 rfl)) (mvT hZ (own_W hw 83 rfl)) (by decide) (backOf (W := 0) (rm21 l Z a0 hw [] h0 n0 p1 A K cs af91 EN OL0) hZ (own_W hw 83 rfl) (own_W hw 80 rfl) (by decide) (by decide)) (g := (mkF m 5 #[.val (.int 1), .val (.int 2)] [(.ref af91), (.int 2), (.int 1)])) rfl (by rw [hml]; rfl) (argsL := [(.int 1), (.int 2), (.ref af91)]) (rest := []) (lenOf own_pd7 rfl) rfl (by show 2 * 0 + _ ≤ _; exact Nat.le_of_eq rfl) (hb hby y9_5) (fun _ _ => ⟨rfl, zi, (by decide : 0 + 0 ≤ _), (by decide : 0 + 0 ≤ _)⟩)
    dsimp only [Pt.U, Pt.locs, Pt.cells, Pt.slots] at z1 l95 y95 z95 z8 z7
    replace z1 := own_sub z1 l95 y95 z95
    obtain ⟨rfl, zk, zl⟩ := z7
    have zm := Fr.app N0 zk
    obtain ⟨fs, hr, hrun, hended, hW, hsame⟩ := z1.leave (v := none) (fun _ => rfl)
    refine ⟨_, _, z2 _ ?_, hrun, hended, _, _, rfl, ?_, ⟨_, rfl⟩, hW, hsame.mono (by decide) (by decide)⟩
    · show own_Y p e below s₁ m 2 #[.val (.int 1), .val (.int 2)] [(.int 2), (.int 1)] _
      refine zj _ ?_
      show own_Y p e below zg m 5 #[.val (.int 1), .val (.int 2)] [(.ref af91), (.int 2), (.int 1)] _
      refine z8 _ ?_
      show own_Y p e below z6 m 8 #[.val (.int 1), .val (.int 2)] [(.int 1)] _
      refine XS.pop z1.here hx rfl (hb hby y9_8) rfl rfl ?_
      exact z1.returnOut hx Bd.returns (hb hby y9_9) hr
    · show PQ none h0 n0 _ z6.heap _
      rw [zl]
      exact ⟨rfl, zm, rfl⟩
theorem rm18 (l : Launch) (Z : State) (a0 : Array Value) (hw : ∀ d ∈ tables_1, d.before a0 Z = true) (ws : List Jvm.Cond) (h0 : Heap) (n0 : Nat) (p1 : Int32) (A : Nat → Addr) (K : Nat → ClassId) (cs : Int32)  (sb35 : Addr) (kc35 : ClassId) (EN : own_St Z A K cs) (OL0 : Old Z n0 h0) (z3 : Arv Z h0 sb35 kc35 .byte (2 : Int32) [(.int 48), (.int 48)] (.int 0)) :
    own_MF l Z own_m13 jdk_43_method_2_code 2 (some .char) ws (Room.mk 2 0 0 27) #[(.ref sb35), (.int 1)] h0 (PQ (some (.int 48)) h0 n0) := by
  refine MetFree.of_bodySF (plainFor_of_name own_pn5) hisR ?_
  intro p e s m args below meth c s₁ Bd hml0 hP hK
  obtain ⟨rfl, hZ, hh⟩ := hP
  have hx := Bd.exec
  have hby := Bd.bytes
  have hml : c.maxLocals = 2 := hml0
  have hown : s.vm.findClass "java/lang/StringLatin1" = some m.cls := findClass_of_methodNamed Bd.named
  have hnm := (name_of_methodNamed Bd.named Bd.method).1
  have X0 : Stand p l e (Room.mk 2 0 0 27) s m #[(.ref sb35), (.int 1)] below meth c s₁ [] 0 0 := Stand.of_body Bd
  have e0 : s₁.heap = h0 := by rw [← hh, Bd.state]; rfl
  have N0 := Fr.nil n0
  have pre0 : own_P p e below s₁ m 0 #[.val (.ref sb35), .val (.int 1)] [] s₁ #[(.ref sb35), (.int 1)] 2 := fun t k => castTop (by first | (simp [entryFrame, mkF, argsToLocals, Value.category, maxLocals]; done) | rfl) k
  have KK0 : Keep h0 h0 [] := Keep.refl _ _
  obtain ⟨zh, z4, -, za, zb, -, -⟩ := (id z3)
  obtain ⟨_, _, ⟨z1, L96, zi, n96⟩, -, z0, ⟨Lc96, z5, l96, y96, z96⟩, z6⟩ := Jvm.LawKit.callS X0 hx (y := own_m17) hown (mvT hZ (own_W hw 76 rfl)) (mvT hZ (own_W hw 77 rfl)) (mvT hZ (own_W hw 9 rfl)) (mvT hZ (own_W hw 78 rfl)) (by decide) (backOf (W := 0) (rm19 l Z a0 hw [] h0 n0 p1 A K cs EN OL0) hZ (own_W hw 78 rfl) (own_W hw 9 rfl) (by decide) (by decide)) (g := (mkF m 3 #[.val (.ref sb35), .val (.int 1)] [(.int 2), (.int 1)])) rfl (by rw [hml]; rfl) (argsL := [(.int 1), (.int 2)]) (rest := []) (lenOf own_pd8 rfl) rfl (by show 2 * 0 + _ ≤ _; exact Nat.le_of_eq rfl) (hb hby ya_3) (fun _ _ => ⟨rfl, e0, (by decide : 0 + 0 ≤ _), (by decide : 0 + 0 ≤ _)⟩)
  dsimp only [Pt.U, Pt.locs, Pt.cells, Pt.slots] at z0 l96 y96 z96 z6 z5
  replace z0 := own_sub z0 l96 y96 z96
  obtain ⟨rfl, zc, z7⟩ := z5
  have zd := Fr.app N0 zc
  obtain ⟨z8, z2, zj, ze, zk, zf, zl⟩ := (id z3)
  have z9 : ¬ ((1 : Int32) < 0 ∨ z8.slots.size ≤ ((1 : Int32)).toNatClampNeg) := inb_of ze ⟨by decide, by decide⟩
  have zg : z8.slots[((1 : Int32)).toNatClampNeg]? = some (.int 48) := Has.at zf z9 rfl
  obtain ⟨fs, hr, hrun, hended, hW, hsame⟩ := z0.leave (v := some (.int 48)) (fun h => by rw [Bd.returns] at h; cases h)
  refine ⟨_, _, pre0 _ ?_, hrun, hended, _, _, rfl, ?_, ⟨_, rfl⟩, hW, hsame.mono (by decide) (by decide)⟩
  · show own_Y p e below s₁ m 0 #[.val (.ref sb35), .val (.int 1)] [] _
    refine XS.iloadN X0.here hx rfl (hb hby ya_0) rfl ?_
    refine XS.aloadN X0.here hx rfl (hb hby ya_1) rfl rfl ?_
    refine X0.arraylength hx (by rw [e0]; exact z4.1) (State.isArrayOf_alike hZ.alike z4.2.1) (g := (mkF m 2 #[.val (.ref sb35), .val (.int 1)] [(.ref sb35), (.int 1)])) rfl rfl (hb hby ya_2) _ ?_
    rw [len_of za zb]
    show own_Y p e below s₁ m 3 #[.val (.ref sb35), .val (.int 1)] [(.int 2), (.int 1)] _
    refine z6 _ ?_
    show own_Y p e below z1 m 6 #[.val (.ref sb35), .val (.int 1)] [] _
    refine XS.aloadN z0.here hx rfl (hb hby ya_6) rfl rfl ?_
    refine XS.iloadN z0.here hx rfl (hb hby ya_7) rfl ?_
    refine z0.baloadBytes hx (j := (1 : Int32)) (v := (.int 48)) (by rw [z7]; exact z2.1) (State.isArrayOf_alike hZ.alike z2.2.1) z2.2.2 z9 zg (g := (mkF m 8 #[.val (.ref sb35), .val (.int 1)] [(.int 1), (.ref sb35)])) rfl rfl (hb hby ya_8) _ ?_
    show own_Y p e below z1 m 9 #[.val (.ref sb35), .val (.int 1)] [(.int 48)] _
    refine XS.sipush z0.here hx rfl (hb hby ya_9) ?_
    refine XS.iand z0.here hx rfl (hb hby ya_12) rfl ?_
    show own_Y p e below z1 m 13 #[.val (.ref sb35), .val (.int 1)] [(.int 48)] _
    refine XS.i2c z0.here hx rfl (hb hby ya_13) rfl ?_
    show own_Y p e below z1 m 14 #[.val (.ref sb35), .val (.int 1)] [(.int 48)] _
    exact retN z0 hx (t := .char) Bd.returns (by simp) (hb hby ya_14) hr
  · show PQ (some (.int 48)) h0 n0 _ z1.heap _
    rw [z7]
    exact ⟨rfl, zd, rfl⟩
theorem rm17 (l : Launch) (Z : State) (a0 : Array Value) (hw : ∀ d ∈ tables_1, d.before a0 Z = true) (ws : List Jvm.Cond) (h0 : Heap) (n0 : Nat) (p1 : Int32) (A : Nat → Addr) (K : Nat → ClassId) (cs : Int32)  (sb35 : Addr) (sa35 : Addr) (kc35 : ClassId) (EN : own_St Z A K cs) (OL0 : Old Z n0 h0) (z9 : Exa Z h0 sa35 y_s2) (za : Fld Z h0 sa35 y_s2 "coder" "B" (.int 0)) (zb : Fld Z h0 sa35 y_s2 "value" "[B" (.ref sb35)) (zc : Arv Z h0 sb35 kc35 .byte (2 : Int32) [(.int 48), (.int 48)] (.int 0)) :
    own_MF l Z own_m3 jdk_42_method_56_code 2 (some .char) ws (Room.mk 3 0 0 40) #[(.ref sa35), (.int 1)] h0 (PQ (some (.int 48)) h0 n0) := by
  refine MetFree.of_bodySF (plainFor_of_name own_pn1) hisR ?_
  intro p e s m args below meth c s₁ Bd hml0 hP hK
  obtain ⟨rfl, hZ, hh⟩ := hP
  have hx := Bd.exec
  have hby := Bd.bytes
  have hml : c.maxLocals = 2 := hml0
  have hown : s.vm.findClass y_s2 = some m.cls := findClass_of_methodNamed Bd.named
  have hnm := (name_of_methodNamed Bd.named Bd.method).1
  have X0 : Stand p l e (Room.mk 3 0 0 40) s m #[(.ref sa35), (.int 1)] below meth c s₁ [] 0 0 := Stand.of_body Bd
  have e0 : s₁.heap = h0 := by rw [← hh, Bd.state]; rfl
  have N0 := Fr.nil n0
  have pre0 : own_P p e below s₁ m 0 #[.val (.ref sa35), .val (.int 1)] [] s₁ #[(.ref sa35), (.int 1)] 2 := fun t k => castTop (by first | (simp [entryFrame, mkF, argsToLocals, Value.category, maxLocals]; done) | rfl) k
  have KK0 : Keep h0 h0 [] := Keep.refl _ _
  obtain ⟨cq87, kq87, zd, zo, ze⟩ := isOf hZ e0 z9
  obtain ⟨_, _, ⟨z2, L87, zp, n87⟩, -, z0, ⟨Lc87, z3, l87, y87, z87⟩, z4⟩ := X0.virtualBack hx (y := own_m15) (z := own_m15) hown (mvT hZ (own_W hw 67 rfl)) (mvT hZ (own_W hw 68 rfl)) (notFace_of_selects (args := #[]) (mvT hZ (own_W hw 70 rfl))) (mvT hZ (own_W hw 70 rfl)) (mvT hZ (own_W hw 69 rfl)) (by decide) (backOf (W := 0) (rm11 l Z a0 hw [] h0 n0 p1 A K cs sa35 EN OL0 za) hZ (own_W hw 71 rfl) (own_W hw 9 rfl) (by decide) (by decide)) zd ze (g := (mkF m 1 #[.val (.ref sa35), .val (.int 1)] [(.ref sa35)])) rfl (by rw [hml]; rfl) (Steps.refl _) (argsL := []) (rest := []) (lenOf own_pd6 rfl) rfl (by show 2 * 0 + _ ≤ _; exact Nat.le_of_eq rfl) (hb hby yb_1) (fun _ _ => ⟨rfl, e0, (by decide : 0 + 0 ≤ _), (by decide : 0 + 0 ≤ _)⟩)
  dsimp only [Pt.U, Pt.locs, Pt.cells, Pt.slots] at z0 l87 y87 z87 z4 z3
  replace z0 := own_sub z0 l87 y87 z87
  obtain ⟨rfl, zf, zg⟩ := z3
  have zh := Fr.app N0 zf
  obtain ⟨zi, z5, zj, zk⟩ := getF z0 hx hZ hown (host := "") (Or.inl (own_W hw 26 rfl)) Via.refl zg zb (g := (mkF m 8 #[.val (.ref sa35), .val (.int 1)] [(.ref sa35)])) rfl rfl (hb hby yb_8)
  obtain ⟨_, _, ⟨z6, L98, zq, n98⟩, -, z1, ⟨Lc98, z7, l98, y98, z98⟩, z8⟩ := Jvm.LawKit.callS z5 hx (y := own_m13) hown (mvT hZ (own_W hw 72 rfl)) (mvT hZ (own_W hw 73 rfl)) (mvT hZ (own_W hw 74 rfl)) (mvT hZ (own_W hw 75 rfl)) (by decide) (backOf (W := 0) (rm18 l Z a0 hw [] h0 n0 p1 A K cs sb35 kc35 EN OL0 zc) hZ (own_W hw 75 rfl) (own_W hw 74 rfl) (by decide) (by decide)) (g := (mkF m 12 #[.val (.ref sa35), .val (.int 1)] [(.int 1), (.ref sb35)])) rfl (by rw [hml]; rfl) (argsL := [(.ref sb35), (.int 1)]) (rest := []) (lenOf own_pd9 rfl) rfl (by show 2 * 0 + _ ≤ _; exact Nat.le_of_eq rfl) (hb hby yb_12) (fun _ _ => ⟨rfl, zj, (by decide : 0 + 0 ≤ _), (by decide : 0 + 0 ≤ _)⟩)
  dsimp only [Pt.U, Pt.locs, Pt.cells, Pt.slots] at z1 l98 y98 z98 z8 z7
  replace z1 := own_sub z1 l98 y98 z98
  obtain ⟨rfl, zl, zm⟩ := z7
  have zn := Fr.app zh zl
  obtain ⟨fs, hr, hrun, hended, hW, hsame⟩ := z1.leave (v := some (.int 48)) (fun h => by rw [Bd.returns] at h; cases h)
  refine ⟨_, _, pre0 _ ?_, hrun, hended, _, _, rfl, ?_, ⟨_, rfl⟩, hW, hsame.mono (by decide) (by decide)⟩
  · show own_Y p e below s₁ m 0 #[.val (.ref sa35), .val (.int 1)] [] _
    refine XS.aloadN X0.here hx rfl (hb hby yb_0) rfl rfl ?_
    refine z4.trans ?_
    show own_Y p e below z2 m 4 #[.val (.ref sa35), .val (.int 1)] [(.int 1)] _
    refine XS.ifNo z0.here hx rfl (hb hby yb_4) rfl ((if0 _ _).trans (feq (by decide : ¬ ((1 : Int32) = (0 : Int32)))).1) ?_
    show own_Y p e below z2 m 7 #[.val (.ref sa35), .val (.int 1)] [] _
    refine XS.aloadN z0.here hx rfl (hb hby yb_7) rfl rfl ?_
    refine zk _ ?_
    show own_Y p e below zi m 11 #[.val (.ref sa35), .val (.int 1)] [(.ref sb35)] _
    refine XS.iloadN z5.here hx rfl (hb hby yb_11) rfl ?_
    refine z8 _ ?_
    show own_Y p e below z6 m 15 #[.val (.ref sa35), .val (.int 1)] [(.int 48)] _
    exact retN z1 hx (t := .char) Bd.returns (by simp) (hb hby yb_15) hr
  · show PQ (some (.int 48)) h0 n0 _ z6.heap _
    rw [zm]
    exact ⟨rfl, zn, rfl⟩
theorem yd_0 : decode prog_40_method_8_code 0 = .ok (.iload_n 1, 1) := by decide +kernel
theorem yd_1 : decode prog_40_method_8_code 1 = .ok (.istore_n 2, 1) := by decide +kernel
theorem yd_2 : decode prog_40_method_8_code 2 = .ok (.iload_n 2, 1) := by decide +kernel
theorem yd_3 : decode prog_40_method_8_code 3 = .ok (.ifCond .lt 28, 3) := by decide +kernel
theorem yd_6 : decode prog_40_method_8_code 6 = .ok (.iload_n 2, 1) := by decide +kernel
theorem yd_7 : decode prog_40_method_8_code 7 = .ok (.aload_n 0, 1) := by decide +kernel
theorem yd_8 : decode prog_40_method_8_code 8 = .ok (.invokevirtual 107, 3) := by decide +kernel
theorem yd_11 : decode prog_40_method_8_code 11 = .ok (.if_icmp .ge 20, 3) := by decide +kernel
theorem yd_14 : decode prog_40_method_8_code 14 = .ok (.aload_n 0, 1) := by decide +kernel
theorem yd_15 : decode prog_40_method_8_code 15 = .ok (.iload_n 2, 1) := by decide +kernel
theorem yd_16 : decode prog_40_method_8_code 16 = .ok (.invokevirtual 168, 3) := by decide +kernel
theorem yd_19 : decode prog_40_method_8_code 19 = .ok (.invokestatic 172, 3) := by decide +kernel
theorem yd_22 : decode prog_40_method_8_code 22 = .ok (.ifCond .eq 9, 3) := by decide +kernel
theorem yd_25 : decode prog_40_method_8_code 25 = .ok (.iinc 2 1, 3) := by decide +kernel
theorem yd_28 : decode prog_40_method_8_code 28 = .ok (.goto (-26), 3) := by decide +kernel
theorem yd_31 : decode prog_40_method_8_code 31 = .ok (.iload_n 2, 1) := by decide +kernel
theorem yd_32 : decode prog_40_method_8_code 32 = .ok (.iload_n 1, 1) := by decide +kernel
theorem yd_33 : decode prog_40_method_8_code 33 = .ok (.if_icmp .le 7, 3) := by decide +kernel
theorem yd_36 : decode prog_40_method_8_code 36 = .ok (.iload_n 2, 1) := by decide +kernel
theorem yd_37 : decode prog_40_method_8_code 37 = .ok (.goto 4, 3) := by decide +kernel
theorem yd_41 : decode prog_40_method_8_code 41 = .ok (.ireturn, 1) := by decide +kernel
theorem rm9 (l : Launch) (Z : State) (a0 : Array Value) (hw : ∀ d ∈ tables_1, d.before a0 Z = true) (ws : List Jvm.Cond) (h0 : Heap) (n0 : Nat) (p1 : Int32) (A : Nat → Addr) (K : Nat → ClassId) (cs : Int32)  (sb35 : Addr) (sa35 : Addr) (kc35 : ClassId) (EN : own_St Z A K cs) (OL0 : Old Z n0 h0) (z3 : Exa Z h0 sa35 y_s2) (z6 : Fld Z h0 sa35 y_s2 "value" "[B" (.ref sb35)) (z7 : Arv Z h0 sb35 kc35 .byte (2 : Int32) [(.int 48), (.int 48)] (.int 0)) (z8 : Fld Z h0 sa35 y_s2 "coder" "B" (.int 0)) :
    own_MF l Z own_m18 prog_40_method_8_code 3 (some .int) ws (Room.mk 4 0 0 53) #[(.ref sa35), (.int 0)] h0 (PQ (some (.int 2)) h0 n0) := by
  refine MetFree.of_bodySF (plainFor_of_name own_pn6) hisR ?_
  intro p e s m args below meth c s₁ Bd hml0 hP hK
  obtain ⟨rfl, hZ, hh⟩ := hP
  have hx := Bd.exec
  have hby := Bd.bytes
  have hml : c.maxLocals = 3 := hml0
  have hown : s.vm.findClass y_s1 = some m.cls := findClass_of_methodNamed Bd.named
  have hnm := (name_of_methodNamed Bd.named Bd.method).1
  have X0 : Stand p l e (Room.mk 4 0 0 53) s m #[(.ref sa35), (.int 0)] below meth c s₁ [] 0 0 := Stand.of_body Bd
  have e0 : s₁.heap = h0 := by rw [← hh, Bd.state]; rfl
  have N0 := Fr.nil n0
  have pre0 : own_P p e below s₁ m 0 #[.val (.ref sa35), .val (.int 0), .unset] [] s₁ #[(.ref sa35), (.int 0)] 3 := fun t k => castTop (by first | (simp [entryFrame, mkF, argsToLocals, Value.category, maxLocals]; done) | rfl) k
  have KK0 : Keep h0 h0 [] := Keep.refl _ _
  obtain ⟨cq69, kq69, zy, z1r, zz⟩ := isOf hZ e0 z3
  obtain ⟨_, _, ⟨ze, L69, z1s, n69⟩, -, z4, ⟨Lc69, zf, l69, y69, z69⟩, zg⟩ := X0.virtualBack hx (y := own_m1) (z := own_m1) hown (mvT hZ (own_W hw 21 rfl)) (mvT hZ (own_W hw 22 rfl)) (notFace_of_selects (args := #[]) (mvT hZ (own_W hw 24 rfl))) (mvT hZ (own_W hw 24 rfl)) (mvT hZ (own_W hw 23 rfl)) (by decide) (backOf (W := 1) (rm2 l Z a0 hw [] h0 n0 p1 A K cs sb35 sa35 kc35 EN OL0 z6 z7 z3 z8) hZ (own_W hw 25 rfl) (own_W hw 9 rfl) (by decide) (by decide)) zy zz (g := (mkF m 8 #[.val (.ref sa35), .val (.int 0), .val (.int 0)] [(.ref sa35), (.int 0)])) rfl (by rw [hml]; rfl) (Steps.refl _) (argsL := []) (rest := [(.int 0)]) (lenOf own_pd2 rfl) rfl (by show 2 * 0 + _ ≤ _; exact Nat.le_of_eq rfl) (hb hby yd_8) (fun _ _ => ⟨rfl, e0, (by decide : 0 + 0 ≤ _), (by decide : 0 + 0 ≤ _)⟩)
  dsimp only [Pt.U, Pt.locs, Pt.cells, Pt.slots] at z4 l69 y69 z69 zg zf
  replace z4 := own_sub z4 l69 y69 z69
  obtain ⟨rfl, z10, zh⟩ := zf
  have z11 := Fr.app N0 z10
  obtain ⟨cq84, kq84, z12, z1t, z13⟩ := isOf hZ zh z3
  obtain ⟨_, _, ⟨z14, L84, z1u, n84⟩, -, z9, ⟨Lc84, zi, l84, y84, z84⟩, zj⟩ := z4.virtualBack hx (y := own_m3) (z := own_m3) hown (mvT hZ (own_W hw 62 rfl)) (mvT hZ (own_W hw 63 rfl)) (notFace_of_selects (args := #[]) (mvT hZ (own_W hw 65 rfl))) (mvT hZ (own_W hw 65 rfl)) (mvT hZ (own_W hw 64 rfl)) (by decide) (backOf (W := 0) (rm10 l Z a0 hw [] h0 n0 p1 A K cs sb35 sa35 kc35 EN OL0 z3 z8 z6 z7) hZ (own_W hw 66 rfl) (own_W hw 9 rfl) (by decide) (by decide)) z12 z13 (g := (mkF m 16 #[.val (.ref sa35), .val (.int 0), .val (.int 0)] [(.int 0), (.ref sa35)])) rfl (by rw [hml]; rfl) (Steps.refl _) (argsL := [(.int 0)]) (rest := []) (lenOf own_pd10 rfl) rfl (by show 2 * 0 + _ ≤ _; exact Nat.le_of_eq rfl) (hb hby yd_16) (fun _ _ => ⟨rfl, zh, (by decide : 0 + 0 ≤ _), (by decide : 0 + 0 ≤ _)⟩)
  dsimp only [Pt.U, Pt.locs, Pt.cells, Pt.slots] at z9 l84 y84 z84 zj zi
  replace z9 := own_sub z9 l84 y84 z84
  obtain ⟨rfl, z15, z16⟩ := zi
  have z17 := Fr.app z11 z15
  obtain ⟨_, _, ⟨za, L85, z1v, n85⟩, -, z0, ⟨Lc85, zk, l85, y85, z85⟩, zl⟩ := Jvm.LawKit.callS z9 hx (y := own_m21) hown (mvT hZ (own_W hw 84 rfl)) (mvT hZ (own_W hw 85 rfl)) (mvT hZ (own_W hw 6 rfl)) (mvT hZ (own_W hw 86 rfl)) (by decide) (backOf (W := 0) (rm16 l Z a0 hw [] h0 n0 p1 A K cs EN OL0) hZ (own_W hw 86 rfl) (own_W hw 6 rfl) (by decide) (by decide)) (g := (mkF m 19 #[.val (.ref sa35), .val (.int 0), .val (.int 0)] [(.int 48)])) rfl (by rw [hml]; rfl) (argsL := [(.int 48)]) (rest := []) (lenOf own_pd11 rfl) rfl (by show 2 * 0 + _ ≤ _; exact Nat.le_of_eq rfl) (hb hby yd_19) (fun _ _ => ⟨rfl, z16, (by decide : 0 + 0 ≤ _), (by decide : 0 + 0 ≤ _)⟩)
  dsimp only [Pt.U, Pt.locs, Pt.cells, Pt.slots] at z0 l85 y85 z85 zl zk
  replace z0 := own_sub z0 l85 y85 z85
  obtain ⟨rfl, z18, zm⟩ := zk
  have z19 := Fr.app z17 z18
  obtain ⟨cq86, kq86, z1a, z1w, z1b⟩ := isOf hZ zm z3
  obtain ⟨_, _, ⟨zn, L86, z1x, n86⟩, -, z5, ⟨Lc86, zo, l86, y86, z86⟩, zp⟩ := z0.virtualBack hx (y := own_m1) (z := own_m1) hown (mvT hZ (own_W hw 21 rfl)) (mvT hZ (own_W hw 22 rfl)) (notFace_of_selects (args := #[]) (mvT hZ (own_W hw 24 rfl))) (mvT hZ (own_W hw 24 rfl)) (mvT hZ (own_W hw 23 rfl)) (by decide) (backOf (W := 1) (rm2 l Z a0 hw [] h0 n0 p1 A K cs sb35 sa35 kc35 EN OL0 z6 z7 z3 z8) hZ (own_W hw 25 rfl) (own_W hw 9 rfl) (by decide) (by decide)) z1a z1b (g := (mkF m 8 #[.val (.ref sa35), .val (.int 0), .val (.int 1)] [(.ref sa35), (.int 1)])) rfl (by rw [hml]; rfl) (Steps.refl _) (argsL := []) (rest := [(.int 1)]) (lenOf own_pd2 rfl) rfl (by show 2 * 0 + _ ≤ _; exact Nat.le_of_eq rfl) (hb hby yd_8) (fun _ _ => ⟨rfl, zm, (by decide : 0 + 0 ≤ _), (by decide : 0 + 0 ≤ _)⟩)
  dsimp only [Pt.U, Pt.locs, Pt.cells, Pt.slots] at z5 l86 y86 z86 zp zo
  replace z5 := own_sub z5 l86 y86 z86
  obtain ⟨rfl, z1c, zq⟩ := zo
  have z1d := Fr.app z19 z1c
  obtain ⟨cq99, kq99, z1e, z1y, z1f⟩ := isOf hZ zq z3
  obtain ⟨_, _, ⟨z1g, L99, z1z, n99⟩, -, zb, ⟨Lc99, zr, l99, y99, z99⟩, zs⟩ := z5.virtualBack hx (y := own_m3) (z := own_m3) hown (mvT hZ (own_W hw 62 rfl)) (mvT hZ (own_W hw 63 rfl)) (notFace_of_selects (args := #[]) (mvT hZ (own_W hw 65 rfl))) (mvT hZ (own_W hw 65 rfl)) (mvT hZ (own_W hw 64 rfl)) (by decide) (backOf (W := 0) (rm17 l Z a0 hw [] h0 n0 p1 A K cs sb35 sa35 kc35 EN OL0 z3 z8 z6 z7) hZ (own_W hw 66 rfl) (own_W hw 9 rfl) (by decide) (by decide)) z1e z1f (g := (mkF m 16 #[.val (.ref sa35), .val (.int 0), .val (.int 1)] [(.int 1), (.ref sa35)])) rfl (by rw [hml]; rfl) (Steps.refl _) (argsL := [(.int 1)]) (rest := []) (lenOf own_pd10 rfl) rfl (by show 2 * 0 + _ ≤ _; exact Nat.le_of_eq rfl) (hb hby yd_16) (fun _ _ => ⟨rfl, zq, (by decide : 0 + 0 ≤ _), (by decide : 0 + 0 ≤ _)⟩)
  dsimp only [Pt.U, Pt.locs, Pt.cells, Pt.slots] at zb l99 y99 z99 zs zr
  replace zb := own_sub zb l99 y99 z99
  obtain ⟨rfl, z1h, z1i⟩ := zr
  have z1j := Fr.app z1d z1h
  obtain ⟨_, _, ⟨zc, L100, z20, n100⟩, -, z1, ⟨Lc100, zt, l100, y100, z100⟩, zu⟩ := Jvm.LawKit.callS zb hx (y := own_m21) hown (mvT hZ (own_W hw 84 rfl)) (mvT hZ (own_W hw 85 rfl)) (mvT hZ (own_W hw 6 rfl)) (mvT hZ (own_W hw 86 rfl)) (by decide) (backOf (W := 0) (rm16 l Z a0 hw [] h0 n0 p1 A K cs EN OL0) hZ (own_W hw 86 rfl) (own_W hw 6 rfl) (by decide) (by decide)) (g := (mkF m 19 #[.val (.ref sa35), .val (.int 0), .val (.int 1)] [(.int 48)])) rfl (by rw [hml]; rfl) (argsL := [(.int 48)]) (rest := []) (lenOf own_pd11 rfl) rfl (by show 2 * 0 + _ ≤ _; exact Nat.le_of_eq rfl) (hb hby yd_19) (fun _ _ => ⟨rfl, z1i, (by decide : 0 + 0 ≤ _), (by decide : 0 + 0 ≤ _)⟩)
  dsimp only [Pt.U, Pt.locs, Pt.cells, Pt.slots] at z1 l100 y100 z100 zu zt
  replace z1 := own_sub z1 l100 y100 z100
  obtain ⟨rfl, z1k, zv⟩ := zt
  have z1l := Fr.app z1j z1k
  obtain ⟨cq101, kq101, z1m, z21, z1n⟩ := isOf hZ zv z3
  obtain ⟨_, _, ⟨zd, L101, z22, n101⟩, -, z2, ⟨Lc101, zw, l101, y101, z101⟩, zx⟩ := z1.virtualBack hx (y := own_m1) (z := own_m1) hown (mvT hZ (own_W hw 21 rfl)) (mvT hZ (own_W hw 22 rfl)) (notFace_of_selects (args := #[]) (mvT hZ (own_W hw 24 rfl))) (mvT hZ (own_W hw 24 rfl)) (mvT hZ (own_W hw 23 rfl)) (by decide) (backOf (W := 1) (rm2 l Z a0 hw [] h0 n0 p1 A K cs sb35 sa35 kc35 EN OL0 z6 z7 z3 z8) hZ (own_W hw 25 rfl) (own_W hw 9 rfl) (by decide) (by decide)) z1m z1n (g := (mkF m 8 #[.val (.ref sa35), .val (.int 0), .val (.int 2)] [(.ref sa35), (.int 2)])) rfl (by rw [hml]; rfl) (Steps.refl _) (argsL := []) (rest := [(.int 2)]) (lenOf own_pd2 rfl) rfl (by show 2 * 0 + _ ≤ _; exact Nat.le_of_eq rfl) (hb hby yd_8) (fun _ _ => ⟨rfl, zv, (by decide : 0 + 0 ≤ _), (by decide : 0 + 0 ≤ _)⟩)
  dsimp only [Pt.U, Pt.locs, Pt.cells, Pt.slots] at z2 l101 y101 z101 zx zw
  replace z2 := own_sub z2 l101 y101 z101
  obtain ⟨rfl, z1o, z1p⟩ := zw
  have z1q := Fr.app z1l z1o
  obtain ⟨fs, hr, hrun, hended, hW, hsame⟩ := z2.leave (v := some (.int 2)) (fun h => by rw [Bd.returns] at h; cases h)
  refine ⟨_, _, pre0 _ ?_, hrun, hended, _, _, rfl, ?_, ⟨_, rfl⟩, hW, hsame.mono (by decide) (by decide)⟩
  · show own_Y p e below s₁ m 0 #[.val (.ref sa35), .val (.int 0), .unset] [] _
    refine XS.iloadN X0.here hx rfl (hb hby yd_0) rfl ?_
    refine XS.istoreN X0.here hx rfl (hb hby yd_1) rfl (l' := #[.val (.ref sa35), .val (.int 0), .val (.int 0)]) rfl ?_
    refine XS.iloadN X0.here hx rfl (hb hby yd_2) rfl ?_
    refine XS.ifNo X0.here hx rfl (hb hby yd_3) rfl ((if0 _ _).trans (flt (by decide : ¬ ((0 : Int32) < (0 : Int32)))).1) ?_
    show own_Y p e below s₁ m 6 #[.val (.ref sa35), .val (.int 0), .val (.int 0)] [] _
    refine XS.iloadN X0.here hx rfl (hb hby yd_6) rfl ?_
    refine XS.aloadN X0.here hx rfl (hb hby yd_7) rfl rfl ?_
    refine zg.trans ?_
    show own_Y p e below ze m 11 #[.val (.ref sa35), .val (.int 0), .val (.int 0)] [(.int 2), (.int 0)] _
    refine XS.icmpNo z4.here hx rfl (hb hby yd_11) rfl (tlt (by decide : (0 : Int32) < (2 : Int32))).2.1 ?_
    show own_Y p e below ze m 14 #[.val (.ref sa35), .val (.int 0), .val (.int 0)] [] _
    refine XS.aloadN z4.here hx rfl (hb hby yd_14) rfl rfl ?_
    refine XS.iloadN z4.here hx rfl (hb hby yd_15) rfl ?_
    refine zj.trans ?_
    show own_Y p e below z14 m 19 #[.val (.ref sa35), .val (.int 0), .val (.int 0)] [(.int 48)] _
    refine zl _ ?_
    show own_Y p e below za m 22 #[.val (.ref sa35), .val (.int 0), .val (.int 0)] [(.int 1)] _
    refine XS.ifNo z0.here hx rfl (hb hby yd_22) rfl ((if0 _ _).trans (feq (by decide : ¬ ((1 : Int32) = (0 : Int32)))).1) ?_
    show own_Y p e below za m 25 #[.val (.ref sa35), .val (.int 0), .val (.int 0)] [] _
    refine XS.iinc z0.here hx rfl (hb hby yd_25) rfl (l' := #[.val (.ref sa35), .val (.int 0), .val (.int 1)]) rfl ?_
    show own_Y p e below za m 28 #[.val (.ref sa35), .val (.int 0), .val (.int 1)] [] _
    refine XS.goto z0.here hx rfl (pc0 := 28) (pc' := 2) rfl (hb hby yd_28) (by decide) (by decide) ?_
    refine XS.iloadN z0.here hx rfl (hb hby yd_2) rfl ?_
    refine XS.ifNo z0.here hx rfl (hb hby yd_3) rfl ((if0 _ _).trans (flt (by decide : ¬ ((1 : Int32) < (0 : Int32)))).1) ?_
    show own_Y p e below za m 6 #[.val (.ref sa35), .val (.int 0), .val (.int 1)] [] _
    refine XS.iloadN z0.here hx rfl (hb hby yd_6) rfl ?_
    refine XS.aloadN z0.here hx rfl (hb hby yd_7) rfl rfl ?_
    refine zp.trans ?_
    show own_Y p e below zn m 11 #[.val (.ref sa35), .val (.int 0), .val (.int 1)] [(.int 2), (.int 1)] _
    refine XS.icmpNo z5.here hx rfl (hb hby yd_11) rfl (tlt (by decide : (1 : Int32) < (2 : Int32))).2.1 ?_
    show own_Y p e below zn m 14 #[.val (.ref sa35), .val (.int 0), .val (.int 1)] [] _
    refine XS.aloadN z5.here hx rfl (hb hby yd_14) rfl rfl ?_
    refine XS.iloadN z5.here hx rfl (hb hby yd_15) rfl ?_
    refine zs.trans ?_
    show own_Y p e below z1g m 19 #[.val (.ref sa35), .val (.int 0), .val (.int 1)] [(.int 48)] _
    refine zu _ ?_
    show own_Y p e below zc m 22 #[.val (.ref sa35), .val (.int 0), .val (.int 1)] [(.int 1)] _
    refine XS.ifNo z1.here hx rfl (hb hby yd_22) rfl ((if0 _ _).trans (feq (by decide : ¬ ((1 : Int32) = (0 : Int32)))).1) ?_
    show own_Y p e below zc m 25 #[.val (.ref sa35), .val (.int 0), .val (.int 1)] [] _
    refine XS.iinc z1.here hx rfl (hb hby yd_25) rfl (l' := #[.val (.ref sa35), .val (.int 0), .val (.int 2)]) rfl ?_
    show own_Y p e below zc m 28 #[.val (.ref sa35), .val (.int 0), .val (.int 2)] [] _
    refine XS.goto z1.here hx rfl (pc0 := 28) (pc' := 2) rfl (hb hby yd_28) (by decide) (by decide) ?_
    refine XS.iloadN z1.here hx rfl (hb hby yd_2) rfl ?_
    refine XS.ifNo z1.here hx rfl (hb hby yd_3) rfl ((if0 _ _).trans (flt (by decide : ¬ ((2 : Int32) < (0 : Int32)))).1) ?_
    show own_Y p e below zc m 6 #[.val (.ref sa35), .val (.int 0), .val (.int 2)] [] _
    refine XS.iloadN z1.here hx rfl (hb hby yd_6) rfl ?_
    refine XS.aloadN z1.here hx rfl (hb hby yd_7) rfl rfl ?_
    refine zx.trans ?_
    show own_Y p e below zd m 11 #[.val (.ref sa35), .val (.int 0), .val (.int 2)] [(.int 2), (.int 2)] _
    refine XS.icmpYes z2.here hx rfl (pc0 := 11) (pc' := 31) rfl (hb hby yd_11) rfl (flt (by decide : ¬ ((2 : Int32) < (2 : Int32)))).2.1 (by decide) (by decide) ?_
    show own_Y p e below zd m 31 #[.val (.ref sa35), .val (.int 0), .val (.int 2)] [] _
    refine XS.iloadN z2.here hx rfl (hb hby yd_31) rfl ?_
    refine XS.iloadN z2.here hx rfl (hb hby yd_32) rfl ?_
    refine XS.icmpNo z2.here hx rfl (hb hby yd_33) rfl (tlt (by decide : (0 : Int32) < (2 : Int32))).2.2.2 ?_
    show own_Y p e below zd m 36 #[.val (.ref sa35), .val (.int 0), .val (.int 2)] [] _
    refine XS.iloadN z2.here hx rfl (hb hby yd_36) rfl ?_
    refine XS.goto z2.here hx rfl (pc0 := 37) (pc' := 41) rfl (hb hby yd_37) (by decide) (by decide) ?_
    exact retI z2 hx Bd.returns (hb hby yd_41) hr
  · show PQ (some (.int 2)) h0 n0 _ zd.heap _
    rw [z1p]
    exact ⟨rfl, z1q, rfl⟩
theorem ye_0 : decode prog_40_method_7_code 0 = .ok (.aload_n 1, 1) := by decide +kernel
theorem ye_1 : decode prog_40_method_7_code 1 = .ok (.invokevirtual 107, 3) := by decide +kernel
theorem ye_4 : decode prog_40_method_7_code 4 = .ok (.istore_n 2, 1) := by decide +kernel
theorem ye_5 : decode prog_40_method_7_code 5 = .ok (.iload_n 2, 1) := by decide +kernel
theorem ye_6 : decode prog_40_method_7_code 6 = .ok (.ifCond .ne 5, 3) := by decide +kernel
theorem ye_11 : decode prog_40_method_7_code 11 = .ok (.aload_n 0, 1) := by decide +kernel
theorem ye_12 : decode prog_40_method_7_code 12 = .ok (.invokevirtual 113, 3) := by decide +kernel
theorem ye_15 : decode prog_40_method_7_code 15 = .ok (.tableswitch 125 0 27 #[135, 135, 165, 182, 199, 199, 199, 199, 199, 199, 215, 228, 287, 287, 287, 280, 287, 254, 267, 291, 291, 308, 324, 346, 365, 388, 287, 287], 125) := by decide +kernel
theorem ye_150 : decode prog_40_method_7_code 150 = .ok (.aload_n 1, 1) := by decide +kernel
theorem ye_151 : decode prog_40_method_7_code 151 = .ok (.aload_n 1, 1) := by decide +kernel
theorem ye_152 : decode prog_40_method_7_code 152 = .ok (.ldc 121, 2) := by decide +kernel
theorem ye_154 : decode prog_40_method_7_code 154 = .ok (.invokevirtual 123, 3) := by decide +kernel
theorem ye_157 : decode prog_40_method_7_code 157 = .ok (.ifCond .eq 7, 3) := by decide +kernel
theorem ye_164 : decode prog_40_method_7_code 164 = .ok (.iconst 0, 1) := by decide +kernel
theorem ye_165 : decode prog_40_method_7_code 165 = .ok (.invokestatic 127, 3) := by decide +kernel
theorem ye_168 : decode prog_40_method_7_code 168 = .ok (.iload_n 2, 1) := by decide +kernel
theorem ye_169 : decode prog_40_method_7_code 169 = .ok (.if_icmp .ne 7, 3) := by decide +kernel
theorem ye_172 : decode prog_40_method_7_code 172 = .ok (.iconst 1, 1) := by decide +kernel
theorem ye_173 : decode prog_40_method_7_code 173 = .ok (.goto 253, 3) := by decide +kernel
theorem ye_426 : decode prog_40_method_7_code 426 = .ok (.ireturn, 1) := by decide +kernel
theorem rm1 (l : Launch) (Z : State) (a0 : Array Value) (hw : ∀ d ∈ tables_1, d.before a0 Z = true) (ws : List Jvm.Cond) (h0 : Heap) (n0 : Nat) (p1 : Int32) (A : Nat → Addr) (K : Nat → ClassId) (cs : Int32) (ta : Addr) (tj : Int32)  (sb35 : Addr) (sa35 : Addr) (kc35 : ClassId) (EN : own_St Z A K cs) (gE : Exa Z Z.heap ta y_s1) (gF : Fld Z Z.heap ta y_s3 "ordinal" "I" (.int tj)) (gj : tj = (0 : Int32) ∨ tj = (1 : Int32)) (OL0 : Old Z n0 h0) (z7 : Exa Z h0 sa35 y_s2) (za : Fld Z h0 sa35 y_s2 "value" "[B" (.ref sb35)) (zb : Arv Z h0 sb35 kc35 .byte (2 : Int32) [(.int 48), (.int 48)] (.int 0)) (zc : Fld Z h0 sa35 y_s2 "coder" "B" (.int 0)) :
    own_MH l Z own_m0 prog_40_method_7_code 3 (some .boolean) ws (Room.mk 5 2 8 67) #[(.ref ta), (.ref sa35)] h0 (QH (some (.int 1)) h0 n0) := by
  refine MetFree.of_bodySF (plainFor_of_name own_pn6) hisR ?_
  intro p e s m args below meth c s₁ Bd hml0 hP hK
  obtain ⟨rfl, hZ, hh, H0⟩ := hP
  have hx := Bd.exec
  have hby := Bd.bytes
  have hml : c.maxLocals = 3 := hml0
  have hown : s.vm.findClass y_s1 = some m.cls := findClass_of_methodNamed Bd.named
  have hnm := (name_of_methodNamed Bd.named Bd.method).1
  have hS0 : s.Since s.vm 0 := (State.WarmedH.refl s).since 0
  have zu : 0 ≤ h0.size := Nat.zero_le _
  have CR0 : CHr Z consts_1 s.vm h0 s.vm h0 := CHr.refl H0
  have X0 : Stand p l e (Room.mk 5 2 8 67) (s.setVm s.vm) m #[(.ref ta), (.ref sa35)] below meth c s₁ [] 0 0 := Stand.of_body Bd
  have e0 : s₁.heap = h0 := by rw [← hh, Bd.state]; rfl
  have N0 := Fr.nil n0
  have pre0 : own_P p e below s₁ m 0 #[.val (.ref ta), .val (.ref sa35), .unset] [] s₁ #[(.ref ta), (.ref sa35)] 3 := fun t k => castTop (by first | (simp [entryFrame, mkF, argsToLocals, Value.category, maxLocals]; done) | rfl) k
  have KK0 : Keep h0 h0 [] := Keep.refl _ _
  obtain ⟨cq45, kq45, zv, z1h, zw⟩ := isOf hZ e0 z7
  obtain ⟨_, _, ⟨zd, L45, z1i, n45⟩, -, z1, ⟨Lc45, ze, l45, y45, z45⟩, zf⟩ := X0.virtualBack hx (y := own_m1) (z := own_m1) hown (mvT hZ (own_W hw 21 rfl)) (mvT hZ (own_W hw 22 rfl)) (notFace_of_selects (args := #[]) (mvT hZ (own_W hw 24 rfl))) (mvT hZ (own_W hw 24 rfl)) (mvT hZ (own_W hw 23 rfl)) (by decide) (backOf (W := 0) (rm2 l Z a0 hw [] h0 n0 p1 A K cs sb35 sa35 kc35 EN OL0 za zb z7 zc) hZ (own_W hw 25 rfl) (own_W hw 9 rfl) (by decide) (by decide)) zv zw (g := (mkF m 1 #[.val (.ref ta), .val (.ref sa35), .unset] [(.ref sa35)])) rfl (by rw [hml]; rfl) (Steps.refl _) (argsL := []) (rest := []) (lenOf own_pd2 rfl) rfl (by show 2 * 0 + _ ≤ _; exact Nat.le_of_eq rfl) (hb hby ye_1) (fun _ _ => ⟨rfl, e0, (by decide : 0 + 0 ≤ _), (by decide : 0 + 0 ≤ _)⟩)
  dsimp only [Pt.U, Pt.locs, Pt.cells, Pt.slots] at z1 l45 y45 z45 zf ze
  replace z1 := own_sub z1 l45 y45 z45
  obtain ⟨rfl, zx, zg⟩ := ze
  have zy := Fr.app N0 zx
  obtain ⟨cq46, kq46, zz, z1j, z10⟩ := isOf hZ zg (gE.ext OL0.2)
  obtain ⟨_, _, ⟨z3, L46, z1k, n46⟩, -, z2, ⟨Lc46, zh, l46, y46, z46⟩, zi⟩ := z1.virtualBackUp hx (x := own_m8) (y := own_m7) (owner := y_s3) hown (mvT hZ (own_W hw 34 rfl)) (mvT hZ (own_W hw 35 rfl)) (mvT hZ (own_W hw 36 rfl)) (by decide) (mvT hZ (own_W hw 38 rfl)) (mvT hZ (own_W hw 37 rfl)) (backOf (W := 0) (rm4 l Z a0 hw [] h0 n0 p1 A K cs ta tj EN gE gF OL0) hZ (own_W hw 40 rfl) (own_W hw 39 rfl) (by decide) (by decide)) zz z10 (g := (mkF m 12 #[.val (.ref ta), .val (.ref sa35), .val (.int 2)] [(.ref ta)])) rfl (by rw [hml]; rfl) (Steps.refl _) (argsL := []) (rest := []) (lenOf own_pd2 rfl) rfl (by show 2 * 0 + _ ≤ _; exact Nat.le_of_eq rfl) (hb hby ye_12) (fun _ _ => ⟨rfl, zg, (by decide : 0 + 0 ≤ _), (by decide : 0 + 0 ≤ _)⟩)
  dsimp only [Pt.U, Pt.locs, Pt.cells, Pt.slots] at z2 l46 y46 z46 zi zh
  replace z2 := own_sub z2 l46 y46 z46
  obtain ⟨rfl, z11, z12⟩ := zh
  have z13 := Fr.app zy z11
  have ts47 : ∀ t, Steps p.tables e below (z3.setTop (mkF m 150 #[.val (.ref ta), .val (.ref sa35), .val (.int 2)] [])) t → Steps p.tables e below (z3.setTop (mkF m 15 #[.val (.ref ta), .val (.ref sa35), .val (.int 2)] [(.int tj)])) t := by
    intro t k
    rcases gj with rfl | rfl <;> exact XS.tswIn z2.here hx rfl (pc0 := 15) (pc' := 150) rfl (hb hby ye_15) rfl (by decide) (o := 135) (by decide) (by decide) (by decide) k
  have z14 : own_P p e below z3 m 152 #[.val (.ref ta), .val (.ref sa35), .val (.int 2)] [(.ref sa35), (.ref sa35)] s₁ #[(.ref ta), (.ref sa35)] 3 := fun t k => pre0 t (by
    show own_Y p e below s₁ m 0 #[.val (.ref ta), .val (.ref sa35), .unset] [] _
    refine XS.aloadN X0.here hx rfl (hb hby ye_0) rfl rfl ?_
    refine zf.trans ?_
    show own_Y p e below zd m 4 #[.val (.ref ta), .val (.ref sa35), .unset] [(.int 2)] _
    refine XS.istoreN z1.here hx rfl (hb hby ye_4) rfl (l' := #[.val (.ref ta), .val (.ref sa35), .val (.int 2)]) rfl ?_
    refine XS.iloadN z1.here hx rfl (hb hby ye_5) rfl ?_
    refine XS.ifYes z1.here hx rfl (pc0 := 6) (pc' := 11) rfl (hb hby ye_6) rfl ((if0 _ _).trans (feq (by decide : ¬ ((2 : Int32) = (0 : Int32)))).2) (by decide) (by decide) ?_
    show own_Y p e below zd m 11 #[.val (.ref ta), .val (.ref sa35), .val (.int 2)] [] _
    refine XS.aloadN z1.here hx rfl (hb hby ye_11) rfl rfl ?_
    refine zi.trans ?_
    show own_Y p e below z3 m 15 #[.val (.ref ta), .val (.ref sa35), .val (.int 2)] [(.int tj)] _
    refine ts47 _ ?_
    show own_Y p e below z3 m 150 #[.val (.ref ta), .val (.ref sa35), .val (.int 2)] [] _
    refine XS.aloadN z2.here hx rfl (hb hby ye_150) rfl rfl ?_
    refine XS.aloadN z2.here hx rfl (hb hby ye_151) rfl rfl ?_
    exact k)
  obtain ⟨sa49, z15, zj, kk49, sb49, kc49, z16, zk, z4, hS49, z17, hZ, hown, Es49, Cs49, Vs49, As49, la49, lb49, C49, -, -, z18⟩ := ldcCH (s := s) z2 hx hZ hown (own_W hw 43 rfl) (own_strAtoms a0 Z hw) z12 hS0 zu (own_EW a0 Z hw) (List.mem_of_getElem? (i := 0) rfl) H0 (vs := [(.int 45)]) (z := (1 : Int32)) ⟨by decide, by decide⟩ (by decide) (by decide) (g := (mkF m 152 #[.val (.ref ta), .val (.ref sa35), .val (.int 2)] [(.ref sa35), (.ref sa35)])) rfl (hb hby ye_152) (n := 4) (by decide) (by decide) (by decide) (by decide)
  have CR49 := CR0.trans C49
  have zl := OL0.ext z4
  have z19 := KK0.ext z4
  have z8 := (z7.ext z4)
  have zm := (za.ext z4)
  have zn := (zb.ext z4)
  have zo := (zc.ext z4)
  obtain ⟨cq68, kq68, z1a, z1l, z1b⟩ := isOf hZ zk z8
  obtain ⟨_, _, ⟨zp, L68, z1m, n68⟩, -, z5, ⟨Lc68, zq, l68, y68, z68⟩, zr⟩ := z16.virtualBack hx (y := own_m11) (z := own_m11) hown (mvT hZ (own_W hw 44 rfl)) (mvT hZ (own_W hw 45 rfl)) (notFace_of_selects (args := #[]) (mvT hZ (own_W hw 47 rfl))) (mvT hZ (own_W hw 47 rfl)) (mvT hZ (own_W hw 46 rfl)) (by decide) (backOf (W := 1) (rm5 l Z a0 hw [] zj n0 p1 A K cs sb35 sa35 sb49 sa49 kc35 kc49 EN zl z8 zm zn zo Es49 Vs49 As49 Cs49) hZ (own_W hw 48 rfl) (own_W hw 9 rfl) (by decide) (by decide)) z1a z1b (g := (mkF m 154 #[.val (.ref ta), .val (.ref sa35), .val (.int 2)] [(.ref sa49), (.ref sa35), (.ref sa35)])) rfl (by rw [hml]; rfl) (Steps.refl _) (argsL := [(.ref sa49)]) (rest := [(.ref sa35)]) (lenOf own_pd5 rfl) rfl (by show 2 * 0 + _ ≤ _; exact Nat.le_of_eq rfl) (hb hby ye_154) (fun _ _ => ⟨rfl, zk, (by decide : 2 + 0 ≤ _), (by decide : 8 + 0 ≤ _)⟩)
  dsimp only [Pt.U, Pt.locs, Pt.cells, Pt.slots] at z5 l68 y68 z68 zr zq
  replace z5 := own_sub z5 l68 y68 z68
  obtain ⟨rfl, z1c, z1d⟩ := zq
  have z1e := Fr.app z13 z1c
  obtain ⟨_, _, ⟨z6, L102, z1n, n102⟩, -, z0, ⟨Lc102, zs, l102, y102, z102⟩, zt⟩ := Jvm.LawKit.callS z5 hx (y := own_m18) hown (mvT hZ (own_W hw 59 rfl)) (mvT hZ (own_W hw 60 rfl)) (mvT hZ (own_W hw 6 rfl)) (mvT hZ (own_W hw 61 rfl)) (by decide) (backOf (W := 0) (rm9 l Z a0 hw [] zj n0 p1 A K cs sb35 sa35 kc35 EN zl z8 zm zn zo) hZ (own_W hw 61 rfl) (own_W hw 6 rfl) (by decide) (by decide)) (g := (mkF m 165 #[.val (.ref ta), .val (.ref sa35), .val (.int 2)] [(.int 0), (.ref sa35)])) rfl (by rw [hml]; rfl) (argsL := [(.ref sa35), (.int 0)]) (rest := []) (lenOf own_pd12 rfl) rfl (by show 2 * 0 + _ ≤ _; exact Nat.le_of_eq rfl) (hb hby ye_165) (fun _ _ => ⟨rfl, z1d, (by decide : 2 + 0 ≤ _), (by decide : 8 + 0 ≤ _)⟩)
  dsimp only [Pt.U, Pt.locs, Pt.cells, Pt.slots] at z0 l102 y102 z102 zt zs
  replace z0 := own_sub z0 l102 y102 z102
  obtain ⟨rfl, z1f, z9⟩ := zs
  have z1g := Fr.app z1e z1f
  obtain ⟨fs, hr, hrun, hended, hEW⟩ := z0.leaveW (s := s) hS49 (by rw [z9]; exact z17) (v := some (.int 1)) (fun h => by rw [Bd.returns] at h; cases h)
  refine ⟨_, _, z14 _ ?_, hrun, hended, _, _, rfl, ?_, ?_, hEW.1, hEW.2.1, hEW.2.2.1, hEW.2.2.2.mono (by decide) (by decide)⟩
  · show own_Y p e below z3 m 152 #[.val (.ref ta), .val (.ref sa35), .val (.int 2)] [(.ref sa35), (.ref sa35)] _
    refine z18 _ ?_
    show own_Y p e below z15 m 154 #[.val (.ref ta), .val (.ref sa35), .val (.int 2)] [(.ref sa49), (.ref sa35), (.ref sa35)] _
    refine zr.trans ?_
    show own_Y p e below zp m 157 #[.val (.ref ta), .val (.ref sa35), .val (.int 2)] [(.int 0), (.ref sa35)] _
    refine XS.ifYes z5.here hx rfl (pc0 := 157) (pc' := 164) rfl (hb hby ye_157) rfl ((if0 _ _).trans (teq (by decide : (0 : Int32) = (0 : Int32))).1) (by decide) (by decide) ?_
    show own_Y p e below zp m 164 #[.val (.ref ta), .val (.ref sa35), .val (.int 2)] [(.ref sa35)] _
    refine XS.iconst z5.here hx rfl (hb hby ye_164) ?_
    refine zt _ ?_
    show own_Y p e below z6 m 168 #[.val (.ref ta), .val (.ref sa35), .val (.int 2)] [(.int 2)] _
    refine XS.iloadN z0.here hx rfl (hb hby ye_168) rfl ?_
    refine XS.icmpNo z0.here hx rfl (hb hby ye_169) rfl (teq (by decide : (2 : Int32) = (2 : Int32))).2 ?_
    show own_Y p e below z6 m 172 #[.val (.ref ta), .val (.ref sa35), .val (.int 2)] [] _
    refine XS.iconst z0.here hx rfl (hb hby ye_172) ?_
    refine XS.goto z0.here hx rfl (pc0 := 173) (pc' := 426) rfl (hb hby ye_173) (by decide) (by decide) ?_
    exact retN z0 hx (t := .boolean) Bd.returns (by simp) (hb hby ye_426) hr
  · show QH (some (.int 1)) h0 n0 _ z6.heap _
    rw [z9]
    exact ⟨rfl, z1g, z19⟩
  · show CHr Z consts_1 s.vm s.heap z6.vm z6.heap
    rw [hh, z9]
    exact CR49.trans (CHv.at z0 hZ (own_EW a0 Z hw) C49.1)
theorem rm23 (l : Launch) (Z : State) (a0 : Array Value) (hw : ∀ d ∈ tables_1, d.before a0 Z = true) (ws : List Jvm.Cond) (h0 : Heap) (n0 : Nat) (p1 : Int32) (A : Nat → Addr) (K : Nat → ClassId) (cs : Int32)  (sb105 : Addr) (sa105 : Addr) (kc105 : ClassId) (EN : own_St Z A K cs) (OL0 : Old Z n0 h0) (z8 : Fld Z h0 sa105 y_s2 "value" "[B" (.ref sb105)) (z9 : Arv Z h0 sb105 kc105 .byte (2 : Int32) [(.int 45), (.int 48)] (.int 0)) (za : Exa Z h0 sa105 y_s2) (zb : Fld Z h0 sa105 y_s2 "coder" "B" (.int 0)) :
    own_MF l Z own_m1 jdk_42_method_54_code 1 (some .int) ws (Room.mk 1 0 0 13) #[(.ref sa105)] h0 (PQ (some (.int 2)) h0 n0) := by
  refine MetFree.of_bodySF (plainFor_of_name own_pn1) hisR ?_
  intro p e s m args below meth c s₁ Bd hml0 hP hK
  obtain ⟨rfl, hZ, hh⟩ := hP
  have hx := Bd.exec
  have hby := Bd.bytes
  have hml : c.maxLocals = 1 := hml0
  have hown : s.vm.findClass y_s2 = some m.cls := findClass_of_methodNamed Bd.named
  have hnm := (name_of_methodNamed Bd.named Bd.method).1
  have X0 : Stand p l e (Room.mk 1 0 0 13) s m #[(.ref sa105)] below meth c s₁ [] 0 0 := Stand.of_body Bd
  have e0 : s₁.heap = h0 := by rw [← hh, Bd.state]; rfl
  have N0 := Fr.nil n0
  have pre0 : own_P p e below s₁ m 0 #[.val (.ref sa105)] [] s₁ #[(.ref sa105)] 1 := fun t k => castTop (by first | (simp [entryFrame, mkF, argsToLocals, Value.category, maxLocals]; done) | rfl) k
  have KK0 : Keep h0 h0 [] := Keep.refl _ _
  obtain ⟨z4, z1, z2, zc⟩ := getF X0 hx hZ hown (host := "") (Or.inl (own_W hw 26 rfl)) Via.refl e0 z8 (g := (mkF m 1 #[.val (.ref sa105)] [(.ref sa105)])) rfl rfl (hb hby y2_1)
  obtain ⟨zk, z5, -, zd, ze, -, -⟩ := (id z9)
  obtain ⟨cq108, kq108, zf, zl, zg⟩ := isOf hZ z2 za
  obtain ⟨_, _, ⟨z3, L108, zm, n108⟩, -, z0, ⟨Lc108, z6, l108, y108, z108⟩, z7⟩ := z1.virtualBack hx (y := own_m9) (z := own_m9) hown (mvT hZ (own_W hw 27 rfl)) (mvT hZ (own_W hw 28 rfl)) (notFace_of_selects (args := #[]) (mvT hZ (own_W hw 30 rfl))) (mvT hZ (own_W hw 30 rfl)) (mvT hZ (own_W hw 29 rfl)) (by decide) (backOf (W := 1) (rm3 l Z a0 hw [] h0 n0 p1 A K cs sa105 EN OL0 zb) hZ (own_W hw 31 rfl) (own_W hw 9 rfl) (by decide) (by decide)) zf zg (g := (mkF m 6 #[.val (.ref sa105)] [(.ref sa105), (.int 2)])) rfl (by rw [hml]; rfl) (Steps.refl _) (argsL := []) (rest := [(.int 2)]) (lenOf own_pd1 rfl) rfl (by show 2 * 0 + _ ≤ _; exact Nat.le_of_eq rfl) (hb hby y2_6) (fun _ _ => ⟨rfl, z2, (by decide : 0 + 0 ≤ _), (by decide : 0 + 0 ≤ _)⟩)
  dsimp only [Pt.U, Pt.locs, Pt.cells, Pt.slots] at z0 l108 y108 z108 z7 z6
  replace z0 := own_sub z0 l108 y108 z108
  obtain ⟨rfl, zh, zi⟩ := z6
  have zj := Fr.app N0 zh
  obtain ⟨fs, hr, hrun, hended, hW, hsame⟩ := z0.leave (v := some (.int 2)) (fun h => by rw [Bd.returns] at h; cases h)
  refine ⟨_, _, pre0 _ ?_, hrun, hended, _, _, rfl, ?_, ⟨_, rfl⟩, hW, hsame.mono (by decide) (by decide)⟩
  · show own_Y p e below s₁ m 0 #[.val (.ref sa105)] [] _
    refine XS.aloadN X0.here hx rfl (hb hby y2_0) rfl rfl ?_
    refine zc _ ?_
    show own_Y p e below z4 m 4 #[.val (.ref sa105)] [(.ref sb105)] _
    refine z1.arraylength hx (by rw [z2]; exact z5.1) (State.isArrayOf_alike hZ.alike z5.2.1) (g := (mkF m 4 #[.val (.ref sa105)] [(.ref sb105)])) rfl rfl (hb hby y2_4) _ ?_
    rw [len_of zd ze]
    show own_Y p e below z4 m 5 #[.val (.ref sa105)] [(.int 2)] _
    refine XS.aloadN z1.here hx rfl (hb hby y2_5) rfl rfl ?_
    refine z7.trans ?_
    show own_Y p e below z3 m 9 #[.val (.ref sa105)] [(.int 0), (.int 2)] _
    refine XS.ishr z0.here hx rfl (hb hby y2_9) rfl ?_
    show own_Y p e below z3 m 10 #[.val (.ref sa105)] [(.int 2)] _
    exact retI z0 hx Bd.returns (hb hby y2_10) hr
  · show PQ (some (.int 2)) h0 n0 _ z3.heap _
    rw [zi]
    exact ⟨rfl, zj, rfl⟩
theorem y4_95 : decode jdk_48_method_14_code 95 = .ok (.iinc 5 1, 3) := by decide +kernel
theorem y4_98 : decode jdk_48_method_14_code 98 = .ok (.goto (-28), 3) := by decide +kernel
theorem y4_101 : decode jdk_48_method_14_code 101 = .ok (.iconst (-1), 1) := by decide +kernel
theorem y4_102 : decode jdk_48_method_14_code 102 = .ok (.ireturn, 1) := by decide +kernel
theorem rm26 (l : Launch) (Z : State) (a0 : Array Value) (hw : ∀ d ∈ tables_1, d.before a0 Z = true) (ws : List Jvm.Cond) (h0 : Heap) (n0 : Nat) (p1 : Int32) (A : Nat → Addr) (K : Nat → ClassId) (cs : Int32)  (sb105 : Addr) (sb116 : Addr) (kc105 : ClassId) (kc116 : ClassId) (EN : own_St Z A K cs) (OL0 : Old Z n0 h0) (z6 : Arv Z h0 sb105 kc105 .byte (2 : Int32) [(.int 45), (.int 48)] (.int 0)) (z7 : Arv Z h0 sb116 kc116 .byte (1 : Int32) [(.int 45)] (.int 0)) :
    own_MF l Z own_m23 jdk_48_method_14_code 8 (some .int) ws (Room.mk 0 0 0 0) #[(.ref sb105), (.int 0), (.ref sb116), (.int 0), (.int 1)] h0 (PQ (some (.int (-1))) h0 n0) := by
  refine MetFree.of_bodySF (plainFor_of_name own_pn3) hisR ?_
  intro p e s m args below meth c s₁ Bd hml0 hP hK
  obtain ⟨rfl, hZ, hh⟩ := hP
  have hx := Bd.exec
  have hby := Bd.bytes
  have hml : c.maxLocals = 8 := hml0
  have hown : s.vm.findClass "jdk/internal/util/ArraysSupport" = some m.cls := findClass_of_methodNamed Bd.named
  have hnm := (name_of_methodNamed Bd.named Bd.method).1
  have X0 : Stand p l e (Room.mk 0 0 0 0) s m #[(.ref sb105), (.int 0), (.ref sb116), (.int 0), (.int 1)] below meth c s₁ [] 0 0 := Stand.of_body Bd
  have e0 : s₁.heap = h0 := by rw [← hh, Bd.state]; rfl
  have N0 := Fr.nil n0
  have pre0 : own_P p e below s₁ m 0 #[.val (.ref sb105), .val (.int 0), .val (.ref sb116), .val (.int 0), .val (.int 1), .unset, .unset, .unset] [] s₁ #[(.ref sb105), (.int 0), (.ref sb116), (.int 0), (.int 1)] 8 := fun t k => castTop (by first | (simp [entryFrame, mkF, argsToLocals, Value.category, maxLocals]; done) | rfl) k
  have KK0 : Keep h0 h0 [] := Keep.refl _ _
  obtain ⟨z2, z0, ze, z8, zf, z9, zg⟩ := (id z6)
  have z3 : ¬ ((0 : Int32) < 0 ∨ z2.slots.size ≤ ((0 : Int32)).toNatClampNeg) := inb_of z8 ⟨by decide, by decide⟩
  have za : z2.slots[((0 : Int32)).toNatClampNeg]? = some (.int 45) := Has.at z9 z3 rfl
  obtain ⟨z4, z1, zh, zb, zi, zc, zj⟩ := (id z7)
  have z5 : ¬ ((0 : Int32) < 0 ∨ z4.slots.size ≤ ((0 : Int32)).toNatClampNeg) := inb_of zb ⟨by decide, by decide⟩
  have zd : z4.slots[((0 : Int32)).toNatClampNeg]? = some (.int 45) := Has.at zc z5 rfl
  obtain ⟨fs, hr, hrun, hended, hW, hsame⟩ := X0.leave (v := some (.int (-1))) (fun h => by rw [Bd.returns] at h; cases h)
  refine ⟨_, _, pre0 _ ?_, hrun, hended, _, _, rfl, ?_, ⟨_, rfl⟩, hW, hsame.mono (by decide) (by decide)⟩
  · show own_Y p e below s₁ m 0 #[.val (.ref sb105), .val (.int 0), .val (.ref sb116), .val (.int 0), .val (.int 1), .unset, .unset, .unset] [] _
    refine XS.iconst X0.here hx rfl (hb hby y4_0) ?_
    refine XS.istore X0.here hx rfl (hb hby y4_1) rfl (l' := #[.val (.ref sb105), .val (.int 0), .val (.ref sb116), .val (.int 0), .val (.int 1), .val (.int 0), .unset, .unset]) rfl ?_
    refine XS.iload X0.here hx rfl (hb hby y4_3) rfl ?_
    refine XS.bipush X0.here hx rfl (hb hby y4_5) ?_
    refine XS.icmpYes X0.here hx rfl (pc0 := 7) (pc' := 70) rfl (hb hby y4_7) rfl (flt (by decide : ¬ ((7 : Int32) < (1 : Int32)))).2.2.2 (by decide) (by decide) ?_
    show own_Y p e below s₁ m 70 #[.val (.ref sb105), .val (.int 0), .val (.ref sb116), .val (.int 0), .val (.int 1), .val (.int 0), .unset, .unset] [] _
    refine XS.iload X0.here hx rfl (hb hby y4_70) rfl ?_
    refine XS.iload X0.here hx rfl (hb hby y4_72) rfl ?_
    refine XS.icmpNo X0.here hx rfl (hb hby y4_74) rfl (tlt (by decide : (0 : Int32) < (1 : Int32))).2.1 ?_
    show own_Y p e below s₁ m 77 #[.val (.ref sb105), .val (.int 0), .val (.ref sb116), .val (.int 0), .val (.int 1), .val (.int 0), .unset, .unset] [] _
    refine XS.aloadN X0.here hx rfl (hb hby y4_77) rfl rfl ?_
    refine XS.iloadN X0.here hx rfl (hb hby y4_78) rfl ?_
    refine XS.iload X0.here hx rfl (hb hby y4_79) rfl ?_
    refine XS.iadd X0.here hx rfl (hb hby y4_81) rfl ?_
    show own_Y p e below s₁ m 82 #[.val (.ref sb105), .val (.int 0), .val (.ref sb116), .val (.int 0), .val (.int 1), .val (.int 0), .unset, .unset] [(.int 0), (.ref sb105)] _
    refine X0.baloadBytes hx (j := (0 : Int32)) (v := (.int 45)) (by rw [e0]; exact z0.1) (State.isArrayOf_alike hZ.alike z0.2.1) z0.2.2 z3 za (g := (mkF m 82 #[.val (.ref sb105), .val (.int 0), .val (.ref sb116), .val (.int 0), .val (.int 1), .val (.int 0), .unset, .unset] [(.int 0), (.ref sb105)])) rfl rfl (hb hby y4_82) _ ?_
    show own_Y p e below s₁ m 83 #[.val (.ref sb105), .val (.int 0), .val (.ref sb116), .val (.int 0), .val (.int 1), .val (.int 0), .unset, .unset] [(.int 45)] _
    refine XS.aloadN X0.here hx rfl (hb hby y4_83) rfl rfl ?_
    refine XS.iloadN X0.here hx rfl (hb hby y4_84) rfl ?_
    refine XS.iload X0.here hx rfl (hb hby y4_85) rfl ?_
    refine XS.iadd X0.here hx rfl (hb hby y4_87) rfl ?_
    show own_Y p e below s₁ m 88 #[.val (.ref sb105), .val (.int 0), .val (.ref sb116), .val (.int 0), .val (.int 1), .val (.int 0), .unset, .unset] [(.int 0), (.ref sb116), (.int 45)] _
    refine X0.baloadBytes hx (j := (0 : Int32)) (v := (.int 45)) (by rw [e0]; exact z1.1) (State.isArrayOf_alike hZ.alike z1.2.1) z1.2.2 z5 zd (g := (mkF m 88 #[.val (.ref sb105), .val (.int 0), .val (.ref sb116), .val (.int 0), .val (.int 1), .val (.int 0), .unset, .unset] [(.int 0), (.ref sb116), (.int 45)])) rfl rfl (hb hby y4_88) _ ?_
    show own_Y p e below s₁ m 89 #[.val (.ref sb105), .val (.int 0), .val (.ref sb116), .val (.int 0), .val (.int 1), .val (.int 0), .unset, .unset] [(.int 45), (.int 45)] _
    refine XS.icmpYes X0.here hx rfl (pc0 := 89) (pc' := 95) rfl (hb hby y4_89) rfl (teq (by decide : (45 : Int32) = (45 : Int32))).1 (by decide) (by decide) ?_
    show own_Y p e below s₁ m 95 #[.val (.ref sb105), .val (.int 0), .val (.ref sb116), .val (.int 0), .val (.int 1), .val (.int 0), .unset, .unset] [] _
    refine XS.iinc X0.here hx rfl (hb hby y4_95) rfl (l' := #[.val (.ref sb105), .val (.int 0), .val (.ref sb116), .val (.int 0), .val (.int 1), .val (.int 1), .unset, .unset]) rfl ?_
    show own_Y p e below s₁ m 98 #[.val (.ref sb105), .val (.int 0), .val (.ref sb116), .val (.int 0), .val (.int 1), .val (.int 1), .unset, .unset] [] _
    refine XS.goto X0.here hx rfl (pc0 := 98) (pc' := 70) rfl (hb hby y4_98) (by decide) (by decide) ?_
    refine XS.iload X0.here hx rfl (hb hby y4_70) rfl ?_
    refine XS.iload X0.here hx rfl (hb hby y4_72) rfl ?_
    refine XS.icmpYes X0.here hx rfl (pc0 := 74) (pc' := 101) rfl (hb hby y4_74) rfl (flt (by decide : ¬ ((1 : Int32) < (1 : Int32)))).2.1 (by decide) (by decide) ?_
    show own_Y p e below s₁ m 101 #[.val (.ref sb105), .val (.int 0), .val (.ref sb116), .val (.int 0), .val (.int 1), .val (.int 1), .unset, .unset] [] _
    refine XS.iconst X0.here hx rfl (hb hby y4_101) ?_
    exact retI X0 hx Bd.returns (hb hby y4_102) hr
  · show PQ (some (.int (-1))) h0 n0 _ s₁.heap _
    rw [e0]
    exact ⟨rfl, N0, rfl⟩
theorem y5_76 : decode jdk_42_method_75_code 76 = .ok (.iconst 1, 1) := by decide +kernel
theorem y5_77 : decode jdk_42_method_75_code 77 = .ok (.goto 4, 3) := by decide +kernel
theorem rm25 (l : Launch) (Z : State) (a0 : Array Value) (hw : ∀ d ∈ tables_1, d.before a0 Z = true) (ws : List Jvm.Cond) (h0 : Heap) (n0 : Nat) (p1 : Int32) (A : Nat → Addr) (K : Nat → ClassId) (cs : Int32)  (sb105 : Addr) (sa105 : Addr) (sb116 : Addr) (sa116 : Addr) (kc105 : ClassId) (kc116 : ClassId) (EN : own_St Z A K cs) (OL0 : Old Z n0 h0) (z6 : Exa Z h0 sa105 y_s2) (ze : Fld Z h0 sa105 y_s2 "value" "[B" (.ref sb105)) (zf : Arv Z h0 sb105 kc105 .byte (2 : Int32) [(.int 45), (.int 48)] (.int 0)) (zg : Fld Z h0 sa105 y_s2 "coder" "B" (.int 0)) (z7 : Exa Z h0 sa116 y_s2) (zh : Fld Z h0 sa116 y_s2 "value" "[B" (.ref sb116)) (z8 : Arv Z h0 sb116 kc116 .byte (1 : Int32) [(.int 45)] (.int 0)) (zi : Fld Z h0 sa116 y_s2 "coder" "B" (.int 0)) :
    own_MF l Z own_m16 jdk_42_method_75_code 8 (some .boolean) ws (Room.mk 2 0 0 27) #[(.ref sa105), (.ref sa116), (.int 0)] h0 (PQ (some (.int 1)) h0 n0) := by
  refine MetFree.of_bodySF (plainFor_of_name own_pn1) hisR ?_
  intro p e s m args below meth c s₁ Bd hml0 hP hK
  obtain ⟨rfl, hZ, hh⟩ := hP
  have hx := Bd.exec
  have hby := Bd.bytes
  have hml : c.maxLocals = 8 := hml0
  have hown : s.vm.findClass y_s2 = some m.cls := findClass_of_methodNamed Bd.named
  have hnm := (name_of_methodNamed Bd.named Bd.method).1
  have X0 : Stand p l e (Room.mk 2 0 0 27) s m #[(.ref sa105), (.ref sa116), (.int 0)] below meth c s₁ [] 0 0 := Stand.of_body Bd
  have e0 : s₁.heap = h0 := by rw [← hh, Bd.state]; rfl
  have N0 := Fr.nil n0
  have pre0 : own_P p e below s₁ m 0 #[.val (.ref sa105), .val (.ref sa116), .val (.int 0), .unset, .unset, .unset, .unset, .unset] [] s₁ #[(.ref sa105), (.ref sa116), (.int 0)] 8 := fun t k => castTop (by first | (simp [entryFrame, mkF, argsToLocals, Value.category, maxLocals]; done) | rfl) k
  have KK0 : Keep h0 h0 [] := Keep.refl _ _
  obtain ⟨cq118, kq118, zx, z1q, zy⟩ := isOf hZ e0 z6
  obtain ⟨_, _, ⟨zz, L118, z1r, n118⟩, -, z5, ⟨Lc118, zj, l118, y118, z118⟩, zk⟩ := X0.virtualBack hx (y := own_m1) (z := own_m1) hown (mvT hZ (own_W hw 54 rfl)) (mvT hZ (own_W hw 22 rfl)) (notFace_of_selects (args := #[]) (mvT hZ (own_W hw 24 rfl))) (mvT hZ (own_W hw 24 rfl)) (mvT hZ (own_W hw 23 rfl)) (by decide) (backOf (W := 1) (rm23 l Z a0 hw [] h0 n0 p1 A K cs sb105 sa105 kc105 EN OL0 ze zf z6 zg) hZ (own_W hw 25 rfl) (own_W hw 9 rfl) (by decide) (by decide)) zx zy (g := (mkF m 6 #[.val (.ref sa105), .val (.ref sa116), .val (.int 0), .unset, .unset, .unset, .unset, .unset] [(.ref sa105), (.int 0)])) rfl (by rw [hml]; rfl) (Steps.refl _) (argsL := []) (rest := [(.int 0)]) (lenOf own_pd2 rfl) rfl (by show 2 * 0 + _ ≤ _; exact Nat.le_of_eq rfl) (hb hby y5_6) (fun _ _ => ⟨rfl, e0, (by decide : 0 + 0 ≤ _), (by decide : 0 + 0 ≤ _)⟩)
  dsimp only [Pt.U, Pt.locs, Pt.cells, Pt.slots] at z5 l118 y118 z118 zk zj
  replace z5 := own_sub z5 l118 y118 z118
  obtain ⟨rfl, z10, zl⟩ := zj
  have z11 := Fr.app N0 z10
  obtain ⟨cq119, kq119, z12, z1s, z13⟩ := isOf hZ zl z7
  obtain ⟨_, _, ⟨z9, L119, z1t, n119⟩, -, z3, ⟨Lc119, zm, l119, y119, z119⟩, zn⟩ := z5.virtualBack hx (y := own_m1) (z := own_m1) hown (mvT hZ (own_W hw 54 rfl)) (mvT hZ (own_W hw 22 rfl)) (notFace_of_selects (args := #[]) (mvT hZ (own_W hw 24 rfl))) (mvT hZ (own_W hw 24 rfl)) (mvT hZ (own_W hw 23 rfl)) (by decide) (backOf (W := 2) (rm7 l Z a0 hw [] h0 n0 p1 A K cs sb116 sa116 kc116 EN OL0 zh z8 z7 zi) hZ (own_W hw 25 rfl) (own_W hw 9 rfl) (by decide) (by decide)) z12 z13 (g := (mkF m 10 #[.val (.ref sa105), .val (.ref sa116), .val (.int 0), .unset, .unset, .unset, .unset, .unset] [(.ref sa116), (.int 2), (.int 0)])) rfl (by rw [hml]; rfl) (Steps.refl _) (argsL := []) (rest := [(.int 2), (.int 0)]) (lenOf own_pd2 rfl) rfl (by show 2 * 0 + _ ≤ _; exact Nat.le_of_eq rfl) (hb hby y5_10) (fun _ _ => ⟨rfl, zl, (by decide : 0 + 0 ≤ _), (by decide : 0 + 0 ≤ _)⟩)
  dsimp only [Pt.U, Pt.locs, Pt.cells, Pt.slots] at z3 l119 y119 z119 zn zm
  replace z3 := own_sub z3 l119 y119 z119
  obtain ⟨rfl, z14, z15⟩ := zm
  have z16 := Fr.app z11 z14
  obtain ⟨z17, za, z18, z19⟩ := getF z3 hx hZ hown (host := "") (Or.inl (own_W hw 26 rfl)) Via.refl z15 ze (g := (mkF m 20 #[.val (.ref sa105), .val (.ref sa116), .val (.int 0), .unset, .unset, .unset, .unset, .unset] [(.ref sa105)])) rfl rfl (hb hby y5_20)
  obtain ⟨zo, z1, zb, z1a⟩ := getF za hx hZ hown (host := "") (Or.inl (own_W hw 26 rfl)) Via.refl z18 zh (g := (mkF m 25 #[.val (.ref sa105), .val (.ref sa116), .val (.int 0), .val (.ref sb105), .unset, .unset, .unset, .unset] [(.ref sa116)])) rfl rfl (hb hby y5_25)
  obtain ⟨z1u, zp, -, z1b, z1c, -, -⟩ := (id z8)
  obtain ⟨cq123, kq123, z1d, z1v, z1e⟩ := isOf hZ zb z6
  obtain ⟨_, _, ⟨z1f, L123, z1w, n123⟩, -, z4, ⟨Lc123, zq, l123, y123, z123⟩, zr⟩ := z1.virtualBack hx (y := own_m9) (z := own_m9) hown (mvT hZ (own_W hw 27 rfl)) (mvT hZ (own_W hw 28 rfl)) (notFace_of_selects (args := #[]) (mvT hZ (own_W hw 30 rfl))) (mvT hZ (own_W hw 30 rfl)) (mvT hZ (own_W hw 29 rfl)) (by decide) (backOf (W := 0) (rm3 l Z a0 hw [] h0 n0 p1 A K cs sa105 EN OL0 zg) hZ (own_W hw 31 rfl) (own_W hw 9 rfl) (by decide) (by decide)) z1d z1e (g := (mkF m 39 #[.val (.ref sa105), .val (.ref sa116), .val (.int 0), .val (.ref sb105), .val (.ref sb116), .val (.int 0), .val (.int 1), .unset] [(.ref sa105)])) rfl (by rw [hml]; rfl) (Steps.refl _) (argsL := []) (rest := []) (lenOf own_pd1 rfl) rfl (by show 2 * 0 + _ ≤ _; exact Nat.le_of_eq rfl) (hb hby y5_39) (fun _ _ => ⟨rfl, zb, (by decide : 0 + 0 ≤ _), (by decide : 0 + 0 ≤ _)⟩)
  dsimp only [Pt.U, Pt.locs, Pt.cells, Pt.slots] at z4 l123 y123 z123 zr zq
  replace z4 := own_sub z4 l123 y123 z123
  obtain ⟨rfl, z1g, zs⟩ := zq
  have z1h := Fr.app z16 z1g
  obtain ⟨cq124, kq124, z1i, z1x, z1j⟩ := isOf hZ zs z7
  obtain ⟨_, _, ⟨zc, L124, z1y, n124⟩, -, z0, ⟨Lc124, zt, l124, y124, z124⟩, zu⟩ := z4.virtualBack hx (y := own_m9) (z := own_m9) hown (mvT hZ (own_W hw 27 rfl)) (mvT hZ (own_W hw 28 rfl)) (notFace_of_selects (args := #[]) (mvT hZ (own_W hw 30 rfl))) (mvT hZ (own_W hw 30 rfl)) (mvT hZ (own_W hw 29 rfl)) (by decide) (backOf (W := 1) (rm3 l Z a0 hw [] h0 n0 p1 A K cs sa116 EN OL0 zi) hZ (own_W hw 31 rfl) (own_W hw 9 rfl) (by decide) (by decide)) z1i z1j (g := (mkF m 47 #[.val (.ref sa105), .val (.ref sa116), .val (.int 0), .val (.ref sb105), .val (.ref sb116), .val (.int 0), .val (.int 1), .val (.int 0)] [(.ref sa116), (.int 0)])) rfl (by rw [hml]; rfl) (Steps.refl _) (argsL := []) (rest := [(.int 0)]) (lenOf own_pd1 rfl) rfl (by show 2 * 0 + _ ≤ _; exact Nat.le_of_eq rfl) (hb hby y5_47) (fun _ _ => ⟨rfl, zs, (by decide : 0 + 0 ≤ _), (by decide : 0 + 0 ≤ _)⟩)
  dsimp only [Pt.U, Pt.locs, Pt.cells, Pt.slots] at z0 l124 y124 z124 zu zt
  replace z0 := own_sub z0 l124 y124 z124
  obtain ⟨rfl, z1k, z1l⟩ := zt
  have z1m := Fr.app z1h z1k
  obtain ⟨_, _, ⟨zd, L127, z1z, n127⟩, -, z2, ⟨Lc127, zv, l127, y127, z127⟩, zw⟩ := Jvm.LawKit.callS z0 hx (y := own_m23) hown (mvT hZ (own_W hw 55 rfl)) (mvT hZ (own_W hw 56 rfl)) (mvT hZ (own_W hw 57 rfl)) (mvT hZ (own_W hw 58 rfl)) (by decide) (backOf (W := 0) (rm26 l Z a0 hw [] h0 n0 p1 A K cs sb105 sb116 kc105 kc116 EN OL0 zf z8) hZ (own_W hw 58 rfl) (own_W hw 57 rfl) (by decide) (by decide)) (g := (mkF m 70 #[.val (.ref sa105), .val (.ref sa116), .val (.int 0), .val (.ref sb105), .val (.ref sb116), .val (.int 0), .val (.int 1), .val (.int 0)] [(.int 1), (.int 0), (.ref sb116), (.int 0), (.ref sb105)])) rfl (by rw [hml]; rfl) (argsL := [(.ref sb105), (.int 0), (.ref sb116), (.int 0), (.int 1)]) (rest := []) (lenOf own_pd3 rfl) rfl (by show 2 * 0 + _ ≤ _; exact Nat.le_of_eq rfl) (hb hby y5_70) (fun _ _ => ⟨rfl, z1l, (by decide : 0 + 0 ≤ _), (by decide : 0 + 0 ≤ _)⟩)
  dsimp only [Pt.U, Pt.locs, Pt.cells, Pt.slots] at z2 l127 y127 z127 zw zv
  replace z2 := own_sub z2 l127 y127 z127
  obtain ⟨rfl, z1n, z1o⟩ := zv
  have z1p := Fr.app z1m z1n
  obtain ⟨fs, hr, hrun, hended, hW, hsame⟩ := z2.leave (v := some (.int 1)) (fun h => by rw [Bd.returns] at h; cases h)
  refine ⟨_, _, pre0 _ ?_, hrun, hended, _, _, rfl, ?_, ⟨_, rfl⟩, hW, hsame.mono (by decide) (by decide)⟩
  · show own_Y p e below s₁ m 0 #[.val (.ref sa105), .val (.ref sa116), .val (.int 0), .unset, .unset, .unset, .unset, .unset] [] _
    refine XS.iloadN X0.here hx rfl (hb hby y5_0) rfl ?_
    refine XS.ifNo X0.here hx rfl (hb hby y5_1) rfl ((if0 _ _).trans (flt (by decide : ¬ ((0 : Int32) < (0 : Int32)))).1) ?_
    show own_Y p e below s₁ m 4 #[.val (.ref sa105), .val (.ref sa116), .val (.int 0), .unset, .unset, .unset, .unset, .unset] [] _
    refine XS.iloadN X0.here hx rfl (hb hby y5_4) rfl ?_
    refine XS.aloadN X0.here hx rfl (hb hby y5_5) rfl rfl ?_
    refine zk.trans ?_
    show own_Y p e below zz m 9 #[.val (.ref sa105), .val (.ref sa116), .val (.int 0), .unset, .unset, .unset, .unset, .unset] [(.int 2), (.int 0)] _
    refine XS.aloadN z5.here hx rfl (hb hby y5_9) rfl rfl ?_
    refine zn.trans ?_
    show own_Y p e below z9 m 13 #[.val (.ref sa105), .val (.ref sa116), .val (.int 0), .unset, .unset, .unset, .unset, .unset] [(.int 1), (.int 2), (.int 0)] _
    refine XS.isub z3.here hx rfl (hb hby y5_13) rfl ?_
    show own_Y p e below z9 m 14 #[.val (.ref sa105), .val (.ref sa116), .val (.int 0), .unset, .unset, .unset, .unset, .unset] [(.int 1), (.int 0)] _
    refine XS.icmpYes z3.here hx rfl (pc0 := 14) (pc' := 19) rfl (hb hby y5_14) rfl (flt (by decide : ¬ ((1 : Int32) < (0 : Int32)))).2.2.2 (by decide) (by decide) ?_
    show own_Y p e below z9 m 19 #[.val (.ref sa105), .val (.ref sa116), .val (.int 0), .unset, .unset, .unset, .unset, .unset] [] _
    refine XS.aloadN z3.here hx rfl (hb hby y5_19) rfl rfl ?_
    refine z19 _ ?_
    show own_Y p e below z17 m 23 #[.val (.ref sa105), .val (.ref sa116), .val (.int 0), .unset, .unset, .unset, .unset, .unset] [(.ref sb105)] _
    refine XS.astoreN za.here hx rfl (hb hby y5_23) rfl rfl (l' := #[.val (.ref sa105), .val (.ref sa116), .val (.int 0), .val (.ref sb105), .unset, .unset, .unset, .unset]) rfl ?_
    refine XS.aloadN za.here hx rfl (hb hby y5_24) rfl rfl ?_
    refine z1a _ ?_
    show own_Y p e below zo m 28 #[.val (.ref sa105), .val (.ref sa116), .val (.int 0), .val (.ref sb105), .unset, .unset, .unset, .unset] [(.ref sb116)] _
    refine XS.astore z1.here hx rfl (hb hby y5_28) rfl rfl (l' := #[.val (.ref sa105), .val (.ref sa116), .val (.int 0), .val (.ref sb105), .val (.ref sb116), .unset, .unset, .unset]) rfl ?_
    refine XS.iconst z1.here hx rfl (hb hby y5_30) ?_
    refine XS.istore z1.here hx rfl (hb hby y5_31) rfl (l' := #[.val (.ref sa105), .val (.ref sa116), .val (.int 0), .val (.ref sb105), .val (.ref sb116), .val (.int 0), .unset, .unset]) rfl ?_
    refine XS.aload z1.here hx rfl (hb hby y5_33) rfl rfl ?_
    refine z1.arraylength hx (by rw [zb]; exact zp.1) (State.isArrayOf_alike hZ.alike zp.2.1) (g := (mkF m 35 #[.val (.ref sa105), .val (.ref sa116), .val (.int 0), .val (.ref sb105), .val (.ref sb116), .val (.int 0), .unset, .unset] [(.ref sb116)])) rfl rfl (hb hby y5_35) _ ?_
    rw [len_of z1b z1c]
    show own_Y p e below zo m 36 #[.val (.ref sa105), .val (.ref sa116), .val (.int 0), .val (.ref sb105), .val (.ref sb116), .val (.int 0), .unset, .unset] [(.int 1)] _
    refine XS.istore z1.here hx rfl (hb hby y5_36) rfl (l' := #[.val (.ref sa105), .val (.ref sa116), .val (.int 0), .val (.ref sb105), .val (.ref sb116), .val (.int 0), .val (.int 1), .unset]) rfl ?_
    refine XS.aloadN z1.here hx rfl (hb hby y5_38) rfl rfl ?_
    refine zr.trans ?_
    show own_Y p e below z1f m 42 #[.val (.ref sa105), .val (.ref sa116), .val (.int 0), .val (.ref sb105), .val (.ref sb116), .val (.int 0), .val (.int 1), .unset] [(.int 0)] _
    refine XS.istore z4.here hx rfl (hb hby y5_42) rfl (l' := #[.val (.ref sa105), .val (.ref sa116), .val (.int 0), .val (.ref sb105), .val (.ref sb116), .val (.int 0), .val (.int 1), .val (.int 0)]) rfl ?_
    refine XS.iload z4.here hx rfl (hb hby y5_44) rfl ?_
    refine XS.aloadN z4.here hx rfl (hb hby y5_46) rfl rfl ?_
    refine zu.trans ?_
    show own_Y p e below zc m 50 #[.val (.ref sa105), .val (.ref sa116), .val (.int 0), .val (.ref sb105), .val (.ref sb116), .val (.int 0), .val (.int 1), .val (.int 0)] [(.int 0), (.int 0)] _
    refine XS.icmpNo z0.here hx rfl (hb hby y5_50) rfl (teq (by decide : (0 : Int32) = (0 : Int32))).2 ?_
    show own_Y p e below zc m 53 #[.val (.ref sa105), .val (.ref sa116), .val (.int 0), .val (.ref sb105), .val (.ref sb116), .val (.int 0), .val (.int 1), .val (.int 0)] [] _
    refine XS.iload z0.here hx rfl (hb hby y5_53) rfl ?_
    refine XS.iconst z0.here hx rfl (hb hby y5_55) ?_
    refine XS.icmpYes z0.here hx rfl (pc0 := 56) (pc' := 63) rfl (hb hby y5_56) rfl (feq (by decide : ¬ ((0 : Int32) = (1 : Int32)))).2 (by decide) (by decide) ?_
    show own_Y p e below zc m 63 #[.val (.ref sa105), .val (.ref sa116), .val (.int 0), .val (.ref sb105), .val (.ref sb116), .val (.int 0), .val (.int 1), .val (.int 0)] [] _
    refine XS.aloadN z0.here hx rfl (hb hby y5_63) rfl rfl ?_
    refine XS.iloadN z0.here hx rfl (hb hby y5_64) rfl ?_
    refine XS.aload z0.here hx rfl (hb hby y5_65) rfl rfl ?_
    refine XS.iconst z0.here hx rfl (hb hby y5_67) ?_
    refine XS.iload z0.here hx rfl (hb hby y5_68) rfl ?_
    refine zw _ ?_
    show own_Y p e below zd m 73 #[.val (.ref sa105), .val (.ref sa116), .val (.int 0), .val (.ref sb105), .val (.ref sb116), .val (.int 0), .val (.int 1), .val (.int 0)] [(.int (-1))] _
    refine XS.ifNo z2.here hx rfl (hb hby y5_73) rfl ((if0 _ _).trans (tlt (by decide : (-1 : Int32) < (0 : Int32))).2.1) ?_
    show own_Y p e below zd m 76 #[.val (.ref sa105), .val (.ref sa116), .val (.int 0), .val (.ref sb105), .val (.ref sb116), .val (.int 0), .val (.int 1), .val (.int 0)] [] _
    refine XS.iconst z2.here hx rfl (hb hby y5_76) ?_
    refine XS.goto z2.here hx rfl (pc0 := 77) (pc' := 81) rfl (hb hby y5_77) (by decide) (by decide) ?_
    exact retN z2 hx (t := .boolean) Bd.returns (by simp) (hb hby y5_81) hr
  · show PQ (some (.int 1)) h0 n0 _ zd.heap _
    rw [z1o]
    exact ⟨rfl, z1p, rfl⟩
theorem rm24 (l : Launch) (Z : State) (a0 : Array Value) (hw : ∀ d ∈ tables_1, d.before a0 Z = true) (ws : List Jvm.Cond) (h0 : Heap) (n0 : Nat) (p1 : Int32) (A : Nat → Addr) (K : Nat → ClassId) (cs : Int32)  (sb105 : Addr) (sa105 : Addr) (sb116 : Addr) (sa116 : Addr) (kc105 : ClassId) (kc116 : ClassId) (EN : own_St Z A K cs) (OL0 : Old Z n0 h0) (z1 : Exa Z h0 sa105 y_s2) (z5 : Fld Z h0 sa105 y_s2 "value" "[B" (.ref sb105)) (z6 : Arv Z h0 sb105 kc105 .byte (2 : Int32) [(.int 45), (.int 48)] (.int 0)) (z7 : Fld Z h0 sa105 y_s2 "coder" "B" (.int 0)) (z8 : Exa Z h0 sa116 y_s2) (z9 : Fld Z h0 sa116 y_s2 "value" "[B" (.ref sb116)) (za : Arv Z h0 sb116 kc116 .byte (1 : Int32) [(.int 45)] (.int 0)) (zb : Fld Z h0 sa116 y_s2 "coder" "B" (.int 0)) :
    own_MF l Z own_m11 jdk_42_method_76_code 2 (some .boolean) ws (Room.mk 3 0 0 46) #[(.ref sa105), (.ref sa116)] h0 (PQ (some (.int 1)) h0 n0) := by
  refine MetFree.of_bodySF (plainFor_of_name own_pn1) hisR ?_
  intro p e s m args below meth c s₁ Bd hml0 hP hK
  obtain ⟨rfl, hZ, hh⟩ := hP
  have hx := Bd.exec
  have hby := Bd.bytes
  have hml : c.maxLocals = 2 := hml0
  have hown : s.vm.findClass y_s2 = some m.cls := findClass_of_methodNamed Bd.named
  have hnm := (name_of_methodNamed Bd.named Bd.method).1
  have X0 : Stand p l e (Room.mk 3 0 0 46) s m #[(.ref sa105), (.ref sa116)] below meth c s₁ [] 0 0 := Stand.of_body Bd
  have e0 : s₁.heap = h0 := by rw [← hh, Bd.state]; rfl
  have N0 := Fr.nil n0
  have pre0 : own_P p e below s₁ m 0 #[.val (.ref sa105), .val (.ref sa116)] [] s₁ #[(.ref sa105), (.ref sa116)] 2 := fun t k => castTop (by first | (simp [entryFrame, mkF, argsToLocals, Value.category, maxLocals]; done) | rfl) k
  have KK0 : Keep h0 h0 [] := Keep.refl _ _
  obtain ⟨cq128, kq128, zc, zh, zd⟩ := isOf hZ e0 z1
  obtain ⟨_, _, ⟨z2, L128, zi, n128⟩, -, z0, ⟨Lc128, z3, l128, y128, z128⟩, z4⟩ := X0.virtualBack hx (y := own_m16) (z := own_m16) hown (mvT hZ (own_W hw 49 rfl)) (mvT hZ (own_W hw 50 rfl)) (notFace_of_selects (args := #[]) (mvT hZ (own_W hw 52 rfl))) (mvT hZ (own_W hw 52 rfl)) (mvT hZ (own_W hw 51 rfl)) (by decide) (backOf (W := 0) (rm25 l Z a0 hw [] h0 n0 p1 A K cs sb105 sa105 sb116 sa116 kc105 kc116 EN OL0 z1 z5 z6 z7 z8 z9 za zb) hZ (own_W hw 53 rfl) (own_W hw 9 rfl) (by decide) (by decide)) zc zd (g := (mkF m 3 #[.val (.ref sa105), .val (.ref sa116)] [(.int 0), (.ref sa116), (.ref sa105)])) rfl (by rw [hml]; rfl) (Steps.refl _) (argsL := [(.ref sa116), (.int 0)]) (rest := []) (lenOf own_pd4 rfl) rfl (by show 2 * 0 + _ ≤ _; exact Nat.le_of_eq rfl) (hb hby y6_3) (fun _ _ => ⟨rfl, e0, (by decide : 0 + 0 ≤ _), (by decide : 0 + 0 ≤ _)⟩)
  dsimp only [Pt.U, Pt.locs, Pt.cells, Pt.slots] at z0 l128 y128 z128 z4 z3
  replace z0 := own_sub z0 l128 y128 z128
  obtain ⟨rfl, ze, zf⟩ := z3
  have zg := Fr.app N0 ze
  obtain ⟨fs, hr, hrun, hended, hW, hsame⟩ := z0.leave (v := some (.int 1)) (fun h => by rw [Bd.returns] at h; cases h)
  refine ⟨_, _, pre0 _ ?_, hrun, hended, _, _, rfl, ?_, ⟨_, rfl⟩, hW, hsame.mono (by decide) (by decide)⟩
  · show own_Y p e below s₁ m 0 #[.val (.ref sa105), .val (.ref sa116)] [] _
    refine XS.aloadN X0.here hx rfl (hb hby y6_0) rfl rfl ?_
    refine XS.aloadN X0.here hx rfl (hb hby y6_1) rfl rfl ?_
    refine XS.iconst X0.here hx rfl (hb hby y6_2) ?_
    refine z4.trans ?_
    show own_Y p e below z2 m 6 #[.val (.ref sa105), .val (.ref sa116)] [(.int 1)] _
    exact retN z0 hx (t := .boolean) Bd.returns (by simp) (hb hby y6_6) hr
  · show PQ (some (.int 1)) h0 n0 _ z2.heap _
    rw [zf]
    exact ⟨rfl, zg, rfl⟩
theorem rm29 (l : Launch) (Z : State) (a0 : Array Value) (hw : ∀ d ∈ tables_1, d.before a0 Z = true) (ws : List Jvm.Cond) (h0 : Heap) (n0 : Nat) (p1 : Int32) (A : Nat → Addr) (K : Nat → ClassId) (cs : Int32)  (sb105 : Addr) (kc105 : ClassId) (EN : own_St Z A K cs) (OL0 : Old Z n0 h0) (z3 : Arv Z h0 sb105 kc105 .byte (2 : Int32) [(.int 45), (.int 48)] (.int 0)) :
    own_MF l Z own_m13 jdk_43_method_2_code 2 (some .char) ws (Room.mk 2 0 0 27) #[(.ref sb105), (.int 1)] h0 (PQ (some (.int 48)) h0 n0) := by
  refine MetFree.of_bodySF (plainFor_of_name own_pn5) hisR ?_
  intro p e s m args below meth c s₁ Bd hml0 hP hK
  obtain ⟨rfl, hZ, hh⟩ := hP
  have hx := Bd.exec
  have hby := Bd.bytes
  have hml : c.maxLocals = 2 := hml0
  have hown : s.vm.findClass "java/lang/StringLatin1" = some m.cls := findClass_of_methodNamed Bd.named
  have hnm := (name_of_methodNamed Bd.named Bd.method).1
  have X0 : Stand p l e (Room.mk 2 0 0 27) s m #[(.ref sb105), (.int 1)] below meth c s₁ [] 0 0 := Stand.of_body Bd
  have e0 : s₁.heap = h0 := by rw [← hh, Bd.state]; rfl
  have N0 := Fr.nil n0
  have pre0 : own_P p e below s₁ m 0 #[.val (.ref sb105), .val (.int 1)] [] s₁ #[(.ref sb105), (.int 1)] 2 := fun t k => castTop (by first | (simp [entryFrame, mkF, argsToLocals, Value.category, maxLocals]; done) | rfl) k
  have KK0 : Keep h0 h0 [] := Keep.refl _ _
  obtain ⟨zh, z4, -, za, zb, -, -⟩ := (id z3)
  obtain ⟨_, _, ⟨z1, L137, zi, n137⟩, -, z0, ⟨Lc137, z5, l137, y137, z137⟩, z6⟩ := Jvm.LawKit.callS X0 hx (y := own_m17) hown (mvT hZ (own_W hw 76 rfl)) (mvT hZ (own_W hw 77 rfl)) (mvT hZ (own_W hw 9 rfl)) (mvT hZ (own_W hw 78 rfl)) (by decide) (backOf (W := 0) (rm19 l Z a0 hw [] h0 n0 p1 A K cs EN OL0) hZ (own_W hw 78 rfl) (own_W hw 9 rfl) (by decide) (by decide)) (g := (mkF m 3 #[.val (.ref sb105), .val (.int 1)] [(.int 2), (.int 1)])) rfl (by rw [hml]; rfl) (argsL := [(.int 1), (.int 2)]) (rest := []) (lenOf own_pd8 rfl) rfl (by show 2 * 0 + _ ≤ _; exact Nat.le_of_eq rfl) (hb hby ya_3) (fun _ _ => ⟨rfl, e0, (by decide : 0 + 0 ≤ _), (by decide : 0 + 0 ≤ _)⟩)
  dsimp only [Pt.U, Pt.locs, Pt.cells, Pt.slots] at z0 l137 y137 z137 z6 z5
  replace z0 := own_sub z0 l137 y137 z137
  obtain ⟨rfl, zc, z7⟩ := z5
  have zd := Fr.app N0 zc
  obtain ⟨z8, z2, zj, ze, zk, zf, zl⟩ := (id z3)
  have z9 : ¬ ((1 : Int32) < 0 ∨ z8.slots.size ≤ ((1 : Int32)).toNatClampNeg) := inb_of ze ⟨by decide, by decide⟩
  have zg : z8.slots[((1 : Int32)).toNatClampNeg]? = some (.int 48) := Has.at zf z9 rfl
  obtain ⟨fs, hr, hrun, hended, hW, hsame⟩ := z0.leave (v := some (.int 48)) (fun h => by rw [Bd.returns] at h; cases h)
  refine ⟨_, _, pre0 _ ?_, hrun, hended, _, _, rfl, ?_, ⟨_, rfl⟩, hW, hsame.mono (by decide) (by decide)⟩
  · show own_Y p e below s₁ m 0 #[.val (.ref sb105), .val (.int 1)] [] _
    refine XS.iloadN X0.here hx rfl (hb hby ya_0) rfl ?_
    refine XS.aloadN X0.here hx rfl (hb hby ya_1) rfl rfl ?_
    refine X0.arraylength hx (by rw [e0]; exact z4.1) (State.isArrayOf_alike hZ.alike z4.2.1) (g := (mkF m 2 #[.val (.ref sb105), .val (.int 1)] [(.ref sb105), (.int 1)])) rfl rfl (hb hby ya_2) _ ?_
    rw [len_of za zb]
    show own_Y p e below s₁ m 3 #[.val (.ref sb105), .val (.int 1)] [(.int 2), (.int 1)] _
    refine z6 _ ?_
    show own_Y p e below z1 m 6 #[.val (.ref sb105), .val (.int 1)] [] _
    refine XS.aloadN z0.here hx rfl (hb hby ya_6) rfl rfl ?_
    refine XS.iloadN z0.here hx rfl (hb hby ya_7) rfl ?_
    refine z0.baloadBytes hx (j := (1 : Int32)) (v := (.int 48)) (by rw [z7]; exact z2.1) (State.isArrayOf_alike hZ.alike z2.2.1) z2.2.2 z9 zg (g := (mkF m 8 #[.val (.ref sb105), .val (.int 1)] [(.int 1), (.ref sb105)])) rfl rfl (hb hby ya_8) _ ?_
    show own_Y p e below z1 m 9 #[.val (.ref sb105), .val (.int 1)] [(.int 48)] _
    refine XS.sipush z0.here hx rfl (hb hby ya_9) ?_
    refine XS.iand z0.here hx rfl (hb hby ya_12) rfl ?_
    show own_Y p e below z1 m 13 #[.val (.ref sb105), .val (.int 1)] [(.int 48)] _
    refine XS.i2c z0.here hx rfl (hb hby ya_13) rfl ?_
    show own_Y p e below z1 m 14 #[.val (.ref sb105), .val (.int 1)] [(.int 48)] _
    exact retN z0 hx (t := .char) Bd.returns (by simp) (hb hby ya_14) hr
  · show PQ (some (.int 48)) h0 n0 _ z1.heap _
    rw [z7]
    exact ⟨rfl, zd, rfl⟩
theorem rm28 (l : Launch) (Z : State) (a0 : Array Value) (hw : ∀ d ∈ tables_1, d.before a0 Z = true) (ws : List Jvm.Cond) (h0 : Heap) (n0 : Nat) (p1 : Int32) (A : Nat → Addr) (K : Nat → ClassId) (cs : Int32)  (sb105 : Addr) (sa105 : Addr) (kc105 : ClassId) (EN : own_St Z A K cs) (OL0 : Old Z n0 h0) (z9 : Exa Z h0 sa105 y_s2) (za : Fld Z h0 sa105 y_s2 "coder" "B" (.int 0)) (zb : Fld Z h0 sa105 y_s2 "value" "[B" (.ref sb105)) (zc : Arv Z h0 sb105 kc105 .byte (2 : Int32) [(.int 45), (.int 48)] (.int 0)) :
    own_MF l Z own_m3 jdk_42_method_56_code 2 (some .char) ws (Room.mk 3 0 0 40) #[(.ref sa105), (.int 1)] h0 (PQ (some (.int 48)) h0 n0) := by
  refine MetFree.of_bodySF (plainFor_of_name own_pn1) hisR ?_
  intro p e s m args below meth c s₁ Bd hml0 hP hK
  obtain ⟨rfl, hZ, hh⟩ := hP
  have hx := Bd.exec
  have hby := Bd.bytes
  have hml : c.maxLocals = 2 := hml0
  have hown : s.vm.findClass y_s2 = some m.cls := findClass_of_methodNamed Bd.named
  have hnm := (name_of_methodNamed Bd.named Bd.method).1
  have X0 : Stand p l e (Room.mk 3 0 0 40) s m #[(.ref sa105), (.int 1)] below meth c s₁ [] 0 0 := Stand.of_body Bd
  have e0 : s₁.heap = h0 := by rw [← hh, Bd.state]; rfl
  have N0 := Fr.nil n0
  have pre0 : own_P p e below s₁ m 0 #[.val (.ref sa105), .val (.int 1)] [] s₁ #[(.ref sa105), (.int 1)] 2 := fun t k => castTop (by first | (simp [entryFrame, mkF, argsToLocals, Value.category, maxLocals]; done) | rfl) k
  have KK0 : Keep h0 h0 [] := Keep.refl _ _
  obtain ⟨cq134, kq134, zd, zo, ze⟩ := isOf hZ e0 z9
  obtain ⟨_, _, ⟨z2, L134, zp, n134⟩, -, z0, ⟨Lc134, z3, l134, y134, z134⟩, z4⟩ := X0.virtualBack hx (y := own_m15) (z := own_m15) hown (mvT hZ (own_W hw 67 rfl)) (mvT hZ (own_W hw 68 rfl)) (notFace_of_selects (args := #[]) (mvT hZ (own_W hw 70 rfl))) (mvT hZ (own_W hw 70 rfl)) (mvT hZ (own_W hw 69 rfl)) (by decide) (backOf (W := 0) (rm11 l Z a0 hw [] h0 n0 p1 A K cs sa105 EN OL0 za) hZ (own_W hw 71 rfl) (own_W hw 9 rfl) (by decide) (by decide)) zd ze (g := (mkF m 1 #[.val (.ref sa105), .val (.int 1)] [(.ref sa105)])) rfl (by rw [hml]; rfl) (Steps.refl _) (argsL := []) (rest := []) (lenOf own_pd6 rfl) rfl (by show 2 * 0 + _ ≤ _; exact Nat.le_of_eq rfl) (hb hby yb_1) (fun _ _ => ⟨rfl, e0, (by decide : 0 + 0 ≤ _), (by decide : 0 + 0 ≤ _)⟩)
  dsimp only [Pt.U, Pt.locs, Pt.cells, Pt.slots] at z0 l134 y134 z134 z4 z3
  replace z0 := own_sub z0 l134 y134 z134
  obtain ⟨rfl, zf, zg⟩ := z3
  have zh := Fr.app N0 zf
  obtain ⟨zi, z5, zj, zk⟩ := getF z0 hx hZ hown (host := "") (Or.inl (own_W hw 26 rfl)) Via.refl zg zb (g := (mkF m 8 #[.val (.ref sa105), .val (.int 1)] [(.ref sa105)])) rfl rfl (hb hby yb_8)
  obtain ⟨_, _, ⟨z6, L139, zq, n139⟩, -, z1, ⟨Lc139, z7, l139, y139, z139⟩, z8⟩ := Jvm.LawKit.callS z5 hx (y := own_m13) hown (mvT hZ (own_W hw 72 rfl)) (mvT hZ (own_W hw 73 rfl)) (mvT hZ (own_W hw 74 rfl)) (mvT hZ (own_W hw 75 rfl)) (by decide) (backOf (W := 0) (rm29 l Z a0 hw [] h0 n0 p1 A K cs sb105 kc105 EN OL0 zc) hZ (own_W hw 75 rfl) (own_W hw 74 rfl) (by decide) (by decide)) (g := (mkF m 12 #[.val (.ref sa105), .val (.int 1)] [(.int 1), (.ref sb105)])) rfl (by rw [hml]; rfl) (argsL := [(.ref sb105), (.int 1)]) (rest := []) (lenOf own_pd9 rfl) rfl (by show 2 * 0 + _ ≤ _; exact Nat.le_of_eq rfl) (hb hby yb_12) (fun _ _ => ⟨rfl, zj, (by decide : 0 + 0 ≤ _), (by decide : 0 + 0 ≤ _)⟩)
  dsimp only [Pt.U, Pt.locs, Pt.cells, Pt.slots] at z1 l139 y139 z139 z8 z7
  replace z1 := own_sub z1 l139 y139 z139
  obtain ⟨rfl, zl, zm⟩ := z7
  have zn := Fr.app zh zl
  obtain ⟨fs, hr, hrun, hended, hW, hsame⟩ := z1.leave (v := some (.int 48)) (fun h => by rw [Bd.returns] at h; cases h)
  refine ⟨_, _, pre0 _ ?_, hrun, hended, _, _, rfl, ?_, ⟨_, rfl⟩, hW, hsame.mono (by decide) (by decide)⟩
  · show own_Y p e below s₁ m 0 #[.val (.ref sa105), .val (.int 1)] [] _
    refine XS.aloadN X0.here hx rfl (hb hby yb_0) rfl rfl ?_
    refine z4.trans ?_
    show own_Y p e below z2 m 4 #[.val (.ref sa105), .val (.int 1)] [(.int 1)] _
    refine XS.ifNo z0.here hx rfl (hb hby yb_4) rfl ((if0 _ _).trans (feq (by decide : ¬ ((1 : Int32) = (0 : Int32)))).1) ?_
    show own_Y p e below z2 m 7 #[.val (.ref sa105), .val (.int 1)] [] _
    refine XS.aloadN z0.here hx rfl (hb hby yb_7) rfl rfl ?_
    refine zk _ ?_
    show own_Y p e below zi m 11 #[.val (.ref sa105), .val (.int 1)] [(.ref sb105)] _
    refine XS.iloadN z5.here hx rfl (hb hby yb_11) rfl ?_
    refine z8 _ ?_
    show own_Y p e below z6 m 15 #[.val (.ref sa105), .val (.int 1)] [(.int 48)] _
    exact retN z1 hx (t := .char) Bd.returns (by simp) (hb hby yb_15) hr
  · show PQ (some (.int 48)) h0 n0 _ z6.heap _
    rw [zm]
    exact ⟨rfl, zn, rfl⟩
theorem rm27 (l : Launch) (Z : State) (a0 : Array Value) (hw : ∀ d ∈ tables_1, d.before a0 Z = true) (ws : List Jvm.Cond) (h0 : Heap) (n0 : Nat) (p1 : Int32) (A : Nat → Addr) (K : Nat → ClassId) (cs : Int32)  (sb105 : Addr) (sa105 : Addr) (kc105 : ClassId) (EN : own_St Z A K cs) (OL0 : Old Z n0 h0) (z3 : Exa Z h0 sa105 y_s2) (z7 : Fld Z h0 sa105 y_s2 "value" "[B" (.ref sb105)) (z8 : Arv Z h0 sb105 kc105 .byte (2 : Int32) [(.int 45), (.int 48)] (.int 0)) (z9 : Fld Z h0 sa105 y_s2 "coder" "B" (.int 0)) :
    own_MF l Z own_m18 prog_40_method_8_code 3 (some .int) ws (Room.mk 4 0 0 53) #[(.ref sa105), (.int 1)] h0 (PQ (some (.int 2)) h0 n0) := by
  refine MetFree.of_bodySF (plainFor_of_name own_pn6) hisR ?_
  intro p e s m args below meth c s₁ Bd hml0 hP hK
  obtain ⟨rfl, hZ, hh⟩ := hP
  have hx := Bd.exec
  have hby := Bd.bytes
  have hml : c.maxLocals = 3 := hml0
  have hown : s.vm.findClass y_s1 = some m.cls := findClass_of_methodNamed Bd.named
  have hnm := (name_of_methodNamed Bd.named Bd.method).1
  have X0 : Stand p l e (Room.mk 4 0 0 53) s m #[(.ref sa105), (.int 1)] below meth c s₁ [] 0 0 := Stand.of_body Bd
  have e0 : s₁.heap = h0 := by rw [← hh, Bd.state]; rfl
  have N0 := Fr.nil n0
  have pre0 : own_P p e below s₁ m 0 #[.val (.ref sa105), .val (.int 1), .unset] [] s₁ #[(.ref sa105), (.int 1)] 3 := fun t k => castTop (by first | (simp [entryFrame, mkF, argsToLocals, Value.category, maxLocals]; done) | rfl) k
  have KK0 : Keep h0 h0 [] := Keep.refl _ _
  obtain ⟨cq133, kq133, zl, z12, zm⟩ := isOf hZ e0 z3
  obtain ⟨_, _, ⟨za, L133, z13, n133⟩, -, z2, ⟨Lc133, zb, l133, y133, z133⟩, zc⟩ := X0.virtualBack hx (y := own_m1) (z := own_m1) hown (mvT hZ (own_W hw 21 rfl)) (mvT hZ (own_W hw 22 rfl)) (notFace_of_selects (args := #[]) (mvT hZ (own_W hw 24 rfl))) (mvT hZ (own_W hw 24 rfl)) (mvT hZ (own_W hw 23 rfl)) (by decide) (backOf (W := 1) (rm23 l Z a0 hw [] h0 n0 p1 A K cs sb105 sa105 kc105 EN OL0 z7 z8 z3 z9) hZ (own_W hw 25 rfl) (own_W hw 9 rfl) (by decide) (by decide)) zl zm (g := (mkF m 8 #[.val (.ref sa105), .val (.int 1), .val (.int 1)] [(.ref sa105), (.int 1)])) rfl (by rw [hml]; rfl) (Steps.refl _) (argsL := []) (rest := [(.int 1)]) (lenOf own_pd2 rfl) rfl (by show 2 * 0 + _ ≤ _; exact Nat.le_of_eq rfl) (hb hby yd_8) (fun _ _ => ⟨rfl, e0, (by decide : 0 + 0 ≤ _), (by decide : 0 + 0 ≤ _)⟩)
  dsimp only [Pt.U, Pt.locs, Pt.cells, Pt.slots] at z2 l133 y133 z133 zc zb
  replace z2 := own_sub z2 l133 y133 z133
  obtain ⟨rfl, zn, zd⟩ := zb
  have zo := Fr.app N0 zn
  obtain ⟨cq140, kq140, zp, z14, zq⟩ := isOf hZ zd z3
  obtain ⟨_, _, ⟨zr, L140, z15, n140⟩, -, z4, ⟨Lc140, ze, l140, y140, z140⟩, zf⟩ := z2.virtualBack hx (y := own_m3) (z := own_m3) hown (mvT hZ (own_W hw 62 rfl)) (mvT hZ (own_W hw 63 rfl)) (notFace_of_selects (args := #[]) (mvT hZ (own_W hw 65 rfl))) (mvT hZ (own_W hw 65 rfl)) (mvT hZ (own_W hw 64 rfl)) (by decide) (backOf (W := 0) (rm28 l Z a0 hw [] h0 n0 p1 A K cs sb105 sa105 kc105 EN OL0 z3 z9 z7 z8) hZ (own_W hw 66 rfl) (own_W hw 9 rfl) (by decide) (by decide)) zp zq (g := (mkF m 16 #[.val (.ref sa105), .val (.int 1), .val (.int 1)] [(.int 1), (.ref sa105)])) rfl (by rw [hml]; rfl) (Steps.refl _) (argsL := [(.int 1)]) (rest := []) (lenOf own_pd10 rfl) rfl (by show 2 * 0 + _ ≤ _; exact Nat.le_of_eq rfl) (hb hby yd_16) (fun _ _ => ⟨rfl, zd, (by decide : 0 + 0 ≤ _), (by decide : 0 + 0 ≤ _)⟩)
  dsimp only [Pt.U, Pt.locs, Pt.cells, Pt.slots] at z4 l140 y140 z140 zf ze
  replace z4 := own_sub z4 l140 y140 z140
  obtain ⟨rfl, zs, zt⟩ := ze
  have zu := Fr.app zo zs
  obtain ⟨_, _, ⟨z5, L141, z16, n141⟩, -, z0, ⟨Lc141, zg, l141, y141, z141⟩, zh⟩ := Jvm.LawKit.callS z4 hx (y := own_m21) hown (mvT hZ (own_W hw 84 rfl)) (mvT hZ (own_W hw 85 rfl)) (mvT hZ (own_W hw 6 rfl)) (mvT hZ (own_W hw 86 rfl)) (by decide) (backOf (W := 0) (rm16 l Z a0 hw [] h0 n0 p1 A K cs EN OL0) hZ (own_W hw 86 rfl) (own_W hw 6 rfl) (by decide) (by decide)) (g := (mkF m 19 #[.val (.ref sa105), .val (.int 1), .val (.int 1)] [(.int 48)])) rfl (by rw [hml]; rfl) (argsL := [(.int 48)]) (rest := []) (lenOf own_pd11 rfl) rfl (by show 2 * 0 + _ ≤ _; exact Nat.le_of_eq rfl) (hb hby yd_19) (fun _ _ => ⟨rfl, zt, (by decide : 0 + 0 ≤ _), (by decide : 0 + 0 ≤ _)⟩)
  dsimp only [Pt.U, Pt.locs, Pt.cells, Pt.slots] at z0 l141 y141 z141 zh zg
  replace z0 := own_sub z0 l141 y141 z141
  obtain ⟨rfl, zv, zi⟩ := zg
  have zw := Fr.app zu zv
  obtain ⟨cq142, kq142, zx, z17, zy⟩ := isOf hZ zi z3
  obtain ⟨_, _, ⟨z6, L142, z18, n142⟩, -, z1, ⟨Lc142, zj, l142, y142, z142⟩, zk⟩ := z0.virtualBack hx (y := own_m1) (z := own_m1) hown (mvT hZ (own_W hw 21 rfl)) (mvT hZ (own_W hw 22 rfl)) (notFace_of_selects (args := #[]) (mvT hZ (own_W hw 24 rfl))) (mvT hZ (own_W hw 24 rfl)) (mvT hZ (own_W hw 23 rfl)) (by decide) (backOf (W := 1) (rm23 l Z a0 hw [] h0 n0 p1 A K cs sb105 sa105 kc105 EN OL0 z7 z8 z3 z9) hZ (own_W hw 25 rfl) (own_W hw 9 rfl) (by decide) (by decide)) zx zy (g := (mkF m 8 #[.val (.ref sa105), .val (.int 1), .val (.int 2)] [(.ref sa105), (.int 2)])) rfl (by rw [hml]; rfl) (Steps.refl _) (argsL := []) (rest := [(.int 2)]) (lenOf own_pd2 rfl) rfl (by show 2 * 0 + _ ≤ _; exact Nat.le_of_eq rfl) (hb hby yd_8) (fun _ _ => ⟨rfl, zi, (by decide : 0 + 0 ≤ _), (by decide : 0 + 0 ≤ _)⟩)
  dsimp only [Pt.U, Pt.locs, Pt.cells, Pt.slots] at z1 l142 y142 z142 zk zj
  replace z1 := own_sub z1 l142 y142 z142
  obtain ⟨rfl, zz, z10⟩ := zj
  have z11 := Fr.app zw zz
  obtain ⟨fs, hr, hrun, hended, hW, hsame⟩ := z1.leave (v := some (.int 2)) (fun h => by rw [Bd.returns] at h; cases h)
  refine ⟨_, _, pre0 _ ?_, hrun, hended, _, _, rfl, ?_, ⟨_, rfl⟩, hW, hsame.mono (by decide) (by decide)⟩
  · show own_Y p e below s₁ m 0 #[.val (.ref sa105), .val (.int 1), .unset] [] _
    refine XS.iloadN X0.here hx rfl (hb hby yd_0) rfl ?_
    refine XS.istoreN X0.here hx rfl (hb hby yd_1) rfl (l' := #[.val (.ref sa105), .val (.int 1), .val (.int 1)]) rfl ?_
    refine XS.iloadN X0.here hx rfl (hb hby yd_2) rfl ?_
    refine XS.ifNo X0.here hx rfl (hb hby yd_3) rfl ((if0 _ _).trans (flt (by decide : ¬ ((1 : Int32) < (0 : Int32)))).1) ?_
    show own_Y p e below s₁ m 6 #[.val (.ref sa105), .val (.int 1), .val (.int 1)] [] _
    refine XS.iloadN X0.here hx rfl (hb hby yd_6) rfl ?_
    refine XS.aloadN X0.here hx rfl (hb hby yd_7) rfl rfl ?_
    refine zc.trans ?_
    show own_Y p e below za m 11 #[.val (.ref sa105), .val (.int 1), .val (.int 1)] [(.int 2), (.int 1)] _
    refine XS.icmpNo z2.here hx rfl (hb hby yd_11) rfl (tlt (by decide : (1 : Int32) < (2 : Int32))).2.1 ?_
    show own_Y p e below za m 14 #[.val (.ref sa105), .val (.int 1), .val (.int 1)] [] _
    refine XS.aloadN z2.here hx rfl (hb hby yd_14) rfl rfl ?_
    refine XS.iloadN z2.here hx rfl (hb hby yd_15) rfl ?_
    refine zf.trans ?_
    show own_Y p e below zr m 19 #[.val (.ref sa105), .val (.int 1), .val (.int 1)] [(.int 48)] _
    refine zh _ ?_
    show own_Y p e below z5 m 22 #[.val (.ref sa105), .val (.int 1), .val (.int 1)] [(.int 1)] _
    refine XS.ifNo z0.here hx rfl (hb hby yd_22) rfl ((if0 _ _).trans (feq (by decide : ¬ ((1 : Int32) = (0 : Int32)))).1) ?_
    show own_Y p e below z5 m 25 #[.val (.ref sa105), .val (.int 1), .val (.int 1)] [] _
    refine XS.iinc z0.here hx rfl (hb hby yd_25) rfl (l' := #[.val (.ref sa105), .val (.int 1), .val (.int 2)]) rfl ?_
    show own_Y p e below z5 m 28 #[.val (.ref sa105), .val (.int 1), .val (.int 2)] [] _
    refine XS.goto z0.here hx rfl (pc0 := 28) (pc' := 2) rfl (hb hby yd_28) (by decide) (by decide) ?_
    refine XS.iloadN z0.here hx rfl (hb hby yd_2) rfl ?_
    refine XS.ifNo z0.here hx rfl (hb hby yd_3) rfl ((if0 _ _).trans (flt (by decide : ¬ ((2 : Int32) < (0 : Int32)))).1) ?_
    show own_Y p e below z5 m 6 #[.val (.ref sa105), .val (.int 1), .val (.int 2)] [] _
    refine XS.iloadN z0.here hx rfl (hb hby yd_6) rfl ?_
    refine XS.aloadN z0.here hx rfl (hb hby yd_7) rfl rfl ?_
    refine zk.trans ?_
    show own_Y p e below z6 m 11 #[.val (.ref sa105), .val (.int 1), .val (.int 2)] [(.int 2), (.int 2)] _
    refine XS.icmpYes z1.here hx rfl (pc0 := 11) (pc' := 31) rfl (hb hby yd_11) rfl (flt (by decide : ¬ ((2 : Int32) < (2 : Int32)))).2.1 (by decide) (by decide) ?_
    show own_Y p e below z6 m 31 #[.val (.ref sa105), .val (.int 1), .val (.int 2)] [] _
    refine XS.iloadN z1.here hx rfl (hb hby yd_31) rfl ?_
    refine XS.iloadN z1.here hx rfl (hb hby yd_32) rfl ?_
    refine XS.icmpNo z1.here hx rfl (hb hby yd_33) rfl (tlt (by decide : (1 : Int32) < (2 : Int32))).2.2.2 ?_
    show own_Y p e below z6 m 36 #[.val (.ref sa105), .val (.int 1), .val (.int 2)] [] _
    refine XS.iloadN z1.here hx rfl (hb hby yd_36) rfl ?_
    refine XS.goto z1.here hx rfl (pc0 := 37) (pc' := 41) rfl (hb hby yd_37) (by decide) (by decide) ?_
    exact retI z1 hx Bd.returns (hb hby yd_41) hr
  · show PQ (some (.int 2)) h0 n0 _ z6.heap _
    rw [z10]
    exact ⟨rfl, z11, rfl⟩
theorem ye_160 : decode prog_40_method_7_code 160 = .ok (.iconst 1, 1) := by decide +kernel
theorem ye_161 : decode prog_40_method_7_code 161 = .ok (.goto 4, 3) := by decide +kernel
theorem rm22 (l : Launch) (Z : State) (a0 : Array Value) (hw : ∀ d ∈ tables_1, d.before a0 Z = true) (ws : List Jvm.Cond) (h0 : Heap) (n0 : Nat) (p1 : Int32) (A : Nat → Addr) (K : Nat → ClassId) (cs : Int32) (ta : Addr) (tj : Int32)  (sb105 : Addr) (sa105 : Addr) (kc105 : ClassId) (EN : own_St Z A K cs) (gE : Exa Z Z.heap ta y_s1) (gF : Fld Z Z.heap ta y_s3 "ordinal" "I" (.int tj)) (gj : tj = (0 : Int32) ∨ tj = (1 : Int32)) (OL0 : Old Z n0 h0) (z7 : Exa Z h0 sa105 y_s2) (za : Fld Z h0 sa105 y_s2 "value" "[B" (.ref sb105)) (zb : Arv Z h0 sb105 kc105 .byte (2 : Int32) [(.int 45), (.int 48)] (.int 0)) (zc : Fld Z h0 sa105 y_s2 "coder" "B" (.int 0)) :
    own_MH l Z own_m0 prog_40_method_7_code 3 (some .boolean) ws (Room.mk 5 2 8 67) #[(.ref ta), (.ref sa105)] h0 (QH (some (.int 1)) h0 n0) := by
  refine MetFree.of_bodySF (plainFor_of_name own_pn6) hisR ?_
  intro p e s m args below meth c s₁ Bd hml0 hP hK
  obtain ⟨rfl, hZ, hh, H0⟩ := hP
  have hx := Bd.exec
  have hby := Bd.bytes
  have hml : c.maxLocals = 3 := hml0
  have hown : s.vm.findClass y_s1 = some m.cls := findClass_of_methodNamed Bd.named
  have hnm := (name_of_methodNamed Bd.named Bd.method).1
  have hS0 : s.Since s.vm 0 := (State.WarmedH.refl s).since 0
  have zu : 0 ≤ h0.size := Nat.zero_le _
  have CR0 : CHr Z consts_1 s.vm h0 s.vm h0 := CHr.refl H0
  have X0 : Stand p l e (Room.mk 5 2 8 67) (s.setVm s.vm) m #[(.ref ta), (.ref sa105)] below meth c s₁ [] 0 0 := Stand.of_body Bd
  have e0 : s₁.heap = h0 := by rw [← hh, Bd.state]; rfl
  have N0 := Fr.nil n0
  have pre0 : own_P p e below s₁ m 0 #[.val (.ref ta), .val (.ref sa105), .unset] [] s₁ #[(.ref ta), (.ref sa105)] 3 := fun t k => castTop (by first | (simp [entryFrame, mkF, argsToLocals, Value.category, maxLocals]; done) | rfl) k
  have KK0 : Keep h0 h0 [] := Keep.refl _ _
  obtain ⟨cq112, kq112, zv, z1h, zw⟩ := isOf hZ e0 z7
  obtain ⟨_, _, ⟨zd, L112, z1i, n112⟩, -, z1, ⟨Lc112, ze, l112, y112, z112⟩, zf⟩ := X0.virtualBack hx (y := own_m1) (z := own_m1) hown (mvT hZ (own_W hw 21 rfl)) (mvT hZ (own_W hw 22 rfl)) (notFace_of_selects (args := #[]) (mvT hZ (own_W hw 24 rfl))) (mvT hZ (own_W hw 24 rfl)) (mvT hZ (own_W hw 23 rfl)) (by decide) (backOf (W := 0) (rm23 l Z a0 hw [] h0 n0 p1 A K cs sb105 sa105 kc105 EN OL0 za zb z7 zc) hZ (own_W hw 25 rfl) (own_W hw 9 rfl) (by decide) (by decide)) zv zw (g := (mkF m 1 #[.val (.ref ta), .val (.ref sa105), .unset] [(.ref sa105)])) rfl (by rw [hml]; rfl) (Steps.refl _) (argsL := []) (rest := []) (lenOf own_pd2 rfl) rfl (by show 2 * 0 + _ ≤ _; exact Nat.le_of_eq rfl) (hb hby ye_1) (fun _ _ => ⟨rfl, e0, (by decide : 0 + 0 ≤ _), (by decide : 0 + 0 ≤ _)⟩)
  dsimp only [Pt.U, Pt.locs, Pt.cells, Pt.slots] at z1 l112 y112 z112 zf ze
  replace z1 := own_sub z1 l112 y112 z112
  obtain ⟨rfl, zx, zg⟩ := ze
  have zy := Fr.app N0 zx
  obtain ⟨cq113, kq113, zz, z1j, z10⟩ := isOf hZ zg (gE.ext OL0.2)
  obtain ⟨_, _, ⟨z4, L113, z1k, n113⟩, -, z2, ⟨Lc113, zh, l113, y113, z113⟩, zi⟩ := z1.virtualBackUp hx (x := own_m8) (y := own_m7) (owner := y_s3) hown (mvT hZ (own_W hw 34 rfl)) (mvT hZ (own_W hw 35 rfl)) (mvT hZ (own_W hw 36 rfl)) (by decide) (mvT hZ (own_W hw 38 rfl)) (mvT hZ (own_W hw 37 rfl)) (backOf (W := 0) (rm4 l Z a0 hw [] h0 n0 p1 A K cs ta tj EN gE gF OL0) hZ (own_W hw 40 rfl) (own_W hw 39 rfl) (by decide) (by decide)) zz z10 (g := (mkF m 12 #[.val (.ref ta), .val (.ref sa105), .val (.int 2)] [(.ref ta)])) rfl (by rw [hml]; rfl) (Steps.refl _) (argsL := []) (rest := []) (lenOf own_pd2 rfl) rfl (by show 2 * 0 + _ ≤ _; exact Nat.le_of_eq rfl) (hb hby ye_12) (fun _ _ => ⟨rfl, zg, (by decide : 0 + 0 ≤ _), (by decide : 0 + 0 ≤ _)⟩)
  dsimp only [Pt.U, Pt.locs, Pt.cells, Pt.slots] at z2 l113 y113 z113 zi zh
  replace z2 := own_sub z2 l113 y113 z113
  obtain ⟨rfl, z11, z12⟩ := zh
  have z13 := Fr.app zy z11
  have ts114 : ∀ t, Steps p.tables e below (z4.setTop (mkF m 150 #[.val (.ref ta), .val (.ref sa105), .val (.int 2)] [])) t → Steps p.tables e below (z4.setTop (mkF m 15 #[.val (.ref ta), .val (.ref sa105), .val (.int 2)] [(.int tj)])) t := by
    intro t k
    rcases gj with rfl | rfl <;> exact XS.tswIn z2.here hx rfl (pc0 := 15) (pc' := 150) rfl (hb hby ye_15) rfl (by decide) (o := 135) (by decide) (by decide) (by decide) k
  have z14 : own_P p e below z4 m 152 #[.val (.ref ta), .val (.ref sa105), .val (.int 2)] [(.ref sa105), (.ref sa105)] s₁ #[(.ref ta), (.ref sa105)] 3 := fun t k => pre0 t (by
    show own_Y p e below s₁ m 0 #[.val (.ref ta), .val (.ref sa105), .unset] [] _
    refine XS.aloadN X0.here hx rfl (hb hby ye_0) rfl rfl ?_
    refine zf.trans ?_
    show own_Y p e below zd m 4 #[.val (.ref ta), .val (.ref sa105), .unset] [(.int 2)] _
    refine XS.istoreN z1.here hx rfl (hb hby ye_4) rfl (l' := #[.val (.ref ta), .val (.ref sa105), .val (.int 2)]) rfl ?_
    refine XS.iloadN z1.here hx rfl (hb hby ye_5) rfl ?_
    refine XS.ifYes z1.here hx rfl (pc0 := 6) (pc' := 11) rfl (hb hby ye_6) rfl ((if0 _ _).trans (feq (by decide : ¬ ((2 : Int32) = (0 : Int32)))).2) (by decide) (by decide) ?_
    show own_Y p e below zd m 11 #[.val (.ref ta), .val (.ref sa105), .val (.int 2)] [] _
    refine XS.aloadN z1.here hx rfl (hb hby ye_11) rfl rfl ?_
    refine zi.trans ?_
    show own_Y p e below z4 m 15 #[.val (.ref ta), .val (.ref sa105), .val (.int 2)] [(.int tj)] _
    refine ts114 _ ?_
    show own_Y p e below z4 m 150 #[.val (.ref ta), .val (.ref sa105), .val (.int 2)] [] _
    refine XS.aloadN z2.here hx rfl (hb hby ye_150) rfl rfl ?_
    refine XS.aloadN z2.here hx rfl (hb hby ye_151) rfl rfl ?_
    exact k)
  obtain ⟨sa116, z15, zj, kk116, sb116, kc116, z16, zk, z5, hS116, z17, hZ, hown, Es116, Cs116, Vs116, As116, la116, lb116, C116, -, -, z18⟩ := ldcCH (s := s) z2 hx hZ hown (own_W hw 43 rfl) (own_strAtoms a0 Z hw) z12 hS0 zu (own_EW a0 Z hw) (List.mem_of_getElem? (i := 0) rfl) H0 (vs := [(.int 45)]) (z := (1 : Int32)) ⟨by decide, by decide⟩ (by decide) (by decide) (g := (mkF m 152 #[.val (.ref ta), .val (.ref sa105), .val (.int 2)] [(.ref sa105), (.ref sa105)])) rfl (hb hby ye_152) (n := 4) (by decide) (by decide) (by decide) (by decide)
  have CR116 := CR0.trans C116
  have zl := OL0.ext z5
  have z19 := KK0.ext z5
  have z8 := (z7.ext z5)
  have zm := (za.ext z5)
  have zn := (zb.ext z5)
  have zo := (zc.ext z5)
  obtain ⟨cq132, kq132, z1a, z1l, z1b⟩ := isOf hZ zk z8
  obtain ⟨_, _, ⟨zp, L132, z1m, n132⟩, -, z3, ⟨Lc132, zq, l132, y132, z132⟩, zr⟩ := z16.virtualBack hx (y := own_m11) (z := own_m11) hown (mvT hZ (own_W hw 44 rfl)) (mvT hZ (own_W hw 45 rfl)) (notFace_of_selects (args := #[]) (mvT hZ (own_W hw 47 rfl))) (mvT hZ (own_W hw 47 rfl)) (mvT hZ (own_W hw 46 rfl)) (by decide) (backOf (W := 1) (rm24 l Z a0 hw [] zj n0 p1 A K cs sb105 sa105 sb116 sa116 kc105 kc116 EN zl z8 zm zn zo Es116 Vs116 As116 Cs116) hZ (own_W hw 48 rfl) (own_W hw 9 rfl) (by decide) (by decide)) z1a z1b (g := (mkF m 154 #[.val (.ref ta), .val (.ref sa105), .val (.int 2)] [(.ref sa116), (.ref sa105), (.ref sa105)])) rfl (by rw [hml]; rfl) (Steps.refl _) (argsL := [(.ref sa116)]) (rest := [(.ref sa105)]) (lenOf own_pd5 rfl) rfl (by show 2 * 0 + _ ≤ _; exact Nat.le_of_eq rfl) (hb hby ye_154) (fun _ _ => ⟨rfl, zk, (by decide : 2 + 0 ≤ _), (by decide : 8 + 0 ≤ _)⟩)
  dsimp only [Pt.U, Pt.locs, Pt.cells, Pt.slots] at z3 l132 y132 z132 zr zq
  replace z3 := own_sub z3 l132 y132 z132
  obtain ⟨rfl, z1c, z1d⟩ := zq
  have z1e := Fr.app z13 z1c
  obtain ⟨_, _, ⟨z6, L143, z1n, n143⟩, -, z0, ⟨Lc143, zs, l143, y143, z143⟩, zt⟩ := Jvm.LawKit.callS z3 hx (y := own_m18) hown (mvT hZ (own_W hw 59 rfl)) (mvT hZ (own_W hw 60 rfl)) (mvT hZ (own_W hw 6 rfl)) (mvT hZ (own_W hw 61 rfl)) (by decide) (backOf (W := 0) (rm27 l Z a0 hw [] zj n0 p1 A K cs sb105 sa105 kc105 EN zl z8 zm zn zo) hZ (own_W hw 61 rfl) (own_W hw 6 rfl) (by decide) (by decide)) (g := (mkF m 165 #[.val (.ref ta), .val (.ref sa105), .val (.int 2)] [(.int 1), (.ref sa105)])) rfl (by rw [hml]; rfl) (argsL := [(.ref sa105), (.int 1)]) (rest := []) (lenOf own_pd12 rfl) rfl (by show 2 * 0 + _ ≤ _; exact Nat.le_of_eq rfl) (hb hby ye_165) (fun _ _ => ⟨rfl, z1d, (by decide : 2 + 0 ≤ _), (by decide : 8 + 0 ≤ _)⟩)
  dsimp only [Pt.U, Pt.locs, Pt.cells, Pt.slots] at z0 l143 y143 z143 zt zs
  replace z0 := own_sub z0 l143 y143 z143
  obtain ⟨rfl, z1f, z9⟩ := zs
  have z1g := Fr.app z1e z1f
  obtain ⟨fs, hr, hrun, hended, hEW⟩ := z0.leaveW (s := s) hS116 (by rw [z9]; exact z17) (v := some (.int 1)) (fun h => by rw [Bd.returns] at h; cases h)
  refine ⟨_, _, z14 _ ?_, hrun, hended, _, _, rfl, ?_, ?_, hEW.1, hEW.2.1, hEW.2.2.1, hEW.2.2.2.mono (by decide) (by decide)⟩
  · show own_Y p e below z4 m 152 #[.val (.ref ta), .val (.ref sa105), .val (.int 2)] [(.ref sa105), (.ref sa105)] _
    refine z18 _ ?_
    show own_Y p e below z15 m 154 #[.val (.ref ta), .val (.ref sa105), .val (.int 2)] [(.ref sa116), (.ref sa105), (.ref sa105)] _
    refine zr.trans ?_
    show own_Y p e below zp m 157 #[.val (.ref ta), .val (.ref sa105), .val (.int 2)] [(.int 1), (.ref sa105)] _
    refine XS.ifNo z3.here hx rfl (hb hby ye_157) rfl ((if0 _ _).trans (feq (by decide : ¬ ((1 : Int32) = (0 : Int32)))).1) ?_
    show own_Y p e below zp m 160 #[.val (.ref ta), .val (.ref sa105), .val (.int 2)] [(.ref sa105)] _
    refine XS.iconst z3.here hx rfl (hb hby ye_160) ?_
    refine XS.goto z3.here hx rfl (pc0 := 161) (pc' := 165) rfl (hb hby ye_161) (by decide) (by decide) ?_
    refine zt _ ?_
    show own_Y p e below z6 m 168 #[.val (.ref ta), .val (.ref sa105), .val (.int 2)] [(.int 2)] _
    refine XS.iloadN z0.here hx rfl (hb hby ye_168) rfl ?_
    refine XS.icmpNo z0.here hx rfl (hb hby ye_169) rfl (teq (by decide : (2 : Int32) = (2 : Int32))).2 ?_
    show own_Y p e below z6 m 172 #[.val (.ref ta), .val (.ref sa105), .val (.int 2)] [] _
    refine XS.iconst z0.here hx rfl (hb hby ye_172) ?_
    refine XS.goto z0.here hx rfl (pc0 := 173) (pc' := 426) rfl (hb hby ye_173) (by decide) (by decide) ?_
    exact retN z0 hx (t := .boolean) Bd.returns (by simp) (hb hby ye_426) hr
  · show QH (some (.int 1)) h0 n0 _ z6.heap _
    rw [z9]
    exact ⟨rfl, z1g, z19⟩
  · show CHr Z consts_1 s.vm s.heap z6.vm z6.heap
    rw [hh, z9]
    exact CR116.trans (CHv.at z0 hZ (own_EW a0 Z hw) C116.1)
theorem yf_0 : decode prog_40_method_5_code 0 = .ok (.aload_n 0, 1) := by decide +kernel
theorem yf_1 : decode prog_40_method_5_code 1 = .ok (.getstatic 10, 3) := by decide +kernel
theorem yf_4 : decode prog_40_method_5_code 4 = .ok (.if_acmp .ne 7, 3) := by decide +kernel
theorem yf_11 : decode prog_40_method_5_code 11 = .ok (.iconst 0, 1) := by decide +kernel
theorem yf_12 : decode prog_40_method_5_code 12 = .ok (.ireturn, 1) := by decide +kernel
theorem rm30 (l : Launch) (Z : State) (a0 : Array Value) (hw : ∀ d ∈ tables_1, d.before a0 Z = true) (ws : List Jvm.Cond) (h0 : Heap) (n0 : Nat) (p1 : Int32) (A : Nat → Addr) (K : Nat → ClassId) (cs : Int32) (ta : Addr) (tj : Int32)  (EN : own_St Z A K cs) (gE : Exa Z Z.heap ta y_s1) (gF : Fld Z Z.heap ta y_s3 "ordinal" "I" (.int tj)) (gN : ¬ (ta = (A 2))) (OL0 : Old Z n0 h0) :
    own_MF l Z own_m2 prog_40_method_5_code 1 (some .boolean) ws (Room.mk 0 0 0 0) #[(.ref ta)] h0 (PQ (some (.int 0)) h0 n0) := by
  refine MetFree.of_bodySF (plainFor_of_name own_pn6) hisR ?_
  intro p e s m args below meth c s₁ Bd hml0 hP hK
  obtain ⟨rfl, hZ, hh⟩ := hP
  have hx := Bd.exec
  have hby := Bd.bytes
  have hml : c.maxLocals = 1 := hml0
  have hown : s.vm.findClass y_s1 = some m.cls := findClass_of_methodNamed Bd.named
  have hnm := (name_of_methodNamed Bd.named Bd.method).1
  have X0 : Stand p l e (Room.mk 0 0 0 0) s m #[(.ref ta)] below meth c s₁ [] 0 0 := Stand.of_body Bd
  have e0 : s₁.heap = h0 := by rw [← hh, Bd.state]; rfl
  have N0 := Fr.nil n0
  have pre0 : own_P p e below s₁ m 0 #[.val (.ref ta)] [] s₁ #[(.ref ta)] 1 := fun t k => castTop (by first | (simp [entryFrame, mkF, argsToLocals, Value.category, maxLocals]; done) | rfl) k
  have KK0 : Keep h0 h0 [] := Keep.refl _ _
  obtain ⟨z1, z0, z2, z3⟩ := getS2 X0 hx hZ hown (host := "") (Or.inl (own_W hw 93 rfl)) Via.refl e0 (EN.1.2.2.2.2.1.ext OL0.2) (g := (mkF m 1 #[.val (.ref ta)] [(.ref ta)])) rfl (hb hby yf_1)
  obtain ⟨fs, hr, hrun, hended, hW, hsame⟩ := z0.leave (v := some (.int 0)) (fun h => by rw [Bd.returns] at h; cases h)
  refine ⟨_, _, pre0 _ ?_, hrun, hended, _, _, rfl, ?_, ⟨_, rfl⟩, hW, hsame.mono (by decide) (by decide)⟩
  · show own_Y p e below s₁ m 0 #[.val (.ref ta)] [] _
    refine XS.aloadN X0.here hx rfl (hb hby yf_0) rfl rfl ?_
    refine z3 _ ?_
    show own_Y p e below z1 m 4 #[.val (.ref ta)] [(.ref (A 2)), (.ref ta)] _
    refine Jvm.RoadKit.acmp (g := (mkF m 4 #[.val (.ref ta)] [(.ref (A 2)), (.ref ta)])) z0 hx rfl rfl rfl (pc0 := 4) (pc' := 11) (same := false) rfl (hb hby yf_4) rfl (decide_eq_false fun q => gN (Value.ref.inj q)) (by decide) (by decide) ?_
    show own_Y p e below z1 m 11 #[.val (.ref ta)] [] _
    refine XS.iconst z0.here hx rfl (hb hby yf_11) ?_
    exact retN z0 hx (t := .boolean) Bd.returns (by simp) (hb hby yf_12) hr
  · show PQ (some (.int 0)) h0 n0 _ z1.heap _
    rw [z2]
    exact ⟨rfl, N0, rfl⟩
theorem yg_0 : decode jdk_42_method_55_code 0 = .ok (.aload_n 0, 1) := by decide +kernel
theorem yg_1 : decode jdk_42_method_55_code 1 = .ok (.getfield 9, 3) := by decide +kernel
theorem yg_4 : decode jdk_42_method_55_code 4 = .ok (.arraylength, 1) := by decide +kernel
theorem yg_5 : decode jdk_42_method_55_code 5 = .ok (.ifCond .ne 7, 3) := by decide +kernel
theorem yg_12 : decode jdk_42_method_55_code 12 = .ok (.iconst 0, 1) := by decide +kernel
theorem yg_13 : decode jdk_42_method_55_code 13 = .ok (.ireturn, 1) := by decide +kernel
theorem rm33 (l : Launch) (Z : State) (a0 : Array Value) (hw : ∀ d ∈ tables_1, d.before a0 Z = true) (ws : List Jvm.Cond) (h0 : Heap) (n0 : Nat) (p1 : Int32) (A : Nat → Addr) (K : Nat → ClassId) (cs : Int32)  (sb157 : Addr) (sa157 : Addr) (kc157 : ClassId) (EN : own_St Z A K cs) (OL0 : Old Z n0 h0) (z4 : Fld Z h0 sa157 y_s2 "value" "[B" (.ref sb157)) (z5 : Arv Z h0 sb157 kc157 .byte (2 : Int32) [(.int 48), (.int 48)] (.int 0)) :
    own_MF l Z own_m19 jdk_42_method_55_code 1 (some .boolean) ws (Room.mk 0 0 0 0) #[(.ref sa157)] h0 (PQ (some (.int 0)) h0 n0) := by
  refine MetFree.of_bodySF (plainFor_of_name own_pn1) hisR ?_
  intro p e s m args below meth c s₁ Bd hml0 hP hK
  obtain ⟨rfl, hZ, hh⟩ := hP
  have hx := Bd.exec
  have hby := Bd.bytes
  have hml : c.maxLocals = 1 := hml0
  have hown : s.vm.findClass y_s2 = some m.cls := findClass_of_methodNamed Bd.named
  have hnm := (name_of_methodNamed Bd.named Bd.method).1
  have X0 : Stand p l e (Room.mk 0 0 0 0) s m #[(.ref sa157)] below meth c s₁ [] 0 0 := Stand.of_body Bd
  have e0 : s₁.heap = h0 := by rw [← hh, Bd.state]; rfl
  have N0 := Fr.nil n0
  have pre0 : own_P p e below s₁ m 0 #[.val (.ref sa157)] [] s₁ #[(.ref sa157)] 1 := fun t k => castTop (by first | (simp [entryFrame, mkF, argsToLocals, Value.category, maxLocals]; done) | rfl) k
  have KK0 : Keep h0 h0 [] := Keep.refl _ _
  obtain ⟨z1, z0, z2, z6⟩ := getF X0 hx hZ hown (host := "") (Or.inl (own_W hw 26 rfl)) Via.refl e0 z4 (g := (mkF m 1 #[.val (.ref sa157)] [(.ref sa157)])) rfl rfl (hb hby yg_1)
  obtain ⟨z9, z3, -, z7, z8, -, -⟩ := (id z5)
  obtain ⟨fs, hr, hrun, hended, hW, hsame⟩ := z0.leave (v := some (.int 0)) (fun h => by rw [Bd.returns] at h; cases h)
  refine ⟨_, _, pre0 _ ?_, hrun, hended, _, _, rfl, ?_, ⟨_, rfl⟩, hW, hsame.mono (by decide) (by decide)⟩
  · show own_Y p e below s₁ m 0 #[.val (.ref sa157)] [] _
    refine XS.aloadN X0.here hx rfl (hb hby yg_0) rfl rfl ?_
    refine z6 _ ?_
    show own_Y p e below z1 m 4 #[.val (.ref sa157)] [(.ref sb157)] _
    refine z0.arraylength hx (by rw [z2]; exact z3.1) (State.isArrayOf_alike hZ.alike z3.2.1) (g := (mkF m 4 #[.val (.ref sa157)] [(.ref sb157)])) rfl rfl (hb hby yg_4) _ ?_
    rw [len_of z7 z8]
    show own_Y p e below z1 m 5 #[.val (.ref sa157)] [(.int 2)] _
    refine XS.ifYes z0.here hx rfl (pc0 := 5) (pc' := 12) rfl (hb hby yg_5) rfl ((if0 _ _).trans (feq (by decide : ¬ ((2 : Int32) = (0 : Int32)))).2) (by decide) (by decide) ?_
    show own_Y p e below z1 m 12 #[.val (.ref sa157)] [] _
    refine XS.iconst z0.here hx rfl (hb hby yg_12) ?_
    exact retN z0 hx (t := .boolean) Bd.returns (by simp) (hb hby yg_13) hr
  · show PQ (some (.int 0)) h0 n0 _ z1.heap _
    rw [z2]
    exact ⟨rfl, N0, rfl⟩
theorem yh_0 : decode prog_63_method_4_code 0 = .ok (.aload_n 0, 1) := by decide +kernel
theorem yh_1 : decode prog_63_method_4_code 1 = .ok (.invokevirtual 33, 3) := by decide +kernel
theorem yh_4 : decode prog_63_method_4_code 4 = .ok (.ifCond .eq 7, 3) := by decide +kernel
theorem yh_11 : decode prog_63_method_4_code 11 = .ok (.lconst 0, 1) := by decide +kernel
theorem yh_12 : decode prog_63_method_4_code 12 = .ok (.lstore_n 1, 1) := by decide +kernel
theorem yh_13 : decode prog_63_method_4_code 13 = .ok (.iconst 0, 1) := by decide +kernel
theorem yh_14 : decode prog_63_method_4_code 14 = .ok (.istore_n 3, 1) := by decide +kernel
theorem yh_15 : decode prog_63_method_4_code 15 = .ok (.iload_n 3, 1) := by decide +kernel
theorem yh_16 : decode prog_63_method_4_code 16 = .ok (.aload_n 0, 1) := by decide +kernel
theorem yh_17 : decode prog_63_method_4_code 17 = .ok (.invokevirtual 39, 3) := by decide +kernel
theorem yh_20 : decode prog_63_method_4_code 20 = .ok (.if_icmp .ge 55, 3) := by decide +kernel
theorem yh_23 : decode prog_63_method_4_code 23 = .ok (.aload_n 0, 1) := by decide +kernel
theorem yh_24 : decode prog_63_method_4_code 24 = .ok (.iload_n 3, 1) := by decide +kernel
theorem yh_25 : decode prog_63_method_4_code 25 = .ok (.invokevirtual 43, 3) := by decide +kernel
theorem yh_28 : decode prog_63_method_4_code 28 = .ok (.istore 4, 2) := by decide +kernel
theorem yh_30 : decode prog_63_method_4_code 30 = .ok (.iload 4, 2) := by decide +kernel
theorem yh_32 : decode prog_63_method_4_code 32 = .ok (.bipush 48, 2) := by decide +kernel
theorem yh_34 : decode prog_63_method_4_code 34 = .ok (.if_icmp .lt 10, 3) := by decide +kernel
theorem yh_37 : decode prog_63_method_4_code 37 = .ok (.iload 4, 2) := by decide +kernel
theorem yh_39 : decode prog_63_method_4_code 39 = .ok (.bipush 57, 2) := by decide +kernel
theorem yh_41 : decode prog_63_method_4_code 41 = .ok (.if_icmp .le 7, 3) := by decide +kernel
theorem yh_48 : decode prog_63_method_4_code 48 = .ok (.lload_n 1, 1) := by decide +kernel
theorem yh_49 : decode prog_63_method_4_code 49 = .ok (.ldc2_w 46, 3) := by decide +kernel
theorem yh_52 : decode prog_63_method_4_code 52 = .ok (.lcmp, 1) := by decide +kernel
theorem yh_53 : decode prog_63_method_4_code 53 = .ok (.ifCond .gt 16, 3) := by decide +kernel
theorem yh_56 : decode prog_63_method_4_code 56 = .ok (.lload_n 1, 1) := by decide +kernel
theorem yh_57 : decode prog_63_method_4_code 57 = .ok (.ldc2_w 48, 3) := by decide +kernel
theorem yh_60 : decode prog_63_method_4_code 60 = .ok (.lmul, 1) := by decide +kernel
theorem yh_61 : decode prog_63_method_4_code 61 = .ok (.iload 4, 2) := by decide +kernel
theorem yh_63 : decode prog_63_method_4_code 63 = .ok (.bipush 48, 2) := by decide +kernel
theorem yh_65 : decode prog_63_method_4_code 65 = .ok (.isub, 1) := by decide +kernel
theorem yh_66 : decode prog_63_method_4_code 66 = .ok (.i2l, 1) := by decide +kernel
theorem yh_67 : decode prog_63_method_4_code 67 = .ok (.ladd, 1) := by decide +kernel
theorem yh_68 : decode prog_63_method_4_code 68 = .ok (.lstore_n 1, 1) := by decide +kernel
theorem yh_69 : decode prog_63_method_4_code 69 = .ok (.iinc 3 1, 3) := by decide +kernel
theorem yh_72 : decode prog_63_method_4_code 72 = .ok (.goto (-57), 3) := by decide +kernel
theorem yh_75 : decode prog_63_method_4_code 75 = .ok (.lload_n 1, 1) := by decide +kernel
theorem yh_76 : decode prog_63_method_4_code 76 = .ok (.lreturn, 1) := by decide +kernel
theorem own_pn7 : plainName "com/example/tallywire/tallywire/wire/TagValue" = true := by first | (simp [plainName, overriddenIn]; done) | decide +kernel
theorem rm32 (l : Launch) (Z : State) (a0 : Array Value) (hw : ∀ d ∈ tables_1, d.before a0 Z = true) (ws : List Jvm.Cond) (h0 : Heap) (n0 : Nat) (p1 : Int32) (A : Nat → Addr) (K : Nat → ClassId) (cs : Int32)  (sb157 : Addr) (sa157 : Addr) (kc157 : ClassId) (EN : own_St Z A K cs) (OL0 : Old Z n0 h0) (z4 : Exa Z h0 sa157 y_s2) (z9 : Fld Z h0 sa157 y_s2 "value" "[B" (.ref sb157)) (za : Arv Z h0 sb157 kc157 .byte (2 : Int32) [(.int 48), (.int 48)] (.int 0)) (zb : Fld Z h0 sa157 y_s2 "coder" "B" (.int 0)) :
    own_MF l Z own_m22 prog_63_method_4_code 5 (some .long) ws (Room.mk 4 0 0 53) #[(.ref sa157)] h0 (PQ (some (.long 0)) h0 n0) := by
  refine MetFree.of_bodySF (plainFor_of_name own_pn7) hisR ?_
  intro p e s m args below meth c s₁ Bd hml0 hP hK
  obtain ⟨rfl, hZ, hh⟩ := hP
  have hx := Bd.exec
  have hby := Bd.bytes
  have hml : c.maxLocals = 5 := hml0
  have hown : s.vm.findClass "com/example/tallywire/tallywire/wire/TagValue" = some m.cls := findClass_of_methodNamed Bd.named
  have hnm := (name_of_methodNamed Bd.named Bd.method).1
  have X0 : Stand p l e (Room.mk 4 0 0 53) s m #[(.ref sa157)] below meth c s₁ [] 0 0 := Stand.of_body Bd
  have e0 : s₁.heap = h0 := by rw [← hh, Bd.state]; rfl
  have N0 := Fr.nil n0
  have pre0 : own_P p e below s₁ m 0 #[.val (.ref sa157), .unset, .unset, .unset, .unset] [] s₁ #[(.ref sa157)] 5 := fun t k => castTop (by first | (simp [entryFrame, mkF, argsToLocals, Value.category, maxLocals]; done) | rfl) k
  have KK0 : Keep h0 h0 [] := Keep.refl _ _
  obtain ⟨cq163, kq163, zx, z1m, zy⟩ := isOf hZ e0 z4
  obtain ⟨_, _, ⟨zd, L163, z1n, n163⟩, -, z5, ⟨Lc163, ze, l163, y163, z163⟩, zf⟩ := X0.virtualBack hx (y := own_m19) (z := own_m19) hown (mvT hZ (own_W hw 101 rfl)) (mvT hZ (own_W hw 102 rfl)) (notFace_of_selects (args := #[]) (mvT hZ (own_W hw 104 rfl))) (mvT hZ (own_W hw 104 rfl)) (mvT hZ (own_W hw 103 rfl)) (by decide) (backOf (W := 0) (rm33 l Z a0 hw [] h0 n0 p1 A K cs sb157 sa157 kc157 EN OL0 z9 za) hZ (own_W hw 105 rfl) (own_W hw 9 rfl) (by decide) (by decide)) zx zy (g := (mkF m 1 #[.val (.ref sa157), .unset, .unset, .unset, .unset] [(.ref sa157)])) rfl (by rw [hml]; rfl) (Steps.refl _) (argsL := []) (rest := []) (lenOf own_pd6 rfl) rfl (by show 2 * 0 + _ ≤ _; exact Nat.le_of_eq rfl) (hb hby yh_1) (fun _ _ => ⟨rfl, e0, (by decide : 0 + 0 ≤ _), (by decide : 0 + 0 ≤ _)⟩)
  dsimp only [Pt.U, Pt.locs, Pt.cells, Pt.slots] at z5 l163 y163 z163 zf ze
  replace z5 := own_sub z5 l163 y163 z163
  obtain ⟨rfl, zz, zg⟩ := ze
  have z10 := Fr.app N0 zz
  obtain ⟨cq164, kq164, z11, z1o, z12⟩ := isOf hZ zg z4
  obtain ⟨_, _, ⟨zh, L164, z1p, n164⟩, -, z6, ⟨Lc164, zi, l164, y164, z164⟩, zj⟩ := z5.virtualBack hx (y := own_m1) (z := own_m1) hown (mvT hZ (own_W hw 106 rfl)) (mvT hZ (own_W hw 22 rfl)) (notFace_of_selects (args := #[]) (mvT hZ (own_W hw 24 rfl))) (mvT hZ (own_W hw 24 rfl)) (mvT hZ (own_W hw 23 rfl)) (by decide) (backOf (W := 1) (rm2 l Z a0 hw [] h0 n0 p1 A K cs sb157 sa157 kc157 EN OL0 z9 za z4 zb) hZ (own_W hw 25 rfl) (own_W hw 9 rfl) (by decide) (by decide)) z11 z12 (g := (mkF m 17 #[.val (.ref sa157), .val (.long 0), .second, .val (.int 0), .unset] [(.ref sa157), (.int 0)])) rfl (by rw [hml]; rfl) (Steps.refl _) (argsL := []) (rest := [(.int 0)]) (lenOf own_pd2 rfl) rfl (by show 2 * 0 + _ ≤ _; exact Nat.le_of_eq rfl) (hb hby yh_17) (fun _ _ => ⟨rfl, zg, (by decide : 0 + 0 ≤ _), (by decide : 0 + 0 ≤ _)⟩)
  dsimp only [Pt.U, Pt.locs, Pt.cells, Pt.slots] at z6 l164 y164 z164 zj zi
  replace z6 := own_sub z6 l164 y164 z164
  obtain ⟨rfl, z13, zk⟩ := zi
  have z14 := Fr.app z10 z13
  obtain ⟨cq165, kq165, z15, z1q, z16⟩ := isOf hZ zk z4
  obtain ⟨_, _, ⟨z2, L165, z1r, n165⟩, -, z0, ⟨Lc165, zl, l165, y165, z165⟩, zm⟩ := z6.virtualBack hx (y := own_m3) (z := own_m3) hown (mvT hZ (own_W hw 107 rfl)) (mvT hZ (own_W hw 63 rfl)) (notFace_of_selects (args := #[]) (mvT hZ (own_W hw 65 rfl))) (mvT hZ (own_W hw 65 rfl)) (mvT hZ (own_W hw 64 rfl)) (by decide) (backOf (W := 0) (rm10 l Z a0 hw [] h0 n0 p1 A K cs sb157 sa157 kc157 EN OL0 z4 zb z9 za) hZ (own_W hw 66 rfl) (own_W hw 9 rfl) (by decide) (by decide)) z15 z16 (g := (mkF m 25 #[.val (.ref sa157), .val (.long 0), .second, .val (.int 0), .unset] [(.int 0), (.ref sa157)])) rfl (by rw [hml]; rfl) (Steps.refl _) (argsL := [(.int 0)]) (rest := []) (lenOf own_pd10 rfl) rfl (by show 2 * 0 + _ ≤ _; exact Nat.le_of_eq rfl) (hb hby yh_25) (fun _ _ => ⟨rfl, zk, (by decide : 0 + 0 ≤ _), (by decide : 0 + 0 ≤ _)⟩)
  dsimp only [Pt.U, Pt.locs, Pt.cells, Pt.slots] at z0 l165 y165 z165 zm zl
  replace z0 := own_sub z0 l165 y165 z165
  obtain ⟨rfl, z17, zn⟩ := zl
  have z18 := Fr.app z14 z17
  obtain ⟨cq166, kq166, z19, z1s, z1a⟩ := isOf hZ zn z4
  obtain ⟨_, _, ⟨zo, L166, z1t, n166⟩, -, z7, ⟨Lc166, zp, l166, y166, z166⟩, zq⟩ := z0.virtualBack hx (y := own_m1) (z := own_m1) hown (mvT hZ (own_W hw 106 rfl)) (mvT hZ (own_W hw 22 rfl)) (notFace_of_selects (args := #[]) (mvT hZ (own_W hw 24 rfl))) (mvT hZ (own_W hw 24 rfl)) (mvT hZ (own_W hw 23 rfl)) (by decide) (backOf (W := 1) (rm2 l Z a0 hw [] h0 n0 p1 A K cs sb157 sa157 kc157 EN OL0 z9 za z4 zb) hZ (own_W hw 25 rfl) (own_W hw 9 rfl) (by decide) (by decide)) z19 z1a (g := (mkF m 17 #[.val (.ref sa157), .val (.long 0), .second, .val (.int 1), .val (.int 48)] [(.ref sa157), (.int 1)])) rfl (by rw [hml]; rfl) (Steps.refl _) (argsL := []) (rest := [(.int 1)]) (lenOf own_pd2 rfl) rfl (by show 2 * 0 + _ ≤ _; exact Nat.le_of_eq rfl) (hb hby yh_17) (fun _ _ => ⟨rfl, zn, (by decide : 0 + 0 ≤ _), (by decide : 0 + 0 ≤ _)⟩)
  dsimp only [Pt.U, Pt.locs, Pt.cells, Pt.slots] at z7 l166 y166 z166 zq zp
  replace z7 := own_sub z7 l166 y166 z166
  obtain ⟨rfl, z1b, zr⟩ := zp
  have z1c := Fr.app z18 z1b
  obtain ⟨cq167, kq167, z1d, z1u, z1e⟩ := isOf hZ zr z4
  obtain ⟨_, _, ⟨z3, L167, z1v, n167⟩, -, z1, ⟨Lc167, zs, l167, y167, z167⟩, zt⟩ := z7.virtualBack hx (y := own_m3) (z := own_m3) hown (mvT hZ (own_W hw 107 rfl)) (mvT hZ (own_W hw 63 rfl)) (notFace_of_selects (args := #[]) (mvT hZ (own_W hw 65 rfl))) (mvT hZ (own_W hw 65 rfl)) (mvT hZ (own_W hw 64 rfl)) (by decide) (backOf (W := 0) (rm17 l Z a0 hw [] h0 n0 p1 A K cs sb157 sa157 kc157 EN OL0 z4 zb z9 za) hZ (own_W hw 66 rfl) (own_W hw 9 rfl) (by decide) (by decide)) z1d z1e (g := (mkF m 25 #[.val (.ref sa157), .val (.long 0), .second, .val (.int 1), .val (.int 48)] [(.int 1), (.ref sa157)])) rfl (by rw [hml]; rfl) (Steps.refl _) (argsL := [(.int 1)]) (rest := []) (lenOf own_pd10 rfl) rfl (by show 2 * 0 + _ ≤ _; exact Nat.le_of_eq rfl) (hb hby yh_25) (fun _ _ => ⟨rfl, zr, (by decide : 0 + 0 ≤ _), (by decide : 0 + 0 ≤ _)⟩)
  dsimp only [Pt.U, Pt.locs, Pt.cells, Pt.slots] at z1 l167 y167 z167 zt zs
  replace z1 := own_sub z1 l167 y167 z167
  obtain ⟨rfl, z1f, zu⟩ := zs
  have z1g := Fr.app z1c z1f
  obtain ⟨cq168, kq168, z1h, z1w, z1i⟩ := isOf hZ zu z4
  obtain ⟨_, _, ⟨zc, L168, z1x, n168⟩, -, z8, ⟨Lc168, zv, l168, y168, z168⟩, zw⟩ := z1.virtualBack hx (y := own_m1) (z := own_m1) hown (mvT hZ (own_W hw 106 rfl)) (mvT hZ (own_W hw 22 rfl)) (notFace_of_selects (args := #[]) (mvT hZ (own_W hw 24 rfl))) (mvT hZ (own_W hw 24 rfl)) (mvT hZ (own_W hw 23 rfl)) (by decide) (backOf (W := 1) (rm2 l Z a0 hw [] h0 n0 p1 A K cs sb157 sa157 kc157 EN OL0 z9 za z4 zb) hZ (own_W hw 25 rfl) (own_W hw 9 rfl) (by decide) (by decide)) z1h z1i (g := (mkF m 17 #[.val (.ref sa157), .val (.long 0), .second, .val (.int 2), .val (.int 48)] [(.ref sa157), (.int 2)])) rfl (by rw [hml]; rfl) (Steps.refl _) (argsL := []) (rest := [(.int 2)]) (lenOf own_pd2 rfl) rfl (by show 2 * 0 + _ ≤ _; exact Nat.le_of_eq rfl) (hb hby yh_17) (fun _ _ => ⟨rfl, zu, (by decide : 0 + 0 ≤ _), (by decide : 0 + 0 ≤ _)⟩)
  dsimp only [Pt.U, Pt.locs, Pt.cells, Pt.slots] at z8 l168 y168 z168 zw zv
  replace z8 := own_sub z8 l168 y168 z168
  obtain ⟨rfl, z1j, z1k⟩ := zv
  have z1l := Fr.app z1g z1j
  obtain ⟨fs, hr, hrun, hended, hW, hsame⟩ := z8.leave (v := some (.long 0)) (fun h => by rw [Bd.returns] at h; cases h)
  refine ⟨_, _, pre0 _ ?_, hrun, hended, _, _, rfl, ?_, ⟨_, rfl⟩, hW, hsame.mono (by decide) (by decide)⟩
  · show own_Y p e below s₁ m 0 #[.val (.ref sa157), .unset, .unset, .unset, .unset] [] _
    refine XS.aloadN X0.here hx rfl (hb hby yh_0) rfl rfl ?_
    refine zf.trans ?_
    show own_Y p e below zd m 4 #[.val (.ref sa157), .unset, .unset, .unset, .unset] [(.int 0)] _
    refine XS.ifYes z5.here hx rfl (pc0 := 4) (pc' := 11) rfl (hb hby yh_4) rfl ((if0 _ _).trans (teq (by decide : (0 : Int32) = (0 : Int32))).1) (by decide) (by decide) ?_
    show own_Y p e below zd m 11 #[.val (.ref sa157), .unset, .unset, .unset, .unset] [] _
    refine XS.lconst z5.here hx rfl (hb hby yh_11) ?_
    refine XS.lstoreN z5.here hx rfl (hb hby yh_12) rfl (l' := #[.val (.ref sa157), .val (.long 0), .second, .unset, .unset]) rfl ?_
    refine XS.iconst z5.here hx rfl (hb hby yh_13) ?_
    refine XS.istoreN z5.here hx rfl (hb hby yh_14) rfl (l' := #[.val (.ref sa157), .val (.long 0), .second, .val (.int 0), .unset]) rfl ?_
    refine XS.iloadN z5.here hx rfl (hb hby yh_15) rfl ?_
    refine XS.aloadN z5.here hx rfl (hb hby yh_16) rfl rfl ?_
    refine zj.trans ?_
    show own_Y p e below zh m 20 #[.val (.ref sa157), .val (.long 0), .second, .val (.int 0), .unset] [(.int 2), (.int 0)] _
    refine XS.icmpNo z6.here hx rfl (hb hby yh_20) rfl (tlt (by decide : (0 : Int32) < (2 : Int32))).2.1 ?_
    show own_Y p e below zh m 23 #[.val (.ref sa157), .val (.long 0), .second, .val (.int 0), .unset] [] _
    refine XS.aloadN z6.here hx rfl (hb hby yh_23) rfl rfl ?_
    refine XS.iloadN z6.here hx rfl (hb hby yh_24) rfl ?_
    refine zm.trans ?_
    show own_Y p e below z2 m 28 #[.val (.ref sa157), .val (.long 0), .second, .val (.int 0), .unset] [(.int 48)] _
    refine XS.istore z0.here hx rfl (hb hby yh_28) rfl (l' := #[.val (.ref sa157), .val (.long 0), .second, .val (.int 0), .val (.int 48)]) rfl ?_
    refine XS.iload z0.here hx rfl (hb hby yh_30) rfl ?_
    refine XS.bipush z0.here hx rfl (hb hby yh_32) ?_
    refine XS.icmpNo z0.here hx rfl (hb hby yh_34) rfl (flt (by decide : ¬ ((48 : Int32) < (48 : Int32)))).1 ?_
    show own_Y p e below z2 m 37 #[.val (.ref sa157), .val (.long 0), .second, .val (.int 0), .val (.int 48)] [] _
    refine XS.iload z0.here hx rfl (hb hby yh_37) rfl ?_
    refine XS.bipush z0.here hx rfl (hb hby yh_39) ?_
    refine XS.icmpYes z0.here hx rfl (pc0 := 41) (pc' := 48) rfl (hb hby yh_41) rfl (flt (by decide : ¬ ((57 : Int32) < (48 : Int32)))).2.2.2 (by decide) (by decide) ?_
    show own_Y p e below z2 m 48 #[.val (.ref sa157), .val (.long 0), .second, .val (.int 0), .val (.int 48)] [] _
    refine XS.lloadN z0.here hx rfl (hb hby yh_48) rfl ?_
    refine z0.ldc2Long hx hown (mvT hZ (own_W hw 108 rfl)) (g := (mkF m 49 #[.val (.ref sa157), .val (.long 0), .second, .val (.int 0), .val (.int 48)] [(.long 0)])) rfl (hb hby yh_49) _ ?_
    show own_Y p e below z2 m 52 #[.val (.ref sa157), .val (.long 0), .second, .val (.int 0), .val (.int 48)] [(.long 2147483647), (.long 0)] _
    refine XS.lcmp z0.here hx rfl (hb hby yh_52) rfl ?_
    show own_Y p e below z2 m 53 #[.val (.ref sa157), .val (.long 0), .second, .val (.int 0), .val (.int 48)] [(.int (-1))] _
    refine XS.ifNo z0.here hx rfl (hb hby yh_53) rfl ((if0 _ _).trans (flt (by decide : ¬ ((0 : Int32) < (-1 : Int32)))).2.2.1) ?_
    show own_Y p e below z2 m 56 #[.val (.ref sa157), .val (.long 0), .second, .val (.int 0), .val (.int 48)] [] _
    refine XS.lloadN z0.here hx rfl (hb hby yh_56) rfl ?_
    refine z0.ldc2Long hx hown (mvT hZ (own_W hw 109 rfl)) (g := (mkF m 57 #[.val (.ref sa157), .val (.long 0), .second, .val (.int 0), .val (.int 48)] [(.long 0)])) rfl (hb hby yh_57) _ ?_
    show own_Y p e below z2 m 60 #[.val (.ref sa157), .val (.long 0), .second, .val (.int 0), .val (.int 48)] [(.long 10), (.long 0)] _
    refine XS.lmul z0.here hx rfl (hb hby yh_60) rfl ?_
    show own_Y p e below z2 m 61 #[.val (.ref sa157), .val (.long 0), .second, .val (.int 0), .val (.int 48)] [(.long 0)] _
    refine XS.iload z0.here hx rfl (hb hby yh_61) rfl ?_
    refine XS.bipush z0.here hx rfl (hb hby yh_63) ?_
    refine XS.isub z0.here hx rfl (hb hby yh_65) rfl ?_
    show own_Y p e below z2 m 66 #[.val (.ref sa157), .val (.long 0), .second, .val (.int 0), .val (.int 48)] [(.int 0), (.long 0)] _
    refine XS.i2l z0.here hx rfl (hb hby yh_66) rfl ?_
    show own_Y p e below z2 m 67 #[.val (.ref sa157), .val (.long 0), .second, .val (.int 0), .val (.int 48)] [(.long 0), (.long 0)] _
    refine XS.ladd z0.here hx rfl (hb hby yh_67) rfl ?_
    show own_Y p e below z2 m 68 #[.val (.ref sa157), .val (.long 0), .second, .val (.int 0), .val (.int 48)] [(.long 0)] _
    refine XS.lstoreN z0.here hx rfl (hb hby yh_68) rfl (l' := #[.val (.ref sa157), .val (.long 0), .second, .val (.int 0), .val (.int 48)]) rfl ?_
    refine XS.iinc z0.here hx rfl (hb hby yh_69) rfl (l' := #[.val (.ref sa157), .val (.long 0), .second, .val (.int 1), .val (.int 48)]) rfl ?_
    show own_Y p e below z2 m 72 #[.val (.ref sa157), .val (.long 0), .second, .val (.int 1), .val (.int 48)] [] _
    refine XS.goto z0.here hx rfl (pc0 := 72) (pc' := 15) rfl (hb hby yh_72) (by decide) (by decide) ?_
    refine XS.iloadN z0.here hx rfl (hb hby yh_15) rfl ?_
    refine XS.aloadN z0.here hx rfl (hb hby yh_16) rfl rfl ?_
    refine zq.trans ?_
    show own_Y p e below zo m 20 #[.val (.ref sa157), .val (.long 0), .second, .val (.int 1), .val (.int 48)] [(.int 2), (.int 1)] _
    refine XS.icmpNo z7.here hx rfl (hb hby yh_20) rfl (tlt (by decide : (1 : Int32) < (2 : Int32))).2.1 ?_
    show own_Y p e below zo m 23 #[.val (.ref sa157), .val (.long 0), .second, .val (.int 1), .val (.int 48)] [] _
    refine XS.aloadN z7.here hx rfl (hb hby yh_23) rfl rfl ?_
    refine XS.iloadN z7.here hx rfl (hb hby yh_24) rfl ?_
    refine zt.trans ?_
    show own_Y p e below z3 m 28 #[.val (.ref sa157), .val (.long 0), .second, .val (.int 1), .val (.int 48)] [(.int 48)] _
    refine XS.istore z1.here hx rfl (hb hby yh_28) rfl (l' := #[.val (.ref sa157), .val (.long 0), .second, .val (.int 1), .val (.int 48)]) rfl ?_
    refine XS.iload z1.here hx rfl (hb hby yh_30) rfl ?_
    refine XS.bipush z1.here hx rfl (hb hby yh_32) ?_
    refine XS.icmpNo z1.here hx rfl (hb hby yh_34) rfl (flt (by decide : ¬ ((48 : Int32) < (48 : Int32)))).1 ?_
    show own_Y p e below z3 m 37 #[.val (.ref sa157), .val (.long 0), .second, .val (.int 1), .val (.int 48)] [] _
    refine XS.iload z1.here hx rfl (hb hby yh_37) rfl ?_
    refine XS.bipush z1.here hx rfl (hb hby yh_39) ?_
    refine XS.icmpYes z1.here hx rfl (pc0 := 41) (pc' := 48) rfl (hb hby yh_41) rfl (flt (by decide : ¬ ((57 : Int32) < (48 : Int32)))).2.2.2 (by decide) (by decide) ?_
    show own_Y p e below z3 m 48 #[.val (.ref sa157), .val (.long 0), .second, .val (.int 1), .val (.int 48)] [] _
    refine XS.lloadN z1.here hx rfl (hb hby yh_48) rfl ?_
    refine z1.ldc2Long hx hown (mvT hZ (own_W hw 108 rfl)) (g := (mkF m 49 #[.val (.ref sa157), .val (.long 0), .second, .val (.int 1), .val (.int 48)] [(.long 0)])) rfl (hb hby yh_49) _ ?_
    show own_Y p e below z3 m 52 #[.val (.ref sa157), .val (.long 0), .second, .val (.int 1), .val (.int 48)] [(.long 2147483647), (.long 0)] _
    refine XS.lcmp z1.here hx rfl (hb hby yh_52) rfl ?_
    show own_Y p e below z3 m 53 #[.val (.ref sa157), .val (.long 0), .second, .val (.int 1), .val (.int 48)] [(.int (-1))] _
    refine XS.ifNo z1.here hx rfl (hb hby yh_53) rfl ((if0 _ _).trans (flt (by decide : ¬ ((0 : Int32) < (-1 : Int32)))).2.2.1) ?_
    show own_Y p e below z3 m 56 #[.val (.ref sa157), .val (.long 0), .second, .val (.int 1), .val (.int 48)] [] _
    refine XS.lloadN z1.here hx rfl (hb hby yh_56) rfl ?_
    refine z1.ldc2Long hx hown (mvT hZ (own_W hw 109 rfl)) (g := (mkF m 57 #[.val (.ref sa157), .val (.long 0), .second, .val (.int 1), .val (.int 48)] [(.long 0)])) rfl (hb hby yh_57) _ ?_
    show own_Y p e below z3 m 60 #[.val (.ref sa157), .val (.long 0), .second, .val (.int 1), .val (.int 48)] [(.long 10), (.long 0)] _
    refine XS.lmul z1.here hx rfl (hb hby yh_60) rfl ?_
    show own_Y p e below z3 m 61 #[.val (.ref sa157), .val (.long 0), .second, .val (.int 1), .val (.int 48)] [(.long 0)] _
    refine XS.iload z1.here hx rfl (hb hby yh_61) rfl ?_
    refine XS.bipush z1.here hx rfl (hb hby yh_63) ?_
    refine XS.isub z1.here hx rfl (hb hby yh_65) rfl ?_
    show own_Y p e below z3 m 66 #[.val (.ref sa157), .val (.long 0), .second, .val (.int 1), .val (.int 48)] [(.int 0), (.long 0)] _
    refine XS.i2l z1.here hx rfl (hb hby yh_66) rfl ?_
    show own_Y p e below z3 m 67 #[.val (.ref sa157), .val (.long 0), .second, .val (.int 1), .val (.int 48)] [(.long 0), (.long 0)] _
    refine XS.ladd z1.here hx rfl (hb hby yh_67) rfl ?_
    show own_Y p e below z3 m 68 #[.val (.ref sa157), .val (.long 0), .second, .val (.int 1), .val (.int 48)] [(.long 0)] _
    refine XS.lstoreN z1.here hx rfl (hb hby yh_68) rfl (l' := #[.val (.ref sa157), .val (.long 0), .second, .val (.int 1), .val (.int 48)]) rfl ?_
    refine XS.iinc z1.here hx rfl (hb hby yh_69) rfl (l' := #[.val (.ref sa157), .val (.long 0), .second, .val (.int 2), .val (.int 48)]) rfl ?_
    show own_Y p e below z3 m 72 #[.val (.ref sa157), .val (.long 0), .second, .val (.int 2), .val (.int 48)] [] _
    refine XS.goto z1.here hx rfl (pc0 := 72) (pc' := 15) rfl (hb hby yh_72) (by decide) (by decide) ?_
    refine XS.iloadN z1.here hx rfl (hb hby yh_15) rfl ?_
    refine XS.aloadN z1.here hx rfl (hb hby yh_16) rfl rfl ?_
    refine zw.trans ?_
    show own_Y p e below zc m 20 #[.val (.ref sa157), .val (.long 0), .second, .val (.int 2), .val (.int 48)] [(.int 2), (.int 2)] _
    refine XS.icmpYes z8.here hx rfl (pc0 := 20) (pc' := 75) rfl (hb hby yh_20) rfl (flt (by decide : ¬ ((2 : Int32) < (2 : Int32)))).2.1 (by decide) (by decide) ?_
    show own_Y p e below zc m 75 #[.val (.ref sa157), .val (.long 0), .second, .val (.int 2), .val (.int 48)] [] _
    refine XS.lloadN z8.here hx rfl (hb hby yh_75) rfl ?_
    exact retOut z8 hx Bd.returns rfl (Or.inr (Or.inl ⟨rfl, rfl, _, rfl⟩)) (hb hby yh_76) hr
  · show PQ (some (.long 0)) h0 n0 _ zc.heap _
    rw [z1k]
    exact ⟨rfl, z1l, rfl⟩
theorem ye_180 : decode prog_40_method_7_code 180 = .ok (.aload_n 1, 1) := by decide +kernel
theorem ye_181 : decode prog_40_method_7_code 181 = .ok (.invokestatic 131, 3) := by decide +kernel
theorem ye_184 : decode prog_40_method_7_code 184 = .ok (.lconst 0, 1) := by decide +kernel
theorem ye_185 : decode prog_40_method_7_code 185 = .ok (.lcmp, 1) := by decide +kernel
theorem ye_186 : decode prog_40_method_7_code 186 = .ok (.ifCond .lt 7, 3) := by decide +kernel
theorem ye_189 : decode prog_40_method_7_code 189 = .ok (.iconst 1, 1) := by decide +kernel
theorem ye_190 : decode prog_40_method_7_code 190 = .ok (.goto 236, 3) := by decide +kernel
theorem rm31 (l : Launch) (Z : State) (a0 : Array Value) (hw : ∀ d ∈ tables_1, d.before a0 Z = true) (ws : List Jvm.Cond) (h0 : Heap) (n0 : Nat) (p1 : Int32) (A : Nat → Addr) (K : Nat → ClassId) (cs : Int32) (ta : Addr) (tj : Int32)  (sb157 : Addr) (sa157 : Addr) (kc157 : ClassId) (EN : own_St Z A K cs) (gE : Exa Z Z.heap ta y_s1) (gF : Fld Z Z.heap ta y_s3 "ordinal" "I" (.int tj)) (gj : tj = (2 : Int32)) (OL0 : Old Z n0 h0) (z5 : Exa Z h0 sa157 y_s2) (z6 : Fld Z h0 sa157 y_s2 "value" "[B" (.ref sb157)) (z7 : Arv Z h0 sb157 kc157 .byte (2 : Int32) [(.int 48), (.int 48)] (.int 0)) (z8 : Fld Z h0 sa157 y_s2 "coder" "B" (.int 0)) :
    own_MF l Z own_m0 prog_40_method_7_code 3 (some .boolean) ws (Room.mk 5 0 0 69) #[(.ref ta), (.ref sa157)] h0 (PQ (some (.int 1)) h0 n0) := by
  refine MetFree.of_bodySF (plainFor_of_name own_pn6) hisR ?_
  intro p e s m args below meth c s₁ Bd hml0 hP hK
  obtain ⟨rfl, hZ, hh⟩ := hP
  have hx := Bd.exec
  have hby := Bd.bytes
  have hml : c.maxLocals = 3 := hml0
  have hown : s.vm.findClass y_s1 = some m.cls := findClass_of_methodNamed Bd.named
  have hnm := (name_of_methodNamed Bd.named Bd.method).1
  have X0 : Stand p l e (Room.mk 5 0 0 69) s m #[(.ref ta), (.ref sa157)] below meth c s₁ [] 0 0 := Stand.of_body Bd
  have e0 : s₁.heap = h0 := by rw [← hh, Bd.state]; rfl
  have N0 := Fr.nil n0
  have pre0 : own_P p e below s₁ m 0 #[.val (.ref ta), .val (.ref sa157), .unset] [] s₁ #[(.ref ta), (.ref sa157)] 3 := fun t k => castTop (by first | (simp [entryFrame, mkF, argsToLocals, Value.category, maxLocals]; done) | rfl) k
  have KK0 : Keep h0 h0 [] := Keep.refl _ _
  obtain ⟨cq158, kq158, zh, zt, zi⟩ := isOf hZ e0 z5
  obtain ⟨_, _, ⟨z9, L158, zu, n158⟩, -, z1, ⟨Lc158, za, l158, y158, z158⟩, zb⟩ := X0.virtualBack hx (y := own_m1) (z := own_m1) hown (mvT hZ (own_W hw 21 rfl)) (mvT hZ (own_W hw 22 rfl)) (notFace_of_selects (args := #[]) (mvT hZ (own_W hw 24 rfl))) (mvT hZ (own_W hw 24 rfl)) (mvT hZ (own_W hw 23 rfl)) (by decide) (backOf (W := 0) (rm2 l Z a0 hw [] h0 n0 p1 A K cs sb157 sa157 kc157 EN OL0 z6 z7 z5 z8) hZ (own_W hw 25 rfl) (own_W hw 9 rfl) (by decide) (by decide)) zh zi (g := (mkF m 1 #[.val (.ref ta), .val (.ref sa157), .unset] [(.ref sa157)])) rfl (by rw [hml]; rfl) (Steps.refl _) (argsL := []) (rest := []) (lenOf own_pd2 rfl) rfl (by show 2 * 0 + _ ≤ _; exact Nat.le_of_eq rfl) (hb hby ye_1) (fun _ _ => ⟨rfl, e0, (by decide : 0 + 0 ≤ _), (by decide : 0 + 0 ≤ _)⟩)
  dsimp only [Pt.U, Pt.locs, Pt.cells, Pt.slots] at z1 l158 y158 z158 zb za
  replace z1 := own_sub z1 l158 y158 z158
  obtain ⟨rfl, zj, zc⟩ := za
  have zk := Fr.app N0 zj
  obtain ⟨cq159, kq159, zl, zv, zm⟩ := isOf hZ zc (gE.ext OL0.2)
  obtain ⟨_, _, ⟨z3, L159, zw, n159⟩, -, z2, ⟨Lc159, zd, l159, y159, z159⟩, ze⟩ := z1.virtualBackUp hx (x := own_m8) (y := own_m7) (owner := y_s3) hown (mvT hZ (own_W hw 34 rfl)) (mvT hZ (own_W hw 35 rfl)) (mvT hZ (own_W hw 36 rfl)) (by decide) (mvT hZ (own_W hw 38 rfl)) (mvT hZ (own_W hw 37 rfl)) (backOf (W := 0) (rm4 l Z a0 hw [] h0 n0 p1 A K cs ta tj EN gE gF OL0) hZ (own_W hw 40 rfl) (own_W hw 39 rfl) (by decide) (by decide)) zl zm (g := (mkF m 12 #[.val (.ref ta), .val (.ref sa157), .val (.int 2)] [(.ref ta)])) rfl (by rw [hml]; rfl) (Steps.refl _) (argsL := []) (rest := []) (lenOf own_pd2 rfl) rfl (by show 2 * 0 + _ ≤ _; exact Nat.le_of_eq rfl) (hb hby ye_12) (fun _ _ => ⟨rfl, zc, (by decide : 0 + 0 ≤ _), (by decide : 0 + 0 ≤ _)⟩)
  dsimp only [Pt.U, Pt.locs, Pt.cells, Pt.slots] at z2 l159 y159 z159 ze zd
  replace z2 := own_sub z2 l159 y159 z159
  obtain ⟨rfl, zn, zo⟩ := zd
  have zp := Fr.app zk zn
  have ts160 : ∀ t, Steps p.tables e below (z3.setTop (mkF m 180 #[.val (.ref ta), .val (.ref sa157), .val (.int 2)] [])) t → Steps p.tables e below (z3.setTop (mkF m 15 #[.val (.ref ta), .val (.ref sa157), .val (.int 2)] [(.int tj)])) t := by
    intro t k
    rcases gj with rfl <;> exact XS.tswIn z2.here hx rfl (pc0 := 15) (pc' := 180) rfl (hb hby ye_15) rfl (by decide) (o := 165) (by decide) (by decide) (by decide) k
  obtain ⟨_, _, ⟨z4, L169, zx, n169⟩, -, z0, ⟨Lc169, zf, l169, y169, z169⟩, zg⟩ := Jvm.LawKit.callS z2 hx (y := own_m22) hown (mvT hZ (own_W hw 97 rfl)) (mvT hZ (own_W hw 98 rfl)) (mvT hZ (own_W hw 99 rfl)) (mvT hZ (own_W hw 100 rfl)) (by decide) (backOf (W := 0) (rm32 l Z a0 hw [] h0 n0 p1 A K cs sb157 sa157 kc157 EN OL0 z5 z6 z7 z8) hZ (own_W hw 100 rfl) (own_W hw 99 rfl) (by decide) (by decide)) (g := (mkF m 181 #[.val (.ref ta), .val (.ref sa157), .val (.int 2)] [(.ref sa157)])) rfl (by rw [hml]; rfl) (argsL := [(.ref sa157)]) (rest := []) (lenOf own_pd13 rfl) rfl (by show 2 * 0 + _ ≤ _; exact Nat.le_of_eq rfl) (hb hby ye_181) (fun _ _ => ⟨rfl, zo, (by decide : 0 + 0 ≤ _), (by decide : 0 + 0 ≤ _)⟩)
  dsimp only [Pt.U, Pt.locs, Pt.cells, Pt.slots] at z0 l169 y169 z169 zg zf
  replace z0 := own_sub z0 l169 y169 z169
  obtain ⟨rfl, zq, zr⟩ := zf
  have zs := Fr.app zp zq
  obtain ⟨fs, hr, hrun, hended, hW, hsame⟩ := z0.leave (v := some (.int 1)) (fun h => by rw [Bd.returns] at h; cases h)
  refine ⟨_, _, pre0 _ ?_, hrun, hended, _, _, rfl, ?_, ⟨_, rfl⟩, hW, hsame.mono (by decide) (by decide)⟩
  · show own_Y p e below s₁ m 0 #[.val (.ref ta), .val (.ref sa157), .unset] [] _
    refine XS.aloadN X0.here hx rfl (hb hby ye_0) rfl rfl ?_
    refine zb.trans ?_
    show own_Y p e below z9 m 4 #[.val (.ref ta), .val (.ref sa157), .unset] [(.int 2)] _
    refine XS.istoreN z1.here hx rfl (hb hby ye_4) rfl (l' := #[.val (.ref ta), .val (.ref sa157), .val (.int 2)]) rfl ?_
    refine XS.iloadN z1.here hx rfl (hb hby ye_5) rfl ?_
    refine XS.ifYes z1.here hx rfl (pc0 := 6) (pc' := 11) rfl (hb hby ye_6) rfl ((if0 _ _).trans (feq (by decide : ¬ ((2 : Int32) = (0 : Int32)))).2) (by decide) (by decide) ?_
    show own_Y p e below z9 m 11 #[.val (.ref ta), .val (.ref sa157), .val (.int 2)] [] _
    refine XS.aloadN z1.here hx rfl (hb hby ye_11) rfl rfl ?_
    refine ze.trans ?_
    show own_Y p e below z3 m 15 #[.val (.ref ta), .val (.ref sa157), .val (.int 2)] [(.int tj)] _
    refine ts160 _ ?_
    show own_Y p e below z3 m 180 #[.val (.ref ta), .val (.ref sa157), .val (.int 2)] [] _
    refine XS.aloadN z2.here hx rfl (hb hby ye_180) rfl rfl ?_
    refine zg _ ?_
    show own_Y p e below z4 m 184 #[.val (.ref ta), .val (.ref sa157), .val (.int 2)] [(.long 0)] _
    refine XS.lconst z0.here hx rfl (hb hby ye_184) ?_
    refine XS.lcmp z0.here hx rfl (hb hby ye_185) rfl ?_
    show own_Y p e below z4 m 186 #[.val (.ref ta), .val (.ref sa157), .val (.int 2)] [(.int 0)] _
    refine XS.ifNo z0.here hx rfl (hb hby ye_186) rfl ((if0 _ _).trans (flt (by decide : ¬ ((0 : Int32) < (0 : Int32)))).1) ?_
    show own_Y p e below z4 m 189 #[.val (.ref ta), .val (.ref sa157), .val (.int 2)] [] _
    refine XS.iconst z0.here hx rfl (hb hby ye_189) ?_
    refine XS.goto z0.here hx rfl (pc0 := 190) (pc' := 426) rfl (hb hby ye_190) (by decide) (by decide) ?_
    exact retN z0 hx (t := .boolean) Bd.returns (by simp) (hb hby ye_426) hr
  · show PQ (some (.int 1)) h0 n0 _ z4.heap _
    rw [zr]
    exact ⟨rfl, zs, rfl⟩
theorem rm36 (l : Launch) (Z : State) (a0 : Array Value) (hw : ∀ d ∈ tables_1, d.before a0 Z = true) (ws : List Jvm.Cond) (h0 : Heap) (n0 : Nat) (p1 : Int32) (A : Nat → Addr) (K : Nat → ClassId) (cs : Int32)  (sb172 : Addr) (sa172 : Addr) (kc172 : ClassId) (EN : own_St Z A K cs) (OL0 : Old Z n0 h0) (z4 : Fld Z h0 sa172 y_s2 "value" "[B" (.ref sb172)) (z5 : Arv Z h0 sb172 kc172 .byte (2 : Int32) [(.int 45), (.int 48)] (.int 0)) :
    own_MF l Z own_m19 jdk_42_method_55_code 1 (some .boolean) ws (Room.mk 0 0 0 0) #[(.ref sa172)] h0 (PQ (some (.int 0)) h0 n0) := by
  refine MetFree.of_bodySF (plainFor_of_name own_pn1) hisR ?_
  intro p e s m args below meth c s₁ Bd hml0 hP hK
  obtain ⟨rfl, hZ, hh⟩ := hP
  have hx := Bd.exec
  have hby := Bd.bytes
  have hml : c.maxLocals = 1 := hml0
  have hown : s.vm.findClass y_s2 = some m.cls := findClass_of_methodNamed Bd.named
  have hnm := (name_of_methodNamed Bd.named Bd.method).1
  have X0 : Stand p l e (Room.mk 0 0 0 0) s m #[(.ref sa172)] below meth c s₁ [] 0 0 := Stand.of_body Bd
  have e0 : s₁.heap = h0 := by rw [← hh, Bd.state]; rfl
  have N0 := Fr.nil n0
  have pre0 : own_P p e below s₁ m 0 #[.val (.ref sa172)] [] s₁ #[(.ref sa172)] 1 := fun t k => castTop (by first | (simp [entryFrame, mkF, argsToLocals, Value.category, maxLocals]; done) | rfl) k
  have KK0 : Keep h0 h0 [] := Keep.refl _ _
  obtain ⟨z1, z0, z2, z6⟩ := getF X0 hx hZ hown (host := "") (Or.inl (own_W hw 26 rfl)) Via.refl e0 z4 (g := (mkF m 1 #[.val (.ref sa172)] [(.ref sa172)])) rfl rfl (hb hby yg_1)
  obtain ⟨z9, z3, -, z7, z8, -, -⟩ := (id z5)
  obtain ⟨fs, hr, hrun, hended, hW, hsame⟩ := z0.leave (v := some (.int 0)) (fun h => by rw [Bd.returns] at h; cases h)
  refine ⟨_, _, pre0 _ ?_, hrun, hended, _, _, rfl, ?_, ⟨_, rfl⟩, hW, hsame.mono (by decide) (by decide)⟩
  · show own_Y p e below s₁ m 0 #[.val (.ref sa172)] [] _
    refine XS.aloadN X0.here hx rfl (hb hby yg_0) rfl rfl ?_
    refine z6 _ ?_
    show own_Y p e below z1 m 4 #[.val (.ref sa172)] [(.ref sb172)] _
    refine z0.arraylength hx (by rw [z2]; exact z3.1) (State.isArrayOf_alike hZ.alike z3.2.1) (g := (mkF m 4 #[.val (.ref sa172)] [(.ref sb172)])) rfl rfl (hb hby yg_4) _ ?_
    rw [len_of z7 z8]
    show own_Y p e below z1 m 5 #[.val (.ref sa172)] [(.int 2)] _
    refine XS.ifYes z0.here hx rfl (pc0 := 5) (pc' := 12) rfl (hb hby yg_5) rfl ((if0 _ _).trans (feq (by decide : ¬ ((2 : Int32) = (0 : Int32)))).2) (by decide) (by decide) ?_
    show own_Y p e below z1 m 12 #[.val (.ref sa172)] [] _
    refine XS.iconst z0.here hx rfl (hb hby yg_12) ?_
    exact retN z0 hx (t := .boolean) Bd.returns (by simp) (hb hby yg_13) hr
  · show PQ (some (.int 0)) h0 n0 _ z1.heap _
    rw [z2]
    exact ⟨rfl, N0, rfl⟩
theorem rm38 (l : Launch) (Z : State) (a0 : Array Value) (hw : ∀ d ∈ tables_1, d.before a0 Z = true) (ws : List Jvm.Cond) (h0 : Heap) (n0 : Nat) (p1 : Int32) (A : Nat → Addr) (K : Nat → ClassId) (cs : Int32)  (sb172 : Addr) (kc172 : ClassId) (EN : own_St Z A K cs) (OL0 : Old Z n0 h0) (z3 : Arv Z h0 sb172 kc172 .byte (2 : Int32) [(.int 45), (.int 48)] (.int 0)) :
    own_MF l Z own_m13 jdk_43_method_2_code 2 (some .char) ws (Room.mk 2 0 0 27) #[(.ref sb172), (.int 0)] h0 (PQ (some (.int 45)) h0 n0) := by
  refine MetFree.of_bodySF (plainFor_of_name own_pn5) hisR ?_
  intro p e s m args below meth c s₁ Bd hml0 hP hK
  obtain ⟨rfl, hZ, hh⟩ := hP
  have hx := Bd.exec
  have hby := Bd.bytes
  have hml : c.maxLocals = 2 := hml0
  have hown : s.vm.findClass "java/lang/StringLatin1" = some m.cls := findClass_of_methodNamed Bd.named
  have hnm := (name_of_methodNamed Bd.named Bd.method).1
  have X0 : Stand p l e (Room.mk 2 0 0 27) s m #[(.ref sb172), (.int 0)] below meth c s₁ [] 0 0 := Stand.of_body Bd
  have e0 : s₁.heap = h0 := by rw [← hh, Bd.state]; rfl
  have N0 := Fr.nil n0
  have pre0 : own_P p e below s₁ m 0 #[.val (.ref sb172), .val (.int 0)] [] s₁ #[(.ref sb172), (.int 0)] 2 := fun t k => castTop (by first | (simp [entryFrame, mkF, argsToLocals, Value.category, maxLocals]; done) | rfl) k
  have KK0 : Keep h0 h0 [] := Keep.refl _ _
  obtain ⟨zh, z4, -, za, zb, -, -⟩ := (id z3)
  obtain ⟨_, _, ⟨z1, L183, zi, n183⟩, -, z0, ⟨Lc183, z5, l183, y183, z183⟩, z6⟩ := Jvm.LawKit.callS X0 hx (y := own_m17) hown (mvT hZ (own_W hw 76 rfl)) (mvT hZ (own_W hw 77 rfl)) (mvT hZ (own_W hw 9 rfl)) (mvT hZ (own_W hw 78 rfl)) (by decide) (backOf (W := 0) (rm13 l Z a0 hw [] h0 n0 p1 A K cs EN OL0) hZ (own_W hw 78 rfl) (own_W hw 9 rfl) (by decide) (by decide)) (g := (mkF m 3 #[.val (.ref sb172), .val (.int 0)] [(.int 2), (.int 0)])) rfl (by rw [hml]; rfl) (argsL := [(.int 0), (.int 2)]) (rest := []) (lenOf own_pd8 rfl) rfl (by show 2 * 0 + _ ≤ _; exact Nat.le_of_eq rfl) (hb hby ya_3) (fun _ _ => ⟨rfl, e0, (by decide : 0 + 0 ≤ _), (by decide : 0 + 0 ≤ _)⟩)
  dsimp only [Pt.U, Pt.locs, Pt.cells, Pt.slots] at z0 l183 y183 z183 z6 z5
  replace z0 := own_sub z0 l183 y183 z183
  obtain ⟨rfl, zc, z7⟩ := z5
  have zd := Fr.app N0 zc
  obtain ⟨z8, z2, zj, ze, zk, zf, zl⟩ := (id z3)
  have z9 : ¬ ((0 : Int32) < 0 ∨ z8.slots.size ≤ ((0 : Int32)).toNatClampNeg) := inb_of ze ⟨by decide, by decide⟩
  have zg : z8.slots[((0 : Int32)).toNatClampNeg]? = some (.int 45) := Has.at zf z9 rfl
  obtain ⟨fs, hr, hrun, hended, hW, hsame⟩ := z0.leave (v := some (.int 45)) (fun h => by rw [Bd.returns] at h; cases h)
  refine ⟨_, _, pre0 _ ?_, hrun, hended, _, _, rfl, ?_, ⟨_, rfl⟩, hW, hsame.mono (by decide) (by decide)⟩
  · show own_Y p e below s₁ m 0 #[.val (.ref sb172), .val (.int 0)] [] _
    refine XS.iloadN X0.here hx rfl (hb hby ya_0) rfl ?_
    refine XS.aloadN X0.here hx rfl (hb hby ya_1) rfl rfl ?_
    refine X0.arraylength hx (by rw [e0]; exact z4.1) (State.isArrayOf_alike hZ.alike z4.2.1) (g := (mkF m 2 #[.val (.ref sb172), .val (.int 0)] [(.ref sb172), (.int 0)])) rfl rfl (hb hby ya_2) _ ?_
    rw [len_of za zb]
    show own_Y p e below s₁ m 3 #[.val (.ref sb172), .val (.int 0)] [(.int 2), (.int 0)] _
    refine z6 _ ?_
    show own_Y p e below z1 m 6 #[.val (.ref sb172), .val (.int 0)] [] _
    refine XS.aloadN z0.here hx rfl (hb hby ya_6) rfl rfl ?_
    refine XS.iloadN z0.here hx rfl (hb hby ya_7) rfl ?_
    refine z0.baloadBytes hx (j := (0 : Int32)) (v := (.int 45)) (by rw [z7]; exact z2.1) (State.isArrayOf_alike hZ.alike z2.2.1) z2.2.2 z9 zg (g := (mkF m 8 #[.val (.ref sb172), .val (.int 0)] [(.int 0), (.ref sb172)])) rfl rfl (hb hby ya_8) _ ?_
    show own_Y p e below z1 m 9 #[.val (.ref sb172), .val (.int 0)] [(.int 45)] _
    refine XS.sipush z0.here hx rfl (hb hby ya_9) ?_
    refine XS.iand z0.here hx rfl (hb hby ya_12) rfl ?_
    show own_Y p e below z1 m 13 #[.val (.ref sb172), .val (.int 0)] [(.int 45)] _
    refine XS.i2c z0.here hx rfl (hb hby ya_13) rfl ?_
    show own_Y p e below z1 m 14 #[.val (.ref sb172), .val (.int 0)] [(.int 45)] _
    exact retN z0 hx (t := .char) Bd.returns (by simp) (hb hby ya_14) hr
  · show PQ (some (.int 45)) h0 n0 _ z1.heap _
    rw [z7]
    exact ⟨rfl, zd, rfl⟩
theorem rm37 (l : Launch) (Z : State) (a0 : Array Value) (hw : ∀ d ∈ tables_1, d.before a0 Z = true) (ws : List Jvm.Cond) (h0 : Heap) (n0 : Nat) (p1 : Int32) (A : Nat → Addr) (K : Nat → ClassId) (cs : Int32)  (sb172 : Addr) (sa172 : Addr) (kc172 : ClassId) (EN : own_St Z A K cs) (OL0 : Old Z n0 h0) (z9 : Exa Z h0 sa172 y_s2) (za : Fld Z h0 sa172 y_s2 "coder" "B" (.int 0)) (zb : Fld Z h0 sa172 y_s2 "value" "[B" (.ref sb172)) (zc : Arv Z h0 sb172 kc172 .byte (2 : Int32) [(.int 45), (.int 48)] (.int 0)) :
    own_MF l Z own_m3 jdk_42_method_56_code 2 (some .char) ws (Room.mk 3 0 0 40) #[(.ref sa172), (.int 0)] h0 (PQ (some (.int 45)) h0 n0) := by
  refine MetFree.of_bodySF (plainFor_of_name own_pn1) hisR ?_
  intro p e s m args below meth c s₁ Bd hml0 hP hK
  obtain ⟨rfl, hZ, hh⟩ := hP
  have hx := Bd.exec
  have hby := Bd.bytes
  have hml : c.maxLocals = 2 := hml0
  have hown : s.vm.findClass y_s2 = some m.cls := findClass_of_methodNamed Bd.named
  have hnm := (name_of_methodNamed Bd.named Bd.method).1
  have X0 : Stand p l e (Room.mk 3 0 0 40) s m #[(.ref sa172), (.int 0)] below meth c s₁ [] 0 0 := Stand.of_body Bd
  have e0 : s₁.heap = h0 := by rw [← hh, Bd.state]; rfl
  have N0 := Fr.nil n0
  have pre0 : own_P p e below s₁ m 0 #[.val (.ref sa172), .val (.int 0)] [] s₁ #[(.ref sa172), (.int 0)] 2 := fun t k => castTop (by first | (simp [entryFrame, mkF, argsToLocals, Value.category, maxLocals]; done) | rfl) k
  have KK0 : Keep h0 h0 [] := Keep.refl _ _
  obtain ⟨cq180, kq180, zd, zo, ze⟩ := isOf hZ e0 z9
  obtain ⟨_, _, ⟨z2, L180, zp, n180⟩, -, z0, ⟨Lc180, z3, l180, y180, z180⟩, z4⟩ := X0.virtualBack hx (y := own_m15) (z := own_m15) hown (mvT hZ (own_W hw 67 rfl)) (mvT hZ (own_W hw 68 rfl)) (notFace_of_selects (args := #[]) (mvT hZ (own_W hw 70 rfl))) (mvT hZ (own_W hw 70 rfl)) (mvT hZ (own_W hw 69 rfl)) (by decide) (backOf (W := 0) (rm11 l Z a0 hw [] h0 n0 p1 A K cs sa172 EN OL0 za) hZ (own_W hw 71 rfl) (own_W hw 9 rfl) (by decide) (by decide)) zd ze (g := (mkF m 1 #[.val (.ref sa172), .val (.int 0)] [(.ref sa172)])) rfl (by rw [hml]; rfl) (Steps.refl _) (argsL := []) (rest := []) (lenOf own_pd6 rfl) rfl (by show 2 * 0 + _ ≤ _; exact Nat.le_of_eq rfl) (hb hby yb_1) (fun _ _ => ⟨rfl, e0, (by decide : 0 + 0 ≤ _), (by decide : 0 + 0 ≤ _)⟩)
  dsimp only [Pt.U, Pt.locs, Pt.cells, Pt.slots] at z0 l180 y180 z180 z4 z3
  replace z0 := own_sub z0 l180 y180 z180
  obtain ⟨rfl, zf, zg⟩ := z3
  have zh := Fr.app N0 zf
  obtain ⟨zi, z5, zj, zk⟩ := getF z0 hx hZ hown (host := "") (Or.inl (own_W hw 26 rfl)) Via.refl zg zb (g := (mkF m 8 #[.val (.ref sa172), .val (.int 0)] [(.ref sa172)])) rfl rfl (hb hby yb_8)
  obtain ⟨_, _, ⟨z6, L185, zq, n185⟩, -, z1, ⟨Lc185, z7, l185, y185, z185⟩, z8⟩ := Jvm.LawKit.callS z5 hx (y := own_m13) hown (mvT hZ (own_W hw 72 rfl)) (mvT hZ (own_W hw 73 rfl)) (mvT hZ (own_W hw 74 rfl)) (mvT hZ (own_W hw 75 rfl)) (by decide) (backOf (W := 0) (rm38 l Z a0 hw [] h0 n0 p1 A K cs sb172 kc172 EN OL0 zc) hZ (own_W hw 75 rfl) (own_W hw 74 rfl) (by decide) (by decide)) (g := (mkF m 12 #[.val (.ref sa172), .val (.int 0)] [(.int 0), (.ref sb172)])) rfl (by rw [hml]; rfl) (argsL := [(.ref sb172), (.int 0)]) (rest := []) (lenOf own_pd9 rfl) rfl (by show 2 * 0 + _ ≤ _; exact Nat.le_of_eq rfl) (hb hby yb_12) (fun _ _ => ⟨rfl, zj, (by decide : 0 + 0 ≤ _), (by decide : 0 + 0 ≤ _)⟩)
  dsimp only [Pt.U, Pt.locs, Pt.cells, Pt.slots] at z1 l185 y185 z185 z8 z7
  replace z1 := own_sub z1 l185 y185 z185
  obtain ⟨rfl, zl, zm⟩ := z7
  have zn := Fr.app zh zl
  obtain ⟨fs, hr, hrun, hended, hW, hsame⟩ := z1.leave (v := some (.int 45)) (fun h => by rw [Bd.returns] at h; cases h)
  refine ⟨_, _, pre0 _ ?_, hrun, hended, _, _, rfl, ?_, ⟨_, rfl⟩, hW, hsame.mono (by decide) (by decide)⟩
  · show own_Y p e below s₁ m 0 #[.val (.ref sa172), .val (.int 0)] [] _
    refine XS.aloadN X0.here hx rfl (hb hby yb_0) rfl rfl ?_
    refine z4.trans ?_
    show own_Y p e below z2 m 4 #[.val (.ref sa172), .val (.int 0)] [(.int 1)] _
    refine XS.ifNo z0.here hx rfl (hb hby yb_4) rfl ((if0 _ _).trans (feq (by decide : ¬ ((1 : Int32) = (0 : Int32)))).1) ?_
    show own_Y p e below z2 m 7 #[.val (.ref sa172), .val (.int 0)] [] _
    refine XS.aloadN z0.here hx rfl (hb hby yb_7) rfl rfl ?_
    refine zk _ ?_
    show own_Y p e below zi m 11 #[.val (.ref sa172), .val (.int 0)] [(.ref sb172)] _
    refine XS.iloadN z5.here hx rfl (hb hby yb_11) rfl ?_
    refine z8 _ ?_
    show own_Y p e below z6 m 15 #[.val (.ref sa172), .val (.int 0)] [(.int 45)] _
    exact retN z1 hx (t := .char) Bd.returns (by simp) (hb hby yb_15) hr
  · show PQ (some (.int 45)) h0 n0 _ z6.heap _
    rw [zm]
    exact ⟨rfl, zn, rfl⟩
theorem yh_44 : decode prog_63_method_4_code 44 = .ok (.ldc2_w 37, 3) := by decide +kernel
theorem yh_47 : decode prog_63_method_4_code 47 = .ok (.lreturn, 1) := by decide +kernel
theorem rm35 (l : Launch) (Z : State) (a0 : Array Value) (hw : ∀ d ∈ tables_1, d.before a0 Z = true) (ws : List Jvm.Cond) (h0 : Heap) (n0 : Nat) (p1 : Int32) (A : Nat → Addr) (K : Nat → ClassId) (cs : Int32)  (sb172 : Addr) (sa172 : Addr) (kc172 : ClassId) (EN : own_St Z A K cs) (OL0 : Old Z n0 h0) (z3 : Exa Z h0 sa172 y_s2) (z5 : Fld Z h0 sa172 y_s2 "value" "[B" (.ref sb172)) (z6 : Arv Z h0 sb172 kc172 .byte (2 : Int32) [(.int 45), (.int 48)] (.int 0)) (z7 : Fld Z h0 sa172 y_s2 "coder" "B" (.int 0)) :
    own_MF l Z own_m22 prog_63_method_4_code 5 (some .long) ws (Room.mk 4 0 0 53) #[(.ref sa172)] h0 (PQ (some (.long (-1 : Int64))) h0 n0) := by
  refine MetFree.of_bodySF (plainFor_of_name own_pn7) hisR ?_
  intro p e s m args below meth c s₁ Bd hml0 hP hK
  obtain ⟨rfl, hZ, hh⟩ := hP
  have hx := Bd.exec
  have hby := Bd.bytes
  have hml : c.maxLocals = 5 := hml0
  have hown : s.vm.findClass "com/example/tallywire/tallywire/wire/TagValue" = some m.cls := findClass_of_methodNamed Bd.named
  have hnm := (name_of_methodNamed Bd.named Bd.method).1
  have X0 : Stand p l e (Room.mk 4 0 0 53) s m #[(.ref sa172)] below meth c s₁ [] 0 0 := Stand.of_body Bd
  have e0 : s₁.heap = h0 := by rw [← hh, Bd.state]; rfl
  have N0 := Fr.nil n0
  have pre0 : own_P p e below s₁ m 0 #[.val (.ref sa172), .unset, .unset, .unset, .unset] [] s₁ #[(.ref sa172)] 5 := fun t k => castTop (by first | (simp [entryFrame, mkF, argsToLocals, Value.category, maxLocals]; done) | rfl) k
  have KK0 : Keep h0 h0 [] := Keep.refl _ _
  obtain ⟨cq178, kq178, zi, zv, zj⟩ := isOf hZ e0 z3
  obtain ⟨_, _, ⟨z8, L178, zw, n178⟩, -, z0, ⟨Lc178, z9, l178, y178, z178⟩, za⟩ := X0.virtualBack hx (y := own_m19) (z := own_m19) hown (mvT hZ (own_W hw 101 rfl)) (mvT hZ (own_W hw 102 rfl)) (notFace_of_selects (args := #[]) (mvT hZ (own_W hw 104 rfl))) (mvT hZ (own_W hw 104 rfl)) (mvT hZ (own_W hw 103 rfl)) (by decide) (backOf (W := 0) (rm36 l Z a0 hw [] h0 n0 p1 A K cs sb172 sa172 kc172 EN OL0 z5 z6) hZ (own_W hw 105 rfl) (own_W hw 9 rfl) (by decide) (by decide)) zi zj (g := (mkF m 1 #[.val (.ref sa172), .unset, .unset, .unset, .unset] [(.ref sa172)])) rfl (by rw [hml]; rfl) (Steps.refl _) (argsL := []) (rest := []) (lenOf own_pd6 rfl) rfl (by show 2 * 0 + _ ≤ _; exact Nat.le_of_eq rfl) (hb hby yh_1) (fun _ _ => ⟨rfl, e0, (by decide : 0 + 0 ≤ _), (by decide : 0 + 0 ≤ _)⟩)
  dsimp only [Pt.U, Pt.locs, Pt.cells, Pt.slots] at z0 l178 y178 z178 za z9
  replace z0 := own_sub z0 l178 y178 z178
  obtain ⟨rfl, zk, zb⟩ := z9
  have zl := Fr.app N0 zk
  obtain ⟨cq179, kq179, zm, zx, zn⟩ := isOf hZ zb z3
  obtain ⟨_, _, ⟨zc, L179, zy, n179⟩, -, z2, ⟨Lc179, zd, l179, y179, z179⟩, ze⟩ := z0.virtualBack hx (y := own_m1) (z := own_m1) hown (mvT hZ (own_W hw 106 rfl)) (mvT hZ (own_W hw 22 rfl)) (notFace_of_selects (args := #[]) (mvT hZ (own_W hw 24 rfl))) (mvT hZ (own_W hw 24 rfl)) (mvT hZ (own_W hw 23 rfl)) (by decide) (backOf (W := 1) (rm23 l Z a0 hw [] h0 n0 p1 A K cs sb172 sa172 kc172 EN OL0 z5 z6 z3 z7) hZ (own_W hw 25 rfl) (own_W hw 9 rfl) (by decide) (by decide)) zm zn (g := (mkF m 17 #[.val (.ref sa172), .val (.long 0), .second, .val (.int 0), .unset] [(.ref sa172), (.int 0)])) rfl (by rw [hml]; rfl) (Steps.refl _) (argsL := []) (rest := [(.int 0)]) (lenOf own_pd2 rfl) rfl (by show 2 * 0 + _ ≤ _; exact Nat.le_of_eq rfl) (hb hby yh_17) (fun _ _ => ⟨rfl, zb, (by decide : 0 + 0 ≤ _), (by decide : 0 + 0 ≤ _)⟩)
  dsimp only [Pt.U, Pt.locs, Pt.cells, Pt.slots] at z2 l179 y179 z179 ze zd
  replace z2 := own_sub z2 l179 y179 z179
  obtain ⟨rfl, zo, zf⟩ := zd
  have zp := Fr.app zl zo
  obtain ⟨cq186, kq186, zq, zz, zr⟩ := isOf hZ zf z3
  obtain ⟨_, _, ⟨z4, L186, z10, n186⟩, -, z1, ⟨Lc186, zg, l186, y186, z186⟩, zh⟩ := z2.virtualBack hx (y := own_m3) (z := own_m3) hown (mvT hZ (own_W hw 107 rfl)) (mvT hZ (own_W hw 63 rfl)) (notFace_of_selects (args := #[]) (mvT hZ (own_W hw 65 rfl))) (mvT hZ (own_W hw 65 rfl)) (mvT hZ (own_W hw 64 rfl)) (by decide) (backOf (W := 0) (rm37 l Z a0 hw [] h0 n0 p1 A K cs sb172 sa172 kc172 EN OL0 z3 z7 z5 z6) hZ (own_W hw 66 rfl) (own_W hw 9 rfl) (by decide) (by decide)) zq zr (g := (mkF m 25 #[.val (.ref sa172), .val (.long 0), .second, .val (.int 0), .unset] [(.int 0), (.ref sa172)])) rfl (by rw [hml]; rfl) (Steps.refl _) (argsL := [(.int 0)]) (rest := []) (lenOf own_pd10 rfl) rfl (by show 2 * 0 + _ ≤ _; exact Nat.le_of_eq rfl) (hb hby yh_25) (fun _ _ => ⟨rfl, zf, (by decide : 0 + 0 ≤ _), (by decide : 0 + 0 ≤ _)⟩)
  dsimp only [Pt.U, Pt.locs, Pt.cells, Pt.slots] at z1 l186 y186 z186 zh zg
  replace z1 := own_sub z1 l186 y186 z186
  obtain ⟨rfl, zs, zt⟩ := zg
  have zu := Fr.app zp zs
  obtain ⟨fs, hr, hrun, hended, hW, hsame⟩ := z1.leave (v := some (.long (-1 : Int64))) (fun h => by rw [Bd.returns] at h; cases h)
  refine ⟨_, _, pre0 _ ?_, hrun, hended, _, _, rfl, ?_, ⟨_, rfl⟩, hW, hsame.mono (by decide) (by decide)⟩
  · show own_Y p e below s₁ m 0 #[.val (.ref sa172), .unset, .unset, .unset, .unset] [] _
    refine XS.aloadN X0.here hx rfl (hb hby yh_0) rfl rfl ?_
    refine za.trans ?_
    show own_Y p e below z8 m 4 #[.val (.ref sa172), .unset, .unset, .unset, .unset] [(.int 0)] _
    refine XS.ifYes z0.here hx rfl (pc0 := 4) (pc' := 11) rfl (hb hby yh_4) rfl ((if0 _ _).trans (teq (by decide : (0 : Int32) = (0 : Int32))).1) (by decide) (by decide) ?_
    show own_Y p e below z8 m 11 #[.val (.ref sa172), .unset, .unset, .unset, .unset] [] _
    refine XS.lconst z0.here hx rfl (hb hby yh_11) ?_
    refine XS.lstoreN z0.here hx rfl (hb hby yh_12) rfl (l' := #[.val (.ref sa172), .val (.long 0), .second, .unset, .unset]) rfl ?_
    refine XS.iconst z0.here hx rfl (hb hby yh_13) ?_
    refine XS.istoreN z0.here hx rfl (hb hby yh_14) rfl (l' := #[.val (.ref sa172), .val (.long 0), .second, .val (.int 0), .unset]) rfl ?_
    refine XS.iloadN z0.here hx rfl (hb hby yh_15) rfl ?_
    refine XS.aloadN z0.here hx rfl (hb hby yh_16) rfl rfl ?_
    refine ze.trans ?_
    show own_Y p e below zc m 20 #[.val (.ref sa172), .val (.long 0), .second, .val (.int 0), .unset] [(.int 2), (.int 0)] _
    refine XS.icmpNo z2.here hx rfl (hb hby yh_20) rfl (tlt (by decide : (0 : Int32) < (2 : Int32))).2.1 ?_
    show own_Y p e below zc m 23 #[.val (.ref sa172), .val (.long 0), .second, .val (.int 0), .unset] [] _
    refine XS.aloadN z2.here hx rfl (hb hby yh_23) rfl rfl ?_
    refine XS.iloadN z2.here hx rfl (hb hby yh_24) rfl ?_
    refine zh.trans ?_
    show own_Y p e below z4 m 28 #[.val (.ref sa172), .val (.long 0), .second, .val (.int 0), .unset] [(.int 45)] _
    refine XS.istore z1.here hx rfl (hb hby yh_28) rfl (l' := #[.val (.ref sa172), .val (.long 0), .second, .val (.int 0), .val (.int 45)]) rfl ?_
    refine XS.iload z1.here hx rfl (hb hby yh_30) rfl ?_
    refine XS.bipush z1.here hx rfl (hb hby yh_32) ?_
    refine XS.icmpYes z1.here hx rfl (pc0 := 34) (pc' := 44) rfl (hb hby yh_34) rfl (tlt (by decide : (45 : Int32) < (48 : Int32))).1 (by decide) (by decide) ?_
    show own_Y p e below z4 m 44 #[.val (.ref sa172), .val (.long 0), .second, .val (.int 0), .val (.int 45)] [] _
    refine z1.ldc2Long hx hown (mvT hZ (own_W hw 125 rfl)) (g := (mkF m 44 #[.val (.ref sa172), .val (.long 0), .second, .val (.int 0), .val (.int 45)] [])) rfl (hb hby yh_44) _ ?_
    show own_Y p e below z4 m 47 #[.val (.ref sa172), .val (.long 0), .second, .val (.int 0), .val (.int 45)] [(.long (-1 : Int64))] _
    exact retOut z1 hx Bd.returns rfl (Or.inr (Or.inl ⟨rfl, rfl, _, rfl⟩)) (hb hby yh_47) hr
  · show PQ (some (.long (-1 : Int64))) h0 n0 _ z4.heap _
    rw [zt]
    exact ⟨rfl, zu, rfl⟩
theorem ye_193 : decode prog_40_method_7_code 193 = .ok (.iconst 0, 1) := by decide +kernel
theorem ye_194 : decode prog_40_method_7_code 194 = .ok (.goto 232, 3) := by decide +kernel
theorem rm34 (l : Launch) (Z : State) (a0 : Array Value) (hw : ∀ d ∈ tables_1, d.before a0 Z = true) (ws : List Jvm.Cond) (h0 : Heap) (n0 : Nat) (p1 : Int32) (A : Nat → Addr) (K : Nat → ClassId) (cs : Int32) (ta : Addr) (tj : Int32)  (sb172 : Addr) (sa172 : Addr) (kc172 : ClassId) (EN : own_St Z A K cs) (gE : Exa Z Z.heap ta y_s1) (gF : Fld Z Z.heap ta y_s3 "ordinal" "I" (.int tj)) (gj : tj = (2 : Int32)) (OL0 : Old Z n0 h0) (z5 : Exa Z h0 sa172 y_s2) (z6 : Fld Z h0 sa172 y_s2 "value" "[B" (.ref sb172)) (z7 : Arv Z h0 sb172 kc172 .byte (2 : Int32) [(.int 45), (.int 48)] (.int 0)) (z8 : Fld Z h0 sa172 y_s2 "coder" "B" (.int 0)) :
    own_MF l Z own_m0 prog_40_method_7_code 3 (some .boolean) ws (Room.mk 5 0 0 69) #[(.ref ta), (.ref sa172)] h0 (PQ (some (.int 0)) h0 n0) := by
  refine MetFree.of_bodySF (plainFor_of_name own_pn6) hisR ?_
  intro p e s m args below meth c s₁ Bd hml0 hP hK
  obtain ⟨rfl, hZ, hh⟩ := hP
  have hx := Bd.exec
  have hby := Bd.bytes
  have hml : c.maxLocals = 3 := hml0
  have hown : s.vm.findClass y_s1 = some m.cls := findClass_of_methodNamed Bd.named
  have hnm := (name_of_methodNamed Bd.named Bd.method).1
  have X0 : Stand p l e (Room.mk 5 0 0 69) s m #[(.ref ta), (.ref sa172)] below meth c s₁ [] 0 0 := Stand.of_body Bd
  have e0 : s₁.heap = h0 := by rw [← hh, Bd.state]; rfl
  have N0 := Fr.nil n0
  have pre0 : own_P p e below s₁ m 0 #[.val (.ref ta), .val (.ref sa172), .unset] [] s₁ #[(.ref ta), (.ref sa172)] 3 := fun t k => castTop (by first | (simp [entryFrame, mkF, argsToLocals, Value.category, maxLocals]; done) | rfl) k
  have KK0 : Keep h0 h0 [] := Keep.refl _ _
  obtain ⟨cq173, kq173, zh, zt, zi⟩ := isOf hZ e0 z5
  obtain ⟨_, _, ⟨z9, L173, zu, n173⟩, -, z1, ⟨Lc173, za, l173, y173, z173⟩, zb⟩ := X0.virtualBack hx (y := own_m1) (z := own_m1) hown (mvT hZ (own_W hw 21 rfl)) (mvT hZ (own_W hw 22 rfl)) (notFace_of_selects (args := #[]) (mvT hZ (own_W hw 24 rfl))) (mvT hZ (own_W hw 24 rfl)) (mvT hZ (own_W hw 23 rfl)) (by decide) (backOf (W := 0) (rm23 l Z a0 hw [] h0 n0 p1 A K cs sb172 sa172 kc172 EN OL0 z6 z7 z5 z8) hZ (own_W hw 25 rfl) (own_W hw 9 rfl) (by decide) (by decide)) zh zi (g := (mkF m 1 #[.val (.ref ta), .val (.ref sa172), .unset] [(.ref sa172)])) rfl (by rw [hml]; rfl) (Steps.refl _) (argsL := []) (rest := []) (lenOf own_pd2 rfl) rfl (by show 2 * 0 + _ ≤ _; exact Nat.le_of_eq rfl) (hb hby ye_1) (fun _ _ => ⟨rfl, e0, (by decide : 0 + 0 ≤ _), (by decide : 0 + 0 ≤ _)⟩)
  dsimp only [Pt.U, Pt.locs, Pt.cells, Pt.slots] at z1 l173 y173 z173 zb za
  replace z1 := own_sub z1 l173 y173 z173
  obtain ⟨rfl, zj, zc⟩ := za
  have zk := Fr.app N0 zj
  obtain ⟨cq174, kq174, zl, zv, zm⟩ := isOf hZ zc (gE.ext OL0.2)
  obtain ⟨_, _, ⟨z3, L174, zw, n174⟩, -, z2, ⟨Lc174, zd, l174, y174, z174⟩, ze⟩ := z1.virtualBackUp hx (x := own_m8) (y := own_m7) (owner := y_s3) hown (mvT hZ (own_W hw 34 rfl)) (mvT hZ (own_W hw 35 rfl)) (mvT hZ (own_W hw 36 rfl)) (by decide) (mvT hZ (own_W hw 38 rfl)) (mvT hZ (own_W hw 37 rfl)) (backOf (W := 0) (rm4 l Z a0 hw [] h0 n0 p1 A K cs ta tj EN gE gF OL0) hZ (own_W hw 40 rfl) (own_W hw 39 rfl) (by decide) (by decide)) zl zm (g := (mkF m 12 #[.val (.ref ta), .val (.ref sa172), .val (.int 2)] [(.ref ta)])) rfl (by rw [hml]; rfl) (Steps.refl _) (argsL := []) (rest := []) (lenOf own_pd2 rfl) rfl (by show 2 * 0 + _ ≤ _; exact Nat.le_of_eq rfl) (hb hby ye_12) (fun _ _ => ⟨rfl, zc, (by decide : 0 + 0 ≤ _), (by decide : 0 + 0 ≤ _)⟩)
  dsimp only [Pt.U, Pt.locs, Pt.cells, Pt.slots] at z2 l174 y174 z174 ze zd
  replace z2 := own_sub z2 l174 y174 z174
  obtain ⟨rfl, zn, zo⟩ := zd
  have zp := Fr.app zk zn
  have ts175 : ∀ t, Steps p.tables e below (z3.setTop (mkF m 180 #[.val (.ref ta), .val (.ref sa172), .val (.int 2)] [])) t → Steps p.tables e below (z3.setTop (mkF m 15 #[.val (.ref ta), .val (.ref sa172), .val (.int 2)] [(.int tj)])) t := by
    intro t k
    rcases gj with rfl <;> exact XS.tswIn z2.here hx rfl (pc0 := 15) (pc' := 180) rfl (hb hby ye_15) rfl (by decide) (o := 165) (by decide) (by decide) (by decide) k
  obtain ⟨_, _, ⟨z4, L187, zx, n187⟩, -, z0, ⟨Lc187, zf, l187, y187, z187⟩, zg⟩ := Jvm.LawKit.callS z2 hx (y := own_m22) hown (mvT hZ (own_W hw 97 rfl)) (mvT hZ (own_W hw 98 rfl)) (mvT hZ (own_W hw 99 rfl)) (mvT hZ (own_W hw 100 rfl)) (by decide) (backOf (W := 0) (rm35 l Z a0 hw [] h0 n0 p1 A K cs sb172 sa172 kc172 EN OL0 z5 z6 z7 z8) hZ (own_W hw 100 rfl) (own_W hw 99 rfl) (by decide) (by decide)) (g := (mkF m 181 #[.val (.ref ta), .val (.ref sa172), .val (.int 2)] [(.ref sa172)])) rfl (by rw [hml]; rfl) (argsL := [(.ref sa172)]) (rest := []) (lenOf own_pd13 rfl) rfl (by show 2 * 0 + _ ≤ _; exact Nat.le_of_eq rfl) (hb hby ye_181) (fun _ _ => ⟨rfl, zo, (by decide : 0 + 0 ≤ _), (by decide : 0 + 0 ≤ _)⟩)
  dsimp only [Pt.U, Pt.locs, Pt.cells, Pt.slots] at z0 l187 y187 z187 zg zf
  replace z0 := own_sub z0 l187 y187 z187
  obtain ⟨rfl, zq, zr⟩ := zf
  have zs := Fr.app zp zq
  obtain ⟨fs, hr, hrun, hended, hW, hsame⟩ := z0.leave (v := some (.int 0)) (fun h => by rw [Bd.returns] at h; cases h)
  refine ⟨_, _, pre0 _ ?_, hrun, hended, _, _, rfl, ?_, ⟨_, rfl⟩, hW, hsame.mono (by decide) (by decide)⟩
  · show own_Y p e below s₁ m 0 #[.val (.ref ta), .val (.ref sa172), .unset] [] _
    refine XS.aloadN X0.here hx rfl (hb hby ye_0) rfl rfl ?_
    refine zb.trans ?_
    show own_Y p e below z9 m 4 #[.val (.ref ta), .val (.ref sa172), .unset] [(.int 2)] _
    refine XS.istoreN z1.here hx rfl (hb hby ye_4) rfl (l' := #[.val (.ref ta), .val (.ref sa172), .val (.int 2)]) rfl ?_
    refine XS.iloadN z1.here hx rfl (hb hby ye_5) rfl ?_
    refine XS.ifYes z1.here hx rfl (pc0 := 6) (pc' := 11) rfl (hb hby ye_6) rfl ((if0 _ _).trans (feq (by decide : ¬ ((2 : Int32) = (0 : Int32)))).2) (by decide) (by decide) ?_
    show own_Y p e below z9 m 11 #[.val (.ref ta), .val (.ref sa172), .val (.int 2)] [] _
    refine XS.aloadN z1.here hx rfl (hb hby ye_11) rfl rfl ?_
    refine ze.trans ?_
    show own_Y p e below z3 m 15 #[.val (.ref ta), .val (.ref sa172), .val (.int 2)] [(.int tj)] _
    refine ts175 _ ?_
    show own_Y p e below z3 m 180 #[.val (.ref ta), .val (.ref sa172), .val (.int 2)] [] _
    refine XS.aloadN z2.here hx rfl (hb hby ye_180) rfl rfl ?_
    refine zg _ ?_
    show own_Y p e below z4 m 184 #[.val (.ref ta), .val (.ref sa172), .val (.int 2)] [(.long (-1 : Int64))] _
    refine XS.lconst z0.here hx rfl (hb hby ye_184) ?_
    refine XS.lcmp z0.here hx rfl (hb hby ye_185) rfl ?_
    show own_Y p e below z4 m 186 #[.val (.ref ta), .val (.ref sa172), .val (.int 2)] [(.int (-1))] _
    refine XS.ifYes z0.here hx rfl (pc0 := 186) (pc' := 193) rfl (hb hby ye_186) rfl ((if0 _ _).trans (tlt (by decide : (-1 : Int32) < (0 : Int32))).1) (by decide) (by decide) ?_
    show own_Y p e below z4 m 193 #[.val (.ref ta), .val (.ref sa172), .val (.int 2)] [] _
    refine XS.iconst z0.here hx rfl (hb hby ye_193) ?_
    refine XS.goto z0.here hx rfl (pc0 := 194) (pc' := 426) rfl (hb hby ye_194) (by decide) (by decide) ?_
    exact retN z0 hx (t := .boolean) Bd.returns (by simp) (hb hby ye_426) hr
  · show PQ (some (.int 0)) h0 n0 _ z4.heap _
    rw [zr]
    exact ⟨rfl, zs, rfl⟩
theorem yf_7 : decode prog_40_method_5_code 7 = .ok (.iconst 1, 1) := by decide +kernel
theorem yf_8 : decode prog_40_method_5_code 8 = .ok (.goto 4, 3) := by decide +kernel
theorem rm39 (l : Launch) (Z : State) (a0 : Array Value) (hw : ∀ d ∈ tables_1, d.before a0 Z = true) (ws : List Jvm.Cond) (h0 : Heap) (n0 : Nat) (p1 : Int32) (A : Nat → Addr) (K : Nat → ClassId) (cs : Int32)  (EN : own_St Z A K cs) (OL0 : Old Z n0 h0) :
    own_MF l Z own_m2 prog_40_method_5_code 1 (some .boolean) ws (Room.mk 0 0 0 0) #[(.ref (A 2))] h0 (PQ (some (.int 1)) h0 n0) := by
  refine MetFree.of_bodySF (plainFor_of_name own_pn6) hisR ?_
  intro p e s m args below meth c s₁ Bd hml0 hP hK
  obtain ⟨rfl, hZ, hh⟩ := hP
  have hx := Bd.exec
  have hby := Bd.bytes
  have hml : c.maxLocals = 1 := hml0
  have hown : s.vm.findClass y_s1 = some m.cls := findClass_of_methodNamed Bd.named
  have hnm := (name_of_methodNamed Bd.named Bd.method).1
  have X0 : Stand p l e (Room.mk 0 0 0 0) s m #[(.ref (A 2))] below meth c s₁ [] 0 0 := Stand.of_body Bd
  have e0 : s₁.heap = h0 := by rw [← hh, Bd.state]; rfl
  have N0 := Fr.nil n0
  have pre0 : own_P p e below s₁ m 0 #[.val (.ref (A 2))] [] s₁ #[(.ref (A 2))] 1 := fun t k => castTop (by first | (simp [entryFrame, mkF, argsToLocals, Value.category, maxLocals]; done) | rfl) k
  have KK0 : Keep h0 h0 [] := Keep.refl _ _
  obtain ⟨z1, z0, z2, z3⟩ := getS2 X0 hx hZ hown (host := "") (Or.inl (own_W hw 93 rfl)) Via.refl e0 (EN.1.2.2.2.2.1.ext OL0.2) (g := (mkF m 1 #[.val (.ref (A 2))] [(.ref (A 2))])) rfl (hb hby yf_1)
  obtain ⟨fs, hr, hrun, hended, hW, hsame⟩ := z0.leave (v := some (.int 1)) (fun h => by rw [Bd.returns] at h; cases h)
  refine ⟨_, _, pre0 _ ?_, hrun, hended, _, _, rfl, ?_, ⟨_, rfl⟩, hW, hsame.mono (by decide) (by decide)⟩
  · show own_Y p e below s₁ m 0 #[.val (.ref (A 2))] [] _
    refine XS.aloadN X0.here hx rfl (hb hby yf_0) rfl rfl ?_
    refine z3 _ ?_
    show own_Y p e below z1 m 4 #[.val (.ref (A 2))] [(.ref (A 2)), (.ref (A 2))] _
    refine Jvm.RoadKit.acmp (g := (mkF m 4 #[.val (.ref (A 2))] [(.ref (A 2)), (.ref (A 2))])) z0 hx rfl rfl rfl (pc0 := 4) (pc' := 7) (same := true) rfl (hb hby yf_4) rfl (decide_eq_true rfl) (by decide) (by decide) ?_
    show own_Y p e below z1 m 7 #[.val (.ref (A 2))] [] _
    refine XS.iconst z0.here hx rfl (hb hby yf_7) ?_
    refine XS.goto z0.here hx rfl (pc0 := 8) (pc' := 12) rfl (hb hby yf_8) (by decide) (by decide) ?_
    exact retN z0 hx (t := .boolean) Bd.returns (by simp) (hb hby yf_12) hr
  · show PQ (some (.int 1)) h0 n0 _ z1.heap _
    rw [z2]
    exact ⟨rfl, N0, rfl⟩
theorem ye_197 : decode prog_40_method_7_code 197 = .ok (.aload_n 1, 1) := by decide +kernel
theorem ye_198 : decode prog_40_method_7_code 198 = .ok (.invokestatic 131, 3) := by decide +kernel
theorem ye_201 : decode prog_40_method_7_code 201 = .ok (.lconst 0, 1) := by decide +kernel
theorem ye_202 : decode prog_40_method_7_code 202 = .ok (.lcmp, 1) := by decide +kernel
theorem ye_203 : decode prog_40_method_7_code 203 = .ok (.ifCond .le 7, 3) := by decide +kernel
theorem ye_210 : decode prog_40_method_7_code 210 = .ok (.iconst 0, 1) := by decide +kernel
theorem ye_211 : decode prog_40_method_7_code 211 = .ok (.goto 215, 3) := by decide +kernel
theorem rm40 (l : Launch) (Z : State) (a0 : Array Value) (hw : ∀ d ∈ tables_1, d.before a0 Z = true) (ws : List Jvm.Cond) (h0 : Heap) (n0 : Nat) (p1 : Int32) (A : Nat → Addr) (K : Nat → ClassId) (cs : Int32) (ta : Addr) (tj : Int32)  (sb193 : Addr) (sa193 : Addr) (kc193 : ClassId) (EN : own_St Z A K cs) (gE : Exa Z Z.heap ta y_s1) (gF : Fld Z Z.heap ta y_s3 "ordinal" "I" (.int tj)) (gj : tj = (3 : Int32)) (OL0 : Old Z n0 h0) (z5 : Exa Z h0 sa193 y_s2) (z6 : Fld Z h0 sa193 y_s2 "value" "[B" (.ref sb193)) (z7 : Arv Z h0 sb193 kc193 .byte (2 : Int32) [(.int 48), (.int 48)] (.int 0)) (z8 : Fld Z h0 sa193 y_s2 "coder" "B" (.int 0)) :
    own_MF l Z own_m0 prog_40_method_7_code 3 (some .boolean) ws (Room.mk 5 0 0 69) #[(.ref ta), (.ref sa193)] h0 (PQ (some (.int 0)) h0 n0) := by
  refine MetFree.of_bodySF (plainFor_of_name own_pn6) hisR ?_
  intro p e s m args below meth c s₁ Bd hml0 hP hK
  obtain ⟨rfl, hZ, hh⟩ := hP
  have hx := Bd.exec
  have hby := Bd.bytes
  have hml : c.maxLocals = 3 := hml0
  have hown : s.vm.findClass y_s1 = some m.cls := findClass_of_methodNamed Bd.named
  have hnm := (name_of_methodNamed Bd.named Bd.method).1
  have X0 : Stand p l e (Room.mk 5 0 0 69) s m #[(.ref ta), (.ref sa193)] below meth c s₁ [] 0 0 := Stand.of_body Bd
  have e0 : s₁.heap = h0 := by rw [← hh, Bd.state]; rfl
  have N0 := Fr.nil n0
  have pre0 : own_P p e below s₁ m 0 #[.val (.ref ta), .val (.ref sa193), .unset] [] s₁ #[(.ref ta), (.ref sa193)] 3 := fun t k => castTop (by first | (simp [entryFrame, mkF, argsToLocals, Value.category, maxLocals]; done) | rfl) k
  have KK0 : Keep h0 h0 [] := Keep.refl _ _
  obtain ⟨cq194, kq194, zh, zt, zi⟩ := isOf hZ e0 z5
  obtain ⟨_, _, ⟨z9, L194, zu, n194⟩, -, z1, ⟨Lc194, za, l194, y194, z194⟩, zb⟩ := X0.virtualBack hx (y := own_m1) (z := own_m1) hown (mvT hZ (own_W hw 21 rfl)) (mvT hZ (own_W hw 22 rfl)) (notFace_of_selects (args := #[]) (mvT hZ (own_W hw 24 rfl))) (mvT hZ (own_W hw 24 rfl)) (mvT hZ (own_W hw 23 rfl)) (by decide) (backOf (W := 0) (rm2 l Z a0 hw [] h0 n0 p1 A K cs sb193 sa193 kc193 EN OL0 z6 z7 z5 z8) hZ (own_W hw 25 rfl) (own_W hw 9 rfl) (by decide) (by decide)) zh zi (g := (mkF m 1 #[.val (.ref ta), .val (.ref sa193), .unset] [(.ref sa193)])) rfl (by rw [hml]; rfl) (Steps.refl _) (argsL := []) (rest := []) (lenOf own_pd2 rfl) rfl (by show 2 * 0 + _ ≤ _; exact Nat.le_of_eq rfl) (hb hby ye_1) (fun _ _ => ⟨rfl, e0, (by decide : 0 + 0 ≤ _), (by decide : 0 + 0 ≤ _)⟩)
  dsimp only [Pt.U, Pt.locs, Pt.cells, Pt.slots] at z1 l194 y194 z194 zb za
  replace z1 := own_sub z1 l194 y194 z194
  obtain ⟨rfl, zj, zc⟩ := za
  have zk := Fr.app N0 zj
  obtain ⟨cq195, kq195, zl, zv, zm⟩ := isOf hZ zc (gE.ext OL0.2)
  obtain ⟨_, _, ⟨z3, L195, zw, n195⟩, -, z2, ⟨Lc195, zd, l195, y195, z195⟩, ze⟩ := z1.virtualBackUp hx (x := own_m8) (y := own_m7) (owner := y_s3) hown (mvT hZ (own_W hw 34 rfl)) (mvT hZ (own_W hw 35 rfl)) (mvT hZ (own_W hw 36 rfl)) (by decide) (mvT hZ (own_W hw 38 rfl)) (mvT hZ (own_W hw 37 rfl)) (backOf (W := 0) (rm4 l Z a0 hw [] h0 n0 p1 A K cs ta tj EN gE gF OL0) hZ (own_W hw 40 rfl) (own_W hw 39 rfl) (by decide) (by decide)) zl zm (g := (mkF m 12 #[.val (.ref ta), .val (.ref sa193), .val (.int 2)] [(.ref ta)])) rfl (by rw [hml]; rfl) (Steps.refl _) (argsL := []) (rest := []) (lenOf own_pd2 rfl) rfl (by show 2 * 0 + _ ≤ _; exact Nat.le_of_eq rfl) (hb hby ye_12) (fun _ _ => ⟨rfl, zc, (by decide : 0 + 0 ≤ _), (by decide : 0 + 0 ≤ _)⟩)
  dsimp only [Pt.U, Pt.locs, Pt.cells, Pt.slots] at z2 l195 y195 z195 ze zd
  replace z2 := own_sub z2 l195 y195 z195
  obtain ⟨rfl, zn, zo⟩ := zd
  have zp := Fr.app zk zn
  have ts196 : ∀ t, Steps p.tables e below (z3.setTop (mkF m 197 #[.val (.ref ta), .val (.ref sa193), .val (.int 2)] [])) t → Steps p.tables e below (z3.setTop (mkF m 15 #[.val (.ref ta), .val (.ref sa193), .val (.int 2)] [(.int tj)])) t := by
    intro t k
    rcases gj with rfl <;> exact XS.tswIn z2.here hx rfl (pc0 := 15) (pc' := 197) rfl (hb hby ye_15) rfl (by decide) (o := 182) (by decide) (by decide) (by decide) k
  obtain ⟨_, _, ⟨z4, L197, zx, n197⟩, -, z0, ⟨Lc197, zf, l197, y197, z197⟩, zg⟩ := Jvm.LawKit.callS z2 hx (y := own_m22) hown (mvT hZ (own_W hw 97 rfl)) (mvT hZ (own_W hw 98 rfl)) (mvT hZ (own_W hw 99 rfl)) (mvT hZ (own_W hw 100 rfl)) (by decide) (backOf (W := 0) (rm32 l Z a0 hw [] h0 n0 p1 A K cs sb193 sa193 kc193 EN OL0 z5 z6 z7 z8) hZ (own_W hw 100 rfl) (own_W hw 99 rfl) (by decide) (by decide)) (g := (mkF m 198 #[.val (.ref ta), .val (.ref sa193), .val (.int 2)] [(.ref sa193)])) rfl (by rw [hml]; rfl) (argsL := [(.ref sa193)]) (rest := []) (lenOf own_pd13 rfl) rfl (by show 2 * 0 + _ ≤ _; exact Nat.le_of_eq rfl) (hb hby ye_198) (fun _ _ => ⟨rfl, zo, (by decide : 0 + 0 ≤ _), (by decide : 0 + 0 ≤ _)⟩)
  dsimp only [Pt.U, Pt.locs, Pt.cells, Pt.slots] at z0 l197 y197 z197 zg zf
  replace z0 := own_sub z0 l197 y197 z197
  obtain ⟨rfl, zq, zr⟩ := zf
  have zs := Fr.app zp zq
  obtain ⟨fs, hr, hrun, hended, hW, hsame⟩ := z0.leave (v := some (.int 0)) (fun h => by rw [Bd.returns] at h; cases h)
  refine ⟨_, _, pre0 _ ?_, hrun, hended, _, _, rfl, ?_, ⟨_, rfl⟩, hW, hsame.mono (by decide) (by decide)⟩
  · show own_Y p e below s₁ m 0 #[.val (.ref ta), .val (.ref sa193), .unset] [] _
    refine XS.aloadN X0.here hx rfl (hb hby ye_0) rfl rfl ?_
    refine zb.trans ?_
    show own_Y p e below z9 m 4 #[.val (.ref ta), .val (.ref sa193), .unset] [(.int 2)] _
    refine XS.istoreN z1.here hx rfl (hb hby ye_4) rfl (l' := #[.val (.ref ta), .val (.ref sa193), .val (.int 2)]) rfl ?_
    refine XS.iloadN z1.here hx rfl (hb hby ye_5) rfl ?_
    refine XS.ifYes z1.here hx rfl (pc0 := 6) (pc' := 11) rfl (hb hby ye_6) rfl ((if0 _ _).trans (feq (by decide : ¬ ((2 : Int32) = (0 : Int32)))).2) (by decide) (by decide) ?_
    show own_Y p e below z9 m 11 #[.val (.ref ta), .val (.ref sa193), .val (.int 2)] [] _
    refine XS.aloadN z1.here hx rfl (hb hby ye_11) rfl rfl ?_
    refine ze.trans ?_
    show own_Y p e below z3 m 15 #[.val (.ref ta), .val (.ref sa193), .val (.int 2)] [(.int tj)] _
    refine ts196 _ ?_
    show own_Y p e below z3 m 197 #[.val (.ref ta), .val (.ref sa193), .val (.int 2)] [] _
    refine XS.aloadN z2.here hx rfl (hb hby ye_197) rfl rfl ?_
    refine zg _ ?_
    show own_Y p e below z4 m 201 #[.val (.ref ta), .val (.ref sa193), .val (.int 2)] [(.long 0)] _
    refine XS.lconst z0.here hx rfl (hb hby ye_201) ?_
    refine XS.lcmp z0.here hx rfl (hb hby ye_202) rfl ?_
    show own_Y p e below z4 m 203 #[.val (.ref ta), .val (.ref sa193), .val (.int 2)] [(.int 0)] _
    refine XS.ifYes z0.here hx rfl (pc0 := 203) (pc' := 210) rfl (hb hby ye_203) rfl ((if0 _ _).trans (flt (by decide : ¬ ((0 : Int32) < (0 : Int32)))).2.2.2) (by decide) (by decide) ?_
    show own_Y p e below z4 m 210 #[.val (.ref ta), .val (.ref sa193), .val (.int 2)] [] _
    refine XS.iconst z0.here hx rfl (hb hby ye_210) ?_
    refine XS.goto z0.here hx rfl (pc0 := 211) (pc' := 426) rfl (hb hby ye_211) (by decide) (by decide) ?_
    exact retN z0 hx (t := .boolean) Bd.returns (by simp) (hb hby ye_426) hr
  · show PQ (some (.int 0)) h0 n0 _ z4.heap _
    rw [zr]
    exact ⟨rfl, zs, rfl⟩
theorem yi_0 : decode prog_40_method_11_code 0 = .ok (.iload_n 1, 1) := by decide +kernel
theorem yi_1 : decode prog_40_method_11_code 1 = .ok (.ifCond .lt 24, 3) := by decide +kernel
theorem yi_4 : decode prog_40_method_11_code 4 = .ok (.iload_n 1, 1) := by decide +kernel
theorem yi_5 : decode prog_40_method_11_code 5 = .ok (.aload_n 0, 1) := by decide +kernel
theorem yi_6 : decode prog_40_method_11_code 6 = .ok (.invokevirtual 107, 3) := by decide +kernel
theorem yi_9 : decode prog_40_method_11_code 9 = .ok (.if_icmp .ge 16, 3) := by decide +kernel
theorem yi_25 : decode prog_40_method_11_code 25 = .ok (.iconst 0, 1) := by decide +kernel
theorem yi_26 : decode prog_40_method_11_code 26 = .ok (.ireturn, 1) := by decide +kernel
theorem rm43 (l : Launch) (Z : State) (a0 : Array Value) (hw : ∀ d ∈ tables_1, d.before a0 Z = true) (ws : List Jvm.Cond) (h0 : Heap) (n0 : Nat) (p1 : Int32) (A : Nat → Addr) (K : Nat → ClassId) (cs : Int32)  (sb202 : Addr) (sa202 : Addr) (kc202 : ClassId) (EN : own_St Z A K cs) (OL0 : Old Z n0 h0) (z2 : Exa Z h0 sa202 y_s2) (z5 : Fld Z h0 sa202 y_s2 "value" "[B" (.ref sb202)) (z6 : Arv Z h0 sb202 kc202 .byte (2 : Int32) [(.int 48), (.int 48)] (.int 0)) (z7 : Fld Z h0 sa202 y_s2 "coder" "B" (.int 0)) :
    own_MF l Z own_m4 prog_40_method_11_code 3 (some .boolean) ws (Room.mk 2 0 0 26) #[(.ref sa202), (.int 2), (.int 46)] h0 (PQ (some (.int 0)) h0 n0) := by
  refine MetFree.of_bodySF (plainFor_of_name own_pn6) hisR ?_
  intro p e s m args below meth c s₁ Bd hml0 hP hK
  obtain ⟨rfl, hZ, hh⟩ := hP
  have hx := Bd.exec
  have hby := Bd.bytes
  have hml : c.maxLocals = 3 := hml0
  have hown : s.vm.findClass y_s1 = some m.cls := findClass_of_methodNamed Bd.named
  have hnm := (name_of_methodNamed Bd.named Bd.method).1
  have X0 : Stand p l e (Room.mk 2 0 0 26) s m #[(.ref sa202), (.int 2), (.int 46)] below meth c s₁ [] 0 0 := Stand.of_body Bd
  have e0 : s₁.heap = h0 := by rw [← hh, Bd.state]; rfl
  have N0 := Fr.nil n0
  have pre0 : own_P p e below s₁ m 0 #[.val (.ref sa202), .val (.int 2), .val (.int 46)] [] s₁ #[(.ref sa202), (.int 2), (.int 46)] 3 := fun t k => castTop (by first | (simp [entryFrame, mkF, argsToLocals, Value.category, maxLocals]; done) | rfl) k
  have KK0 : Keep h0 h0 [] := Keep.refl _ _
  obtain ⟨cq214, kq214, z8, zd, z9⟩ := isOf hZ e0 z2
  obtain ⟨_, _, ⟨z1, L214, ze, n214⟩, -, z0, ⟨Lc214, z3, l214, y214, z214⟩, z4⟩ := X0.virtualBack hx (y := own_m1) (z := own_m1) hown (mvT hZ (own_W hw 21 rfl)) (mvT hZ (own_W hw 22 rfl)) (notFace_of_selects (args := #[]) (mvT hZ (own_W hw 24 rfl))) (mvT hZ (own_W hw 24 rfl)) (mvT hZ (own_W hw 23 rfl)) (by decide) (backOf (W := 1) (rm2 l Z a0 hw [] h0 n0 p1 A K cs sb202 sa202 kc202 EN OL0 z5 z6 z2 z7) hZ (own_W hw 25 rfl) (own_W hw 9 rfl) (by decide) (by decide)) z8 z9 (g := (mkF m 6 #[.val (.ref sa202), .val (.int 2), .val (.int 46)] [(.ref sa202), (.int 2)])) rfl (by rw [hml]; rfl) (Steps.refl _) (argsL := []) (rest := [(.int 2)]) (lenOf own_pd2 rfl) rfl (by show 2 * 0 + _ ≤ _; exact Nat.le_of_eq rfl) (hb hby yi_6) (fun _ _ => ⟨rfl, e0, (by decide : 0 + 0 ≤ _), (by decide : 0 + 0 ≤ _)⟩)
  dsimp only [Pt.U, Pt.locs, Pt.cells, Pt.slots] at z0 l214 y214 z214 z4 z3
  replace z0 := own_sub z0 l214 y214 z214
  obtain ⟨rfl, za, zb⟩ := z3
  have zc := Fr.app N0 za
  obtain ⟨fs, hr, hrun, hended, hW, hsame⟩ := z0.leave (v := some (.int 0)) (fun h => by rw [Bd.returns] at h; cases h)
  refine ⟨_, _, pre0 _ ?_, hrun, hended, _, _, rfl, ?_, ⟨_, rfl⟩, hW, hsame.mono (by decide) (by decide)⟩
  · show own_Y p e below s₁ m 0 #[.val (.ref sa202), .val (.int 2), .val (.int 46)] [] _
    refine XS.iloadN X0.here hx rfl (hb hby yi_0) rfl ?_
    refine XS.ifNo X0.here hx rfl (hb hby yi_1) rfl ((if0 _ _).trans (flt (by decide : ¬ ((2 : Int32) < (0 : Int32)))).1) ?_
    show own_Y p e below s₁ m 4 #[.val (.ref sa202), .val (.int 2), .val (.int 46)] [] _
    refine XS.iloadN X0.here hx rfl (hb hby yi_4) rfl ?_
    refine XS.aloadN X0.here hx rfl (hb hby yi_5) rfl rfl ?_
    refine z4.trans ?_
    show own_Y p e below z1 m 9 #[.val (.ref sa202), .val (.int 2), .val (.int 46)] [(.int 2), (.int 2)] _
    refine XS.icmpYes z0.here hx rfl (pc0 := 9) (pc' := 25) rfl (hb hby yi_9) rfl (flt (by decide : ¬ ((2 : Int32) < (2 : Int32)))).2.1 (by decide) (by decide) ?_
    show own_Y p e below z1 m 25 #[.val (.ref sa202), .val (.int 2), .val (.int 46)] [] _
    refine XS.iconst z0.here hx rfl (hb hby yi_25) ?_
    exact retN z0 hx (t := .boolean) Bd.returns (by simp) (hb hby yi_26) hr
  · show PQ (some (.int 0)) h0 n0 _ z1.heap _
    rw [zb]
    exact ⟨rfl, zc, rfl⟩
theorem yj_0 : decode prog_40_method_13_code 0 = .ok (.aload_n 0, 1) := by decide +kernel
theorem yj_1 : decode prog_40_method_13_code 1 = .ok (.aload_n 0, 1) := by decide +kernel
theorem yj_2 : decode prog_40_method_13_code 2 = .ok (.ldc 121, 2) := by decide +kernel
theorem yj_4 : decode prog_40_method_13_code 4 = .ok (.invokevirtual 123, 3) := by decide +kernel
theorem yj_7 : decode prog_40_method_13_code 7 = .ok (.ifCond .eq 7, 3) := by decide +kernel
theorem yj_14 : decode prog_40_method_13_code 14 = .ok (.iconst 0, 1) := by decide +kernel
theorem yj_15 : decode prog_40_method_13_code 15 = .ok (.invokestatic 127, 3) := by decide +kernel
theorem yj_18 : decode prog_40_method_13_code 18 = .ok (.istore_n 1, 1) := by decide +kernel
theorem yj_19 : decode prog_40_method_13_code 19 = .ok (.aload_n 0, 1) := by decide +kernel
theorem yj_20 : decode prog_40_method_13_code 20 = .ok (.iload_n 1, 1) := by decide +kernel
theorem yj_21 : decode prog_40_method_13_code 21 = .ok (.bipush 46, 2) := by decide +kernel
theorem yj_23 : decode prog_40_method_13_code 23 = .ok (.invokestatic 176, 3) := by decide +kernel
theorem yj_26 : decode prog_40_method_13_code 26 = .ok (.ifCond .eq 13, 3) := by decide +kernel
theorem yj_39 : decode prog_40_method_13_code 39 = .ok (.iload_n 1, 1) := by decide +kernel
theorem yj_40 : decode prog_40_method_13_code 40 = .ok (.ireturn, 1) := by decide +kernel
theorem rm42 (l : Launch) (Z : State) (a0 : Array Value) (hw : ∀ d ∈ tables_1, d.before a0 Z = true) (ws : List Jvm.Cond) (h0 : Heap) (n0 : Nat) (p1 : Int32) (A : Nat → Addr) (K : Nat → ClassId) (cs : Int32)  (sb202 : Addr) (sa202 : Addr) (kc202 : ClassId) (EN : own_St Z A K cs) (OL0 : Old Z n0 h0) (zk : Exa Z h0 sa202 y_s2) (zl : Fld Z h0 sa202 y_s2 "value" "[B" (.ref sb202)) (zm : Arv Z h0 sb202 kc202 .byte (2 : Int32) [(.int 48), (.int 48)] (.int 0)) (zn : Fld Z h0 sa202 y_s2 "coder" "B" (.int 0)) :
    own_MH l Z own_m24 prog_40_method_13_code 2 (some .int) ws (Room.mk 5 2 8 67) #[(.ref sa202)] h0 (QH (some (.int 2)) h0 n0) := by
  refine MetFree.of_bodySF (plainFor_of_name own_pn6) hisR ?_
  intro p e s m args below meth c s₁ Bd hml0 hP hK
  obtain ⟨rfl, hZ, hh, H0⟩ := hP
  have hx := Bd.exec
  have hby := Bd.bytes
  have hml : c.maxLocals = 2 := hml0
  have hown : s.vm.findClass y_s1 = some m.cls := findClass_of_methodNamed Bd.named
  have hnm := (name_of_methodNamed Bd.named Bd.method).1
  have hS0 : s.Since s.vm 0 := (State.WarmedH.refl s).since 0
  have zo : 0 ≤ h0.size := Nat.zero_le _
  have CR0 : CHr Z consts_1 s.vm h0 s.vm h0 := CHr.refl H0
  have X0 : Stand p l e (Room.mk 5 2 8 67) (s.setVm s.vm) m #[(.ref sa202)] below meth c s₁ [] 0 0 := Stand.of_body Bd
  have e0 : s₁.heap = h0 := by rw [← hh, Bd.state]; rfl
  have N0 := Fr.nil n0
  have pre0 : own_P p e below s₁ m 0 #[.val (.ref sa202), .unset] [] s₁ #[(.ref sa202)] 2 := fun t k => castTop (by first | (simp [entryFrame, mkF, argsToLocals, Value.category, maxLocals]; done) | rfl) k
  have KK0 : Keep h0 h0 [] := Keep.refl _ _
  have zp : own_P p e below s₁ m 2 #[.val (.ref sa202), .unset] [(.ref sa202), (.ref sa202)] s₁ #[(.ref sa202)] 2 := fun t k => pre0 t (by
    show own_Y p e below s₁ m 0 #[.val (.ref sa202), .unset] [] _
    refine XS.aloadN X0.here hx rfl (hb hby yj_0) rfl rfl ?_
    refine XS.aloadN X0.here hx rfl (hb hby yj_1) rfl rfl ?_
    exact k)
  obtain ⟨sa207, zq, z6, kk207, sb207, kc207, zr, zc, z2, hS207, zs, hZ, hown, Es207, Cs207, Vs207, As207, la207, lb207, C207, -, -, zt⟩ := ldcCH (s := s) X0 hx hZ hown (own_W hw 43 rfl) (own_strAtoms a0 Z hw) e0 hS0 zo (own_EW a0 Z hw) (List.mem_of_getElem? (i := 0) rfl) H0 (vs := [(.int 45)]) (z := (1 : Int32)) ⟨by decide, by decide⟩ (by decide) (by decide) (g := (mkF m 2 #[.val (.ref sa202), .unset] [(.ref sa202), (.ref sa202)])) rfl (hb hby yj_2) (n := 4) (by decide) (by decide) (by decide) (by decide)
  have CR207 := CR0.trans C207
  have z7 := OL0.ext z2
  have zu := KK0.ext z2
  have z5 := (zk.ext z2)
  have z8 := (zl.ext z2)
  have z9 := (zm.ext z2)
  have za := (zn.ext z2)
  obtain ⟨cq212, kq212, zv, z16, zw⟩ := isOf hZ zc z5
  obtain ⟨_, _, ⟨zd, L212, z17, n212⟩, -, z3, ⟨Lc212, ze, l212, y212, z212⟩, zf⟩ := zr.virtualBack hx (y := own_m11) (z := own_m11) hown (mvT hZ (own_W hw 44 rfl)) (mvT hZ (own_W hw 45 rfl)) (notFace_of_selects (args := #[]) (mvT hZ (own_W hw 47 rfl))) (mvT hZ (own_W hw 47 rfl)) (mvT hZ (own_W hw 46 rfl)) (by decide) (backOf (W := 1) (rm5 l Z a0 hw [] z6 n0 p1 A K cs sb202 sa202 sb207 sa207 kc202 kc207 EN z7 z5 z8 z9 za Es207 Vs207 As207 Cs207) hZ (own_W hw 48 rfl) (own_W hw 9 rfl) (by decide) (by decide)) zv zw (g := (mkF m 4 #[.val (.ref sa202), .unset] [(.ref sa207), (.ref sa202), (.ref sa202)])) rfl (by rw [hml]; rfl) (Steps.refl _) (argsL := [(.ref sa207)]) (rest := [(.ref sa202)]) (lenOf own_pd5 rfl) rfl (by show 2 * 0 + _ ≤ _; exact Nat.le_of_eq rfl) (hb hby yj_4) (fun _ _ => ⟨rfl, zc, (by decide : 2 + 0 ≤ _), (by decide : 8 + 0 ≤ _)⟩)
  dsimp only [Pt.U, Pt.locs, Pt.cells, Pt.slots] at z3 l212 y212 z212 zf ze
  replace z3 := own_sub z3 l212 y212 z212
  obtain ⟨rfl, zx, zy⟩ := ze
  have zz := Fr.app N0 zx
  obtain ⟨_, _, ⟨z10, L213, z18, n213⟩, -, z0, ⟨Lc213, zg, l213, y213, z213⟩, zh⟩ := Jvm.LawKit.callS z3 hx (y := own_m18) hown (mvT hZ (own_W hw 59 rfl)) (mvT hZ (own_W hw 60 rfl)) (mvT hZ (own_W hw 6 rfl)) (mvT hZ (own_W hw 61 rfl)) (by decide) (backOf (W := 0) (rm9 l Z a0 hw [] z6 n0 p1 A K cs sb202 sa202 kc202 EN z7 z5 z8 z9 za) hZ (own_W hw 61 rfl) (own_W hw 6 rfl) (by decide) (by decide)) (g := (mkF m 15 #[.val (.ref sa202), .unset] [(.int 0), (.ref sa202)])) rfl (by rw [hml]; rfl) (argsL := [(.ref sa202), (.int 0)]) (rest := []) (lenOf own_pd12 rfl) rfl (by show 2 * 0 + _ ≤ _; exact Nat.le_of_eq rfl) (hb hby yj_15) (fun _ _ => ⟨rfl, zy, (by decide : 2 + 0 ≤ _), (by decide : 8 + 0 ≤ _)⟩)
  dsimp only [Pt.U, Pt.locs, Pt.cells, Pt.slots] at z0 l213 y213 z213 zh zg
  replace z0 := own_sub z0 l213 y213 z213
  obtain ⟨rfl, z11, z12⟩ := zg
  have z13 := Fr.app zz z11
  obtain ⟨_, _, ⟨z4, L215, z19, n215⟩, -, z1, ⟨Lc215, zi, l215, y215, z215⟩, zj⟩ := Jvm.LawKit.callS z0 hx (y := own_m4) hown (mvT hZ (own_W hw 121 rfl)) (mvT hZ (own_W hw 122 rfl)) (mvT hZ (own_W hw 6 rfl)) (mvT hZ (own_W hw 123 rfl)) (by decide) (backOf (W := 0) (rm43 l Z a0 hw [] z6 n0 p1 A K cs sb202 sa202 kc202 EN z7 z5 z8 z9 za) hZ (own_W hw 123 rfl) (own_W hw 6 rfl) (by decide) (by decide)) (g := (mkF m 23 #[.val (.ref sa202), .val (.int 2)] [(.int 46), (.int 2), (.ref sa202)])) rfl (by rw [hml]; rfl) (argsL := [(.ref sa202), (.int 2), (.int 46)]) (rest := []) (lenOf own_pd14 rfl) rfl (by show 2 * 0 + _ ≤ _; exact Nat.le_of_eq rfl) (hb hby yj_23) (fun _ _ => ⟨rfl, z12, (by decide : 2 + 0 ≤ _), (by decide : 8 + 0 ≤ _)⟩)
  dsimp only [Pt.U, Pt.locs, Pt.cells, Pt.slots] at z1 l215 y215 z215 zj zi
  replace z1 := own_sub z1 l215 y215 z215
  obtain ⟨rfl, z14, zb⟩ := zi
  have z15 := Fr.app z13 z14
  obtain ⟨fs, hr, hrun, hended, hEW⟩ := z1.leaveW (s := s) hS207 (by rw [zb]; exact zs) (v := some (.int 2)) (fun h => by rw [Bd.returns] at h; cases h)
  refine ⟨_, _, zp _ ?_, hrun, hended, _, _, rfl, ?_, ?_, hEW.1, hEW.2.1, hEW.2.2.1, hEW.2.2.2.mono (by decide) (by decide)⟩
  · show own_Y p e below s₁ m 2 #[.val (.ref sa202), .unset] [(.ref sa202), (.ref sa202)] _
    refine zt _ ?_
    show own_Y p e below zq m 4 #[.val (.ref sa202), .unset] [(.ref sa207), (.ref sa202), (.ref sa202)] _
    refine zf.trans ?_
    show own_Y p e below zd m 7 #[.val (.ref sa202), .unset] [(.int 0), (.ref sa202)] _
    refine XS.ifYes z3.here hx rfl (pc0 := 7) (pc' := 14) rfl (hb hby yj_7) rfl ((if0 _ _).trans (teq (by decide : (0 : Int32) = (0 : Int32))).1) (by decide) (by decide) ?_
    show own_Y p e below zd m 14 #[.val (.ref sa202), .unset] [(.ref sa202)] _
    refine XS.iconst z3.here hx rfl (hb hby yj_14) ?_
    refine zh _ ?_
    show own_Y p e below z10 m 18 #[.val (.ref sa202), .unset] [(.int 2)] _
    refine XS.istoreN z0.here hx rfl (hb hby yj_18) rfl (l' := #[.val (.ref sa202), .val (.int 2)]) rfl ?_
    refine XS.aloadN z0.here hx rfl (hb hby yj_19) rfl rfl ?_
    refine XS.iloadN z0.here hx rfl (hb hby yj_20) rfl ?_
    refine XS.bipush z0.here hx rfl (hb hby yj_21) ?_
    refine zj _ ?_
    show own_Y p e below z4 m 26 #[.val (.ref sa202), .val (.int 2)] [(.int 0)] _
    refine XS.ifYes z1.here hx rfl (pc0 := 26) (pc' := 39) rfl (hb hby yj_26) rfl ((if0 _ _).trans (teq (by decide : (0 : Int32) = (0 : Int32))).1) (by decide) (by decide) ?_
    show own_Y p e below z4 m 39 #[.val (.ref sa202), .val (.int 2)] [] _
    refine XS.iloadN z1.here hx rfl (hb hby yj_39) rfl ?_
    exact retI z1 hx Bd.returns (hb hby yj_40) hr
  · show QH (some (.int 2)) h0 n0 _ z4.heap _
    rw [zb]
    exact ⟨rfl, z15, zu⟩
  · show CHr Z consts_1 s.vm s.heap z4.vm z4.heap
    rw [hh, zb]
    exact CR207.trans (CHv.at z1 hZ (own_EW a0 Z hw) C207.1)
theorem ye_214 : decode prog_40_method_7_code 214 = .ok (.aload_n 1, 1) := by decide +kernel
theorem ye_215 : decode prog_40_method_7_code 215 = .ok (.invokestatic 137, 3) := by decide +kernel
theorem ye_218 : decode prog_40_method_7_code 218 = .ok (.iload_n 2, 1) := by decide +kernel
theorem ye_219 : decode prog_40_method_7_code 219 = .ok (.if_icmp .ne 7, 3) := by decide +kernel
theorem ye_222 : decode prog_40_method_7_code 222 = .ok (.iconst 1, 1) := by decide +kernel
theorem ye_223 : decode prog_40_method_7_code 223 = .ok (.goto 203, 3) := by decide +kernel
theorem rm41 (l : Launch) (Z : State) (a0 : Array Value) (hw : ∀ d ∈ tables_1, d.before a0 Z = true) (ws : List Jvm.Cond) (h0 : Heap) (n0 : Nat) (p1 : Int32) (A : Nat → Addr) (K : Nat → ClassId) (cs : Int32) (ta : Addr) (tj : Int32)  (sb202 : Addr) (sa202 : Addr) (kc202 : ClassId) (EN : own_St Z A K cs) (gE : Exa Z Z.heap ta y_s1) (gF : Fld Z Z.heap ta y_s3 "ordinal" "I" (.int tj)) (gj : tj = (4 : Int32) ∨ tj = (5 : Int32) ∨ tj = (6 : Int32) ∨ tj = (7 : Int32) ∨ tj = (8 : Int32) ∨ tj = (9 : Int32)) (OL0 : Old Z n0 h0) (z5 : Exa Z h0 sa202 y_s2) (z6 : Fld Z h0 sa202 y_s2 "value" "[B" (.ref sb202)) (z7 : Arv Z h0 sb202 kc202 .byte (2 : Int32) [(.int 48), (.int 48)] (.int 0)) (z8 : Fld Z h0 sa202 y_s2 "coder" "B" (.int 0)) :
    own_MH l Z own_m0 prog_40_method_7_code 3 (some .boolean) ws (Room.mk 6 2 8 80) #[(.ref ta), (.ref sa202)] h0 (QH (some (.int 1)) h0 n0) := by
  refine MetFree.of_bodySF (plainFor_of_name own_pn6) hisR ?_
  intro p e s m args below meth c s₁ Bd hml0 hP hK
  obtain ⟨rfl, hZ, hh, H0⟩ := hP
  have hx := Bd.exec
  have hby := Bd.bytes
  have hml : c.maxLocals = 3 := hml0
  have hown : s.vm.findClass y_s1 = some m.cls := findClass_of_methodNamed Bd.named
  have hnm := (name_of_methodNamed Bd.named Bd.method).1
  have hS0 : s.Since s.vm 0 := (State.WarmedH.refl s).since 0
  have zj : 0 ≤ h0.size := Nat.zero_le _
  have CR0 : CHr Z consts_1 s.vm h0 s.vm h0 := CHr.refl H0
  have X0 : Stand p l e (Room.mk 6 2 8 80) (s.setVm s.vm) m #[(.ref ta), (.ref sa202)] below meth c s₁ [] 0 0 := Stand.of_body Bd
  have e0 : s₁.heap = h0 := by rw [← hh, Bd.state]; rfl
  have N0 := Fr.nil n0
  have pre0 : own_P p e below s₁ m 0 #[.val (.ref ta), .val (.ref sa202), .unset] [] s₁ #[(.ref ta), (.ref sa202)] 3 := fun t k => castTop (by first | (simp [entryFrame, mkF, argsToLocals, Value.category, maxLocals]; done) | rfl) k
  have KK0 : Keep h0 h0 [] := Keep.refl _ _
  obtain ⟨cq216, kq216, zk, zv, zl⟩ := isOf hZ e0 z5
  obtain ⟨_, _, ⟨z9, L216, zw, n216⟩, -, z1, ⟨Lc216, za, l216, y216, z216⟩, zb⟩ := X0.virtualBack hx (y := own_m1) (z := own_m1) hown (mvT hZ (own_W hw 21 rfl)) (mvT hZ (own_W hw 22 rfl)) (notFace_of_selects (args := #[]) (mvT hZ (own_W hw 24 rfl))) (mvT hZ (own_W hw 24 rfl)) (mvT hZ (own_W hw 23 rfl)) (by decide) (backOf (W := 0) (rm2 l Z a0 hw [] h0 n0 p1 A K cs sb202 sa202 kc202 EN OL0 z6 z7 z5 z8) hZ (own_W hw 25 rfl) (own_W hw 9 rfl) (by decide) (by decide)) zk zl (g := (mkF m 1 #[.val (.ref ta), .val (.ref sa202), .unset] [(.ref sa202)])) rfl (by rw [hml]; rfl) (Steps.refl _) (argsL := []) (rest := []) (lenOf own_pd2 rfl) rfl (by show 2 * 0 + _ ≤ _; exact Nat.le_of_eq rfl) (hb hby ye_1) (fun _ _ => ⟨rfl, e0, (by decide : 0 + 0 ≤ _), (by decide : 0 + 0 ≤ _)⟩)
  dsimp only [Pt.U, Pt.locs, Pt.cells, Pt.slots] at z1 l216 y216 z216 zb za
  replace z1 := own_sub z1 l216 y216 z216
  obtain ⟨rfl, zm, zc⟩ := za
  have zn := Fr.app N0 zm
  obtain ⟨cq217, kq217, zo, zx, zp⟩ := isOf hZ zc (gE.ext OL0.2)
  obtain ⟨_, _, ⟨z4, L217, zy, n217⟩, -, z2, ⟨Lc217, zd, l217, y217, z217⟩, ze⟩ := z1.virtualBackUp hx (x := own_m8) (y := own_m7) (owner := y_s3) hown (mvT hZ (own_W hw 34 rfl)) (mvT hZ (own_W hw 35 rfl)) (mvT hZ (own_W hw 36 rfl)) (by decide) (mvT hZ (own_W hw 38 rfl)) (mvT hZ (own_W hw 37 rfl)) (backOf (W := 0) (rm4 l Z a0 hw [] h0 n0 p1 A K cs ta tj EN gE gF OL0) hZ (own_W hw 40 rfl) (own_W hw 39 rfl) (by decide) (by decide)) zo zp (g := (mkF m 12 #[.val (.ref ta), .val (.ref sa202), .val (.int 2)] [(.ref ta)])) rfl (by rw [hml]; rfl) (Steps.refl _) (argsL := []) (rest := []) (lenOf own_pd2 rfl) rfl (by show 2 * 0 + _ ≤ _; exact Nat.le_of_eq rfl) (hb hby ye_12) (fun _ _ => ⟨rfl, zc, (by decide : 0 + 0 ≤ _), (by decide : 0 + 0 ≤ _)⟩)
  dsimp only [Pt.U, Pt.locs, Pt.cells, Pt.slots] at z2 l217 y217 z217 ze zd
  replace z2 := own_sub z2 l217 y217 z217
  obtain ⟨rfl, zq, zf⟩ := zd
  have zr := Fr.app zn zq
  have ts218 : ∀ t, Steps p.tables e below (z4.setTop (mkF m 214 #[.val (.ref ta), .val (.ref sa202), .val (.int 2)] [])) t → Steps p.tables e below (z4.setTop (mkF m 15 #[.val (.ref ta), .val (.ref sa202), .val (.int 2)] [(.int tj)])) t := by
    intro t k
    rcases gj with rfl | rfl | rfl | rfl | rfl | rfl <;> exact XS.tswIn z2.here hx rfl (pc0 := 15) (pc' := 214) rfl (hb hby ye_15) rfl (by decide) (o := 199) (by decide) (by decide) (by decide) k
  obtain ⟨_, _, ⟨z3, L219, zz, n219⟩, -, z0, hSc219, hgr219, ⟨Lc219, zg, l219, y219, z219, C219⟩, zh⟩ := callSS z2 hx (y := own_m24) hown (mvT hZ (own_W hw 118 rfl)) (mvT hZ (own_W hw 119 rfl)) (mvT hZ (own_W hw 6 rfl)) (mvT hZ (own_W hw 120 rfl)) (by decide) (backOfSH (EL := consts_1) (W := 0) (rm42 l Z a0 hw [] h0 n0 p1 A K cs sb202 sa202 kc202 EN OL0 z5 z6 z7 z8) hZ (own_W hw 120 rfl) (own_W hw 6 rfl) (by decide) (by decide) (own_EW a0 Z hw) H0) (g := (mkF m 215 #[.val (.ref ta), .val (.ref sa202), .val (.int 2)] [(.ref sa202)])) rfl (by rw [hml]; rfl) (argsL := [(.ref sa202)]) (rest := []) (lenOf own_pd15 rfl) rfl (by show 2 * 0 + _ ≤ _; exact Nat.le_of_eq rfl) (hb hby ye_215) (fun _ _ => ⟨rfl, zf, (by decide : 0 + 2 ≤ _), (by decide : 0 + 8 ≤ _)⟩)
  dsimp only [Pt.U, Pt.locs, Pt.cells, Pt.slots] at z0 hSc219 hgr219 l219 y219 z219 zh zg C219
  obtain ⟨Xr219, hS219, hZ, hown⟩ := rebS (s := s) hS0 (by rw [zf]; exact zj) z0 hSc219 hgr219 hZ hown
  replace z0 := own_sub Xr219 l219 y219 z219
  have CR219 := CR0.trans C219
  obtain ⟨rfl, zs, zi⟩ := zg
  have zt := Fr.app zr zs
  have z10 := OL0.keep zi all0
  have zu := KK0.trans zi all0
  obtain ⟨fs, hr, hrun, hended, hEW⟩ := z0.leaveW (s := s) hS219 (by exact (Nat.le_refl _)) (v := some (.int 1)) (fun h => by rw [Bd.returns] at h; cases h)
  refine ⟨_, _, pre0 _ ?_, hrun, hended, _, _, rfl, ?_, ?_, hEW.1, hEW.2.1, hEW.2.2.1, hEW.2.2.2.mono (by decide) (by decide)⟩
  · show own_Y p e below s₁ m 0 #[.val (.ref ta), .val (.ref sa202), .unset] [] _
    refine XS.aloadN X0.here hx rfl (hb hby ye_0) rfl rfl ?_
    refine zb.trans ?_
    show own_Y p e below z9 m 4 #[.val (.ref ta), .val (.ref sa202), .unset] [(.int 2)] _
    refine XS.istoreN z1.here hx rfl (hb hby ye_4) rfl (l' := #[.val (.ref ta), .val (.ref sa202), .val (.int 2)]) rfl ?_
    refine XS.iloadN z1.here hx rfl (hb hby ye_5) rfl ?_
    refine XS.ifYes z1.here hx rfl (pc0 := 6) (pc' := 11) rfl (hb hby ye_6) rfl ((if0 _ _).trans (feq (by decide : ¬ ((2 : Int32) = (0 : Int32)))).2) (by decide) (by decide) ?_
    show own_Y p e below z9 m 11 #[.val (.ref ta), .val (.ref sa202), .val (.int 2)] [] _
    refine XS.aloadN z1.here hx rfl (hb hby ye_11) rfl rfl ?_
    refine ze.trans ?_
    show own_Y p e below z4 m 15 #[.val (.ref ta), .val (.ref sa202), .val (.int 2)] [(.int tj)] _
    refine ts218 _ ?_
    show own_Y p e below z4 m 214 #[.val (.ref ta), .val (.ref sa202), .val (.int 2)] [] _
    refine XS.aloadN z2.here hx rfl (hb hby ye_214) rfl rfl ?_
    refine zh.trans ?_
    show own_Y p e below z3 m 218 #[.val (.ref ta), .val (.ref sa202), .val (.int 2)] [(.int 2)] _
    refine XS.iloadN z0.here hx rfl (hb hby ye_218) rfl ?_
    refine XS.icmpNo z0.here hx rfl (hb hby ye_219) rfl (teq (by decide : (2 : Int32) = (2 : Int32))).2 ?_
    show own_Y p e below z3 m 222 #[.val (.ref ta), .val (.ref sa202), .val (.int 2)] [] _
    refine XS.iconst z0.here hx rfl (hb hby ye_222) ?_
    refine XS.goto z0.here hx rfl (pc0 := 223) (pc' := 426) rfl (hb hby ye_223) (by decide) (by decide) ?_
    exact retN z0 hx (t := .boolean) Bd.returns (by simp) (hb hby ye_426) hr
  · show QH (some (.int 1)) h0 n0 _ z3.heap _
    exact ⟨rfl, zt, zu⟩
  · show CHr Z consts_1 s.vm s.heap z3.vm z3.heap
    rw [hh]
    exact CR219.trans (CHv.at z0 hZ (own_EW a0 Z hw) C219.1)
theorem rm46 (l : Launch) (Z : State) (a0 : Array Value) (hw : ∀ d ∈ tables_1, d.before a0 Z = true) (ws : List Jvm.Cond) (h0 : Heap) (n0 : Nat) (p1 : Int32) (A : Nat → Addr) (K : Nat → ClassId) (cs : Int32)  (sb222 : Addr) (sa222 : Addr) (kc222 : ClassId) (EN : own_St Z A K cs) (OL0 : Old Z n0 h0) (z2 : Exa Z h0 sa222 y_s2) (z5 : Fld Z h0 sa222 y_s2 "value" "[B" (.ref sb222)) (z6 : Arv Z h0 sb222 kc222 .byte (2 : Int32) [(.int 45), (.int 48)] (.int 0)) (z7 : Fld Z h0 sa222 y_s2 "coder" "B" (.int 0)) :
    own_MF l Z own_m4 prog_40_method_11_code 3 (some .boolean) ws (Room.mk 2 0 0 26) #[(.ref sa222), (.int 2), (.int 46)] h0 (PQ (some (.int 0)) h0 n0) := by
  refine MetFree.of_bodySF (plainFor_of_name own_pn6) hisR ?_
  intro p e s m args below meth c s₁ Bd hml0 hP hK
  obtain ⟨rfl, hZ, hh⟩ := hP
  have hx := Bd.exec
  have hby := Bd.bytes
  have hml : c.maxLocals = 3 := hml0
  have hown : s.vm.findClass y_s1 = some m.cls := findClass_of_methodNamed Bd.named
  have hnm := (name_of_methodNamed Bd.named Bd.method).1
  have X0 : Stand p l e (Room.mk 2 0 0 26) s m #[(.ref sa222), (.int 2), (.int 46)] below meth c s₁ [] 0 0 := Stand.of_body Bd
  have e0 : s₁.heap = h0 := by rw [← hh, Bd.state]; rfl
  have N0 := Fr.nil n0
  have pre0 : own_P p e below s₁ m 0 #[.val (.ref sa222), .val (.int 2), .val (.int 46)] [] s₁ #[(.ref sa222), (.int 2), (.int 46)] 3 := fun t k => castTop (by first | (simp [entryFrame, mkF, argsToLocals, Value.category, maxLocals]; done) | rfl) k
  have KK0 : Keep h0 h0 [] := Keep.refl _ _
  obtain ⟨cq234, kq234, z8, zd, z9⟩ := isOf hZ e0 z2
  obtain ⟨_, _, ⟨z1, L234, ze, n234⟩, -, z0, ⟨Lc234, z3, l234, y234, z234⟩, z4⟩ := X0.virtualBack hx (y := own_m1) (z := own_m1) hown (mvT hZ (own_W hw 21 rfl)) (mvT hZ (own_W hw 22 rfl)) (notFace_of_selects (args := #[]) (mvT hZ (own_W hw 24 rfl))) (mvT hZ (own_W hw 24 rfl)) (mvT hZ (own_W hw 23 rfl)) (by decide) (backOf (W := 1) (rm23 l Z a0 hw [] h0 n0 p1 A K cs sb222 sa222 kc222 EN OL0 z5 z6 z2 z7) hZ (own_W hw 25 rfl) (own_W hw 9 rfl) (by decide) (by decide)) z8 z9 (g := (mkF m 6 #[.val (.ref sa222), .val (.int 2), .val (.int 46)] [(.ref sa222), (.int 2)])) rfl (by rw [hml]; rfl) (Steps.refl _) (argsL := []) (rest := [(.int 2)]) (lenOf own_pd2 rfl) rfl (by show 2 * 0 + _ ≤ _; exact Nat.le_of_eq rfl) (hb hby yi_6) (fun _ _ => ⟨rfl, e0, (by decide : 0 + 0 ≤ _), (by decide : 0 + 0 ≤ _)⟩)
  dsimp only [Pt.U, Pt.locs, Pt.cells, Pt.slots] at z0 l234 y234 z234 z4 z3
  replace z0 := own_sub z0 l234 y234 z234
  obtain ⟨rfl, za, zb⟩ := z3
  have zc := Fr.app N0 za
  obtain ⟨fs, hr, hrun, hended, hW, hsame⟩ := z0.leave (v := some (.int 0)) (fun h => by rw [Bd.returns] at h; cases h)
  refine ⟨_, _, pre0 _ ?_, hrun, hended, _, _, rfl, ?_, ⟨_, rfl⟩, hW, hsame.mono (by decide) (by decide)⟩
  · show own_Y p e below s₁ m 0 #[.val (.ref sa222), .val (.int 2), .val (.int 46)] [] _
    refine XS.iloadN X0.here hx rfl (hb hby yi_0) rfl ?_
    refine XS.ifNo X0.here hx rfl (hb hby yi_1) rfl ((if0 _ _).trans (flt (by decide : ¬ ((2 : Int32) < (0 : Int32)))).1) ?_
    show own_Y p e below s₁ m 4 #[.val (.ref sa222), .val (.int 2), .val (.int 46)] [] _
    refine XS.iloadN X0.here hx rfl (hb hby yi_4) rfl ?_
    refine XS.aloadN X0.here hx rfl (hb hby yi_5) rfl rfl ?_
    refine z4.trans ?_
    show own_Y p e below z1 m 9 #[.val (.ref sa222), .val (.int 2), .val (.int 46)] [(.int 2), (.int 2)] _
    refine XS.icmpYes z0.here hx rfl (pc0 := 9) (pc' := 25) rfl (hb hby yi_9) rfl (flt (by decide : ¬ ((2 : Int32) < (2 : Int32)))).2.1 (by decide) (by decide) ?_
    show own_Y p e below z1 m 25 #[.val (.ref sa222), .val (.int 2), .val (.int 46)] [] _
    refine XS.iconst z0.here hx rfl (hb hby yi_25) ?_
    exact retN z0 hx (t := .boolean) Bd.returns (by simp) (hb hby yi_26) hr
  · show PQ (some (.int 0)) h0 n0 _ z1.heap _
    rw [zb]
    exact ⟨rfl, zc, rfl⟩
theorem yj_10 : decode prog_40_method_13_code 10 = .ok (.iconst 1, 1) := by decide +kernel
theorem yj_11 : decode prog_40_method_13_code 11 = .ok (.goto 4, 3) := by decide +kernel
theorem rm45 (l : Launch) (Z : State) (a0 : Array Value) (hw : ∀ d ∈ tables_1, d.before a0 Z = true) (ws : List Jvm.Cond) (h0 : Heap) (n0 : Nat) (p1 : Int32) (A : Nat → Addr) (K : Nat → ClassId) (cs : Int32)  (sb222 : Addr) (sa222 : Addr) (kc222 : ClassId) (EN : own_St Z A K cs) (OL0 : Old Z n0 h0) (zk : Exa Z h0 sa222 y_s2) (zl : Fld Z h0 sa222 y_s2 "value" "[B" (.ref sb222)) (zm : Arv Z h0 sb222 kc222 .byte (2 : Int32) [(.int 45), (.int 48)] (.int 0)) (zn : Fld Z h0 sa222 y_s2 "coder" "B" (.int 0)) :
    own_MH l Z own_m24 prog_40_method_13_code 2 (some .int) ws (Room.mk 5 2 8 67) #[(.ref sa222)] h0 (QH (some (.int 2)) h0 n0) := by
  refine MetFree.of_bodySF (plainFor_of_name own_pn6) hisR ?_
  intro p e s m args below meth c s₁ Bd hml0 hP hK
  obtain ⟨rfl, hZ, hh, H0⟩ := hP
  have hx := Bd.exec
  have hby := Bd.bytes
  have hml : c.maxLocals = 2 := hml0
  have hown : s.vm.findClass y_s1 = some m.cls := findClass_of_methodNamed Bd.named
  have hnm := (name_of_methodNamed Bd.named Bd.method).1
  have hS0 : s.Since s.vm 0 := (State.WarmedH.refl s).since 0
  have zo : 0 ≤ h0.size := Nat.zero_le _
  have CR0 : CHr Z consts_1 s.vm h0 s.vm h0 := CHr.refl H0
  have X0 : Stand p l e (Room.mk 5 2 8 67) (s.setVm s.vm) m #[(.ref sa222)] below meth c s₁ [] 0 0 := Stand.of_body Bd
  have e0 : s₁.heap = h0 := by rw [← hh, Bd.state]; rfl
  have N0 := Fr.nil n0
  have pre0 : own_P p e below s₁ m 0 #[.val (.ref sa222), .unset] [] s₁ #[(.ref sa222)] 2 := fun t k => castTop (by first | (simp [entryFrame, mkF, argsToLocals, Value.category, maxLocals]; done) | rfl) k
  have KK0 : Keep h0 h0 [] := Keep.refl _ _
  have zp : own_P p e below s₁ m 2 #[.val (.ref sa222), .unset] [(.ref sa222), (.ref sa222)] s₁ #[(.ref sa222)] 2 := fun t k => pre0 t (by
    show own_Y p e below s₁ m 0 #[.val (.ref sa222), .unset] [] _
    refine XS.aloadN X0.here hx rfl (hb hby yj_0) rfl rfl ?_
    refine XS.aloadN X0.here hx rfl (hb hby yj_1) rfl rfl ?_
    exact k)
  obtain ⟨sa227, zq, z6, kk227, sb227, kc227, zr, zc, z3, hS227, zs, hZ, hown, Es227, Cs227, Vs227, As227, la227, lb227, C227, -, -, zt⟩ := ldcCH (s := s) X0 hx hZ hown (own_W hw 43 rfl) (own_strAtoms a0 Z hw) e0 hS0 zo (own_EW a0 Z hw) (List.mem_of_getElem? (i := 0) rfl) H0 (vs := [(.int 45)]) (z := (1 : Int32)) ⟨by decide, by decide⟩ (by decide) (by decide) (g := (mkF m 2 #[.val (.ref sa222), .unset] [(.ref sa222), (.ref sa222)])) rfl (hb hby yj_2) (n := 4) (by decide) (by decide) (by decide) (by decide)
  have CR227 := CR0.trans C227
  have z7 := OL0.ext z3
  have zu := KK0.ext z3
  have z5 := (zk.ext z3)
  have z8 := (zl.ext z3)
  have z9 := (zm.ext z3)
  have za := (zn.ext z3)
  obtain ⟨cq232, kq232, zv, z16, zw⟩ := isOf hZ zc z5
  obtain ⟨_, _, ⟨zd, L232, z17, n232⟩, -, z2, ⟨Lc232, ze, l232, y232, z232⟩, zf⟩ := zr.virtualBack hx (y := own_m11) (z := own_m11) hown (mvT hZ (own_W hw 44 rfl)) (mvT hZ (own_W hw 45 rfl)) (notFace_of_selects (args := #[]) (mvT hZ (own_W hw 47 rfl))) (mvT hZ (own_W hw 47 rfl)) (mvT hZ (own_W hw 46 rfl)) (by decide) (backOf (W := 1) (rm24 l Z a0 hw [] z6 n0 p1 A K cs sb222 sa222 sb227 sa227 kc222 kc227 EN z7 z5 z8 z9 za Es227 Vs227 As227 Cs227) hZ (own_W hw 48 rfl) (own_W hw 9 rfl) (by decide) (by decide)) zv zw (g := (mkF m 4 #[.val (.ref sa222), .unset] [(.ref sa227), (.ref sa222), (.ref sa222)])) rfl (by rw [hml]; rfl) (Steps.refl _) (argsL := [(.ref sa227)]) (rest := [(.ref sa222)]) (lenOf own_pd5 rfl) rfl (by show 2 * 0 + _ ≤ _; exact Nat.le_of_eq rfl) (hb hby yj_4) (fun _ _ => ⟨rfl, zc, (by decide : 2 + 0 ≤ _), (by decide : 8 + 0 ≤ _)⟩)
  dsimp only [Pt.U, Pt.locs, Pt.cells, Pt.slots] at z2 l232 y232 z232 zf ze
  replace z2 := own_sub z2 l232 y232 z232
  obtain ⟨rfl, zx, zy⟩ := ze
  have zz := Fr.app N0 zx
  obtain ⟨_, _, ⟨z10, L233, z18, n233⟩, -, z0, ⟨Lc233, zg, l233, y233, z233⟩, zh⟩ := Jvm.LawKit.callS z2 hx (y := own_m18) hown (mvT hZ (own_W hw 59 rfl)) (mvT hZ (own_W hw 60 rfl)) (mvT hZ (own_W hw 6 rfl)) (mvT hZ (own_W hw 61 rfl)) (by decide) (backOf (W := 0) (rm27 l Z a0 hw [] z6 n0 p1 A K cs sb222 sa222 kc222 EN z7 z5 z8 z9 za) hZ (own_W hw 61 rfl) (own_W hw 6 rfl) (by decide) (by decide)) (g := (mkF m 15 #[.val (.ref sa222), .unset] [(.int 1), (.ref sa222)])) rfl (by rw [hml]; rfl) (argsL := [(.ref sa222), (.int 1)]) (rest := []) (lenOf own_pd12 rfl) rfl (by show 2 * 0 + _ ≤ _; exact Nat.le_of_eq rfl) (hb hby yj_15) (fun _ _ => ⟨rfl, zy, (by decide : 2 + 0 ≤ _), (by decide : 8 + 0 ≤ _)⟩)
  dsimp only [Pt.U, Pt.locs, Pt.cells, Pt.slots] at z0 l233 y233 z233 zh zg
  replace z0 := own_sub z0 l233 y233 z233
  obtain ⟨rfl, z11, z12⟩ := zg
  have z13 := Fr.app zz z11
  obtain ⟨_, _, ⟨z4, L235, z19, n235⟩, -, z1, ⟨Lc235, zi, l235, y235, z235⟩, zj⟩ := Jvm.LawKit.callS z0 hx (y := own_m4) hown (mvT hZ (own_W hw 121 rfl)) (mvT hZ (own_W hw 122 rfl)) (mvT hZ (own_W hw 6 rfl)) (mvT hZ (own_W hw 123 rfl)) (by decide) (backOf (W := 0) (rm46 l Z a0 hw [] z6 n0 p1 A K cs sb222 sa222 kc222 EN z7 z5 z8 z9 za) hZ (own_W hw 123 rfl) (own_W hw 6 rfl) (by decide) (by decide)) (g := (mkF m 23 #[.val (.ref sa222), .val (.int 2)] [(.int 46), (.int 2), (.ref sa222)])) rfl (by rw [hml]; rfl) (argsL := [(.ref sa222), (.int 2), (.int 46)]) (rest := []) (lenOf own_pd14 rfl) rfl (by show 2 * 0 + _ ≤ _; exact Nat.le_of_eq rfl) (hb hby yj_23) (fun _ _ => ⟨rfl, z12, (by decide : 2 + 0 ≤ _), (by decide : 8 + 0 ≤ _)⟩)
  dsimp only [Pt.U, Pt.locs, Pt.cells, Pt.slots] at z1 l235 y235 z235 zj zi
  replace z1 := own_sub z1 l235 y235 z235
  obtain ⟨rfl, z14, zb⟩ := zi
  have z15 := Fr.app z13 z14
  obtain ⟨fs, hr, hrun, hended, hEW⟩ := z1.leaveW (s := s) hS227 (by rw [zb]; exact zs) (v := some (.int 2)) (fun h => by rw [Bd.returns] at h; cases h)
  refine ⟨_, _, zp _ ?_, hrun, hended, _, _, rfl, ?_, ?_, hEW.1, hEW.2.1, hEW.2.2.1, hEW.2.2.2.mono (by decide) (by decide)⟩
  · show own_Y p e below s₁ m 2 #[.val (.ref sa222), .unset] [(.ref sa222), (.ref sa222)] _
    refine zt _ ?_
    show own_Y p e below zq m 4 #[.val (.ref sa222), .unset] [(.ref sa227), (.ref sa222), (.ref sa222)] _
    refine zf.trans ?_
    show own_Y p e below zd m 7 #[.val (.ref sa222), .unset] [(.int 1), (.ref sa222)] _
    refine XS.ifNo z2.here hx rfl (hb hby yj_7) rfl ((if0 _ _).trans (feq (by decide : ¬ ((1 : Int32) = (0 : Int32)))).1) ?_
    show own_Y p e below zd m 10 #[.val (.ref sa222), .unset] [(.ref sa222)] _
    refine XS.iconst z2.here hx rfl (hb hby yj_10) ?_
    refine XS.goto z2.here hx rfl (pc0 := 11) (pc' := 15) rfl (hb hby yj_11) (by decide) (by decide) ?_
    refine zh _ ?_
    show own_Y p e below z10 m 18 #[.val (.ref sa222), .unset] [(.int 2)] _
    refine XS.istoreN z0.here hx rfl (hb hby yj_18) rfl (l' := #[.val (.ref sa222), .val (.int 2)]) rfl ?_
    refine XS.aloadN z0.here hx rfl (hb hby yj_19) rfl rfl ?_
    refine XS.iloadN z0.here hx rfl (hb hby yj_20) rfl ?_
    refine XS.bipush z0.here hx rfl (hb hby yj_21) ?_
    refine zj _ ?_
    show own_Y p e below z4 m 26 #[.val (.ref sa222), .val (.int 2)] [(.int 0)] _
    refine XS.ifYes z1.here hx rfl (pc0 := 26) (pc' := 39) rfl (hb hby yj_26) rfl ((if0 _ _).trans (teq (by decide : (0 : Int32) = (0 : Int32))).1) (by decide) (by decide) ?_
    show own_Y p e below z4 m 39 #[.val (.ref sa222), .val (.int 2)] [] _
    refine XS.iloadN z1.here hx rfl (hb hby yj_39) rfl ?_
    exact retI z1 hx Bd.returns (hb hby yj_40) hr
  · show QH (some (.int 2)) h0 n0 _ z4.heap _
    rw [zb]
    exact ⟨rfl, z15, zu⟩
  · show CHr Z consts_1 s.vm s.heap z4.vm z4.heap
    rw [hh, zb]
    exact CR227.trans (CHv.at z1 hZ (own_EW a0 Z hw) C227.1)
theorem rm44 (l : Launch) (Z : State) (a0 : Array Value) (hw : ∀ d ∈ tables_1, d.before a0 Z = true) (ws : List Jvm.Cond) (h0 : Heap) (n0 : Nat) (p1 : Int32) (A : Nat → Addr) (K : Nat → ClassId) (cs : Int32) (ta : Addr) (tj : Int32)  (sb222 : Addr) (sa222 : Addr) (kc222 : ClassId) (EN : own_St Z A K cs) (gE : Exa Z Z.heap ta y_s1) (gF : Fld Z Z.heap ta y_s3 "ordinal" "I" (.int tj)) (gj : tj = (4 : Int32) ∨ tj = (5 : Int32) ∨ tj = (6 : Int32) ∨ tj = (7 : Int32) ∨ tj = (8 : Int32) ∨ tj = (9 : Int32)) (OL0 : Old Z n0 h0) (z5 : Exa Z h0 sa222 y_s2) (z6 : Fld Z h0 sa222 y_s2 "value" "[B" (.ref sb222)) (z7 : Arv Z h0 sb222 kc222 .byte (2 : Int32) [(.int 45), (.int 48)] (.int 0)) (z8 : Fld Z h0 sa222 y_s2 "coder" "B" (.int 0)) :
    own_MH l Z own_m0 prog_40_method_7_code 3 (some .boolean) ws (Room.mk 6 2 8 80) #[(.ref ta), (.ref sa222)] h0 (QH (some (.int 1)) h0 n0) := by
  refine MetFree.of_bodySF (plainFor_of_name own_pn6) hisR ?_
  intro p e s m args below meth c s₁ Bd hml0 hP hK
  obtain ⟨rfl, hZ, hh, H0⟩ := hP
  have hx := Bd.exec
  have hby := Bd.bytes
  have hml : c.maxLocals = 3 := hml0
  have hown : s.vm.findClass y_s1 = some m.cls := findClass_of_methodNamed Bd.named
  have hnm := (name_of_methodNamed Bd.named Bd.method).1
  have hS0 : s.Since s.vm 0 := (State.WarmedH.refl s).since 0
  have zj : 0 ≤ h0.size := Nat.zero_le _
  have CR0 : CHr Z consts_1 s.vm h0 s.vm h0 := CHr.refl H0
  have X0 : Stand p l e (Room.mk 6 2 8 80) (s.setVm s.vm) m #[(.ref ta), (.ref sa222)] below meth c s₁ [] 0 0 := Stand.of_body Bd
  have e0 : s₁.heap = h0 := by rw [← hh, Bd.state]; rfl
  have N0 := Fr.nil n0
  have pre0 : own_P p e below s₁ m 0 #[.val (.ref ta), .val (.ref sa222), .unset] [] s₁ #[(.ref ta), (.ref sa222)] 3 := fun t k => castTop (by first | (simp [entryFrame, mkF, argsToLocals, Value.category, maxLocals]; done) | rfl) k
  have KK0 : Keep h0 h0 [] := Keep.refl _ _
  obtain ⟨cq236, kq236, zk, zv, zl⟩ := isOf hZ e0 z5
  obtain ⟨_, _, ⟨z9, L236, zw, n236⟩, -, z1, ⟨Lc236, za, l236, y236, z236⟩, zb⟩ := X0.virtualBack hx (y := own_m1) (z := own_m1) hown (mvT hZ (own_W hw 21 rfl)) (mvT hZ (own_W hw 22 rfl)) (notFace_of_selects (args := #[]) (mvT hZ (own_W hw 24 rfl))) (mvT hZ (own_W hw 24 rfl)) (mvT hZ (own_W hw 23 rfl)) (by decide) (backOf (W := 0) (rm23 l Z a0 hw [] h0 n0 p1 A K cs sb222 sa222 kc222 EN OL0 z6 z7 z5 z8) hZ (own_W hw 25 rfl) (own_W hw 9 rfl) (by decide) (by decide)) zk zl (g := (mkF m 1 #[.val (.ref ta), .val (.ref sa222), .unset] [(.ref sa222)])) rfl (by rw [hml]; rfl) (Steps.refl _) (argsL := []) (rest := []) (lenOf own_pd2 rfl) rfl (by show 2 * 0 + _ ≤ _; exact Nat.le_of_eq rfl) (hb hby ye_1) (fun _ _ => ⟨rfl, e0, (by decide : 0 + 0 ≤ _), (by decide : 0 + 0 ≤ _)⟩)
  dsimp only [Pt.U, Pt.locs, Pt.cells, Pt.slots] at z1 l236 y236 z236 zb za
  replace z1 := own_sub z1 l236 y236 z236
  obtain ⟨rfl, zm, zc⟩ := za
  have zn := Fr.app N0 zm
  obtain ⟨cq237, kq237, zo, zx, zp⟩ := isOf hZ zc (gE.ext OL0.2)
  obtain ⟨_, _, ⟨z4, L237, zy, n237⟩, -, z2, ⟨Lc237, zd, l237, y237, z237⟩, ze⟩ := z1.virtualBackUp hx (x := own_m8) (y := own_m7) (owner := y_s3) hown (mvT hZ (own_W hw 34 rfl)) (mvT hZ (own_W hw 35 rfl)) (mvT hZ (own_W hw 36 rfl)) (by decide) (mvT hZ (own_W hw 38 rfl)) (mvT hZ (own_W hw 37 rfl)) (backOf (W := 0) (rm4 l Z a0 hw [] h0 n0 p1 A K cs ta tj EN gE gF OL0) hZ (own_W hw 40 rfl) (own_W hw 39 rfl) (by decide) (by decide)) zo zp (g := (mkF m 12 #[.val (.ref ta), .val (.ref sa222), .val (.int 2)] [(.ref ta)])) rfl (by rw [hml]; rfl) (Steps.refl _) (argsL := []) (rest := []) (lenOf own_pd2 rfl) rfl (by show 2 * 0 + _ ≤ _; exact Nat.le_of_eq rfl) (hb hby ye_12) (fun _ _ => ⟨rfl, zc, (by decide : 0 + 0 ≤ _), (by decide : 0 + 0 ≤ _)⟩)
  dsimp only [Pt.U, Pt.locs, Pt.cells, Pt.slots] at z2 l237 y237 z237 ze zd
  replace z2 := own_sub z2 l237 y237 z237
  obtain ⟨rfl, zq, zf⟩ := zd
  have zr := Fr.app zn zq
  have ts238 : ∀ t, Steps p.tables e below (z4.setTop (mkF m 214 #[.val (.ref ta), .val (.ref sa222), .val (.int 2)] [])) t → Steps p.tables e below (z4.setTop (mkF m 15 #[.val (.ref ta), .val (.ref sa222), .val (.int 2)] [(.int tj)])) t := by
    intro t k
    rcases gj with rfl | rfl | rfl | rfl | rfl | rfl <;> exact XS.tswIn z2.here hx rfl (pc0 := 15) (pc' := 214) rfl (hb hby ye_15) rfl (by decide) (o := 199) (by decide) (by decide) (by decide) k
  obtain ⟨_, _, ⟨z3, L239, zz, n239⟩, -, z0, hSc239, hgr239, ⟨Lc239, zg, l239, y239, z239, C239⟩, zh⟩ := callSS z2 hx (y := own_m24) hown (mvT hZ (own_W hw 118 rfl)) (mvT hZ (own_W hw 119 rfl)) (mvT hZ (own_W hw 6 rfl)) (mvT hZ (own_W hw 120 rfl)) (by decide) (backOfSH (EL := consts_1) (W := 0) (rm45 l Z a0 hw [] h0 n0 p1 A K cs sb222 sa222 kc222 EN OL0 z5 z6 z7 z8) hZ (own_W hw 120 rfl) (own_W hw 6 rfl) (by decide) (by decide) (own_EW a0 Z hw) H0) (g := (mkF m 215 #[.val (.ref ta), .val (.ref sa222), .val (.int 2)] [(.ref sa222)])) rfl (by rw [hml]; rfl) (argsL := [(.ref sa222)]) (rest := []) (lenOf own_pd15 rfl) rfl (by show 2 * 0 + _ ≤ _; exact Nat.le_of_eq rfl) (hb hby ye_215) (fun _ _ => ⟨rfl, zf, (by decide : 0 + 2 ≤ _), (by decide : 0 + 8 ≤ _)⟩)
  dsimp only [Pt.U, Pt.locs, Pt.cells, Pt.slots] at z0 hSc239 hgr239 l239 y239 z239 zh zg C239
  obtain ⟨Xr239, hS239, hZ, hown⟩ := rebS (s := s) hS0 (by rw [zf]; exact zj) z0 hSc239 hgr239 hZ hown
  replace z0 := own_sub Xr239 l239 y239 z239
  have CR239 := CR0.trans C239
  obtain ⟨rfl, zs, zi⟩ := zg
  have zt := Fr.app zr zs
  have z10 := OL0.keep zi all0
  have zu := KK0.trans zi all0
  obtain ⟨fs, hr, hrun, hended, hEW⟩ := z0.leaveW (s := s) hS239 (by exact (Nat.le_refl _)) (v := some (.int 1)) (fun h => by rw [Bd.returns] at h; cases h)
  refine ⟨_, _, pre0 _ ?_, hrun, hended, _, _, rfl, ?_, ?_, hEW.1, hEW.2.1, hEW.2.2.1, hEW.2.2.2.mono (by decide) (by decide)⟩
  · show own_Y p e below s₁ m 0 #[.val (.ref ta), .val (.ref sa222), .unset] [] _
    refine XS.aloadN X0.here hx rfl (hb hby ye_0) rfl rfl ?_
    refine zb.trans ?_
    show own_Y p e below z9 m 4 #[.val (.ref ta), .val (.ref sa222), .unset] [(.int 2)] _
    refine XS.istoreN z1.here hx rfl (hb hby ye_4) rfl (l' := #[.val (.ref ta), .val (.ref sa222), .val (.int 2)]) rfl ?_
    refine XS.iloadN z1.here hx rfl (hb hby ye_5) rfl ?_
    refine XS.ifYes z1.here hx rfl (pc0 := 6) (pc' := 11) rfl (hb hby ye_6) rfl ((if0 _ _).trans (feq (by decide : ¬ ((2 : Int32) = (0 : Int32)))).2) (by decide) (by decide) ?_
    show own_Y p e below z9 m 11 #[.val (.ref ta), .val (.ref sa222), .val (.int 2)] [] _
    refine XS.aloadN z1.here hx rfl (hb hby ye_11) rfl rfl ?_
    refine ze.trans ?_
    show own_Y p e below z4 m 15 #[.val (.ref ta), .val (.ref sa222), .val (.int 2)] [(.int tj)] _
    refine ts238 _ ?_
    show own_Y p e below z4 m 214 #[.val (.ref ta), .val (.ref sa222), .val (.int 2)] [] _
    refine XS.aloadN z2.here hx rfl (hb hby ye_214) rfl rfl ?_
    refine zh.trans ?_
    show own_Y p e below z3 m 218 #[.val (.ref ta), .val (.ref sa222), .val (.int 2)] [(.int 2)] _
    refine XS.iloadN z0.here hx rfl (hb hby ye_218) rfl ?_
    refine XS.icmpNo z0.here hx rfl (hb hby ye_219) rfl (teq (by decide : (2 : Int32) = (2 : Int32))).2 ?_
    show own_Y p e below z3 m 222 #[.val (.ref ta), .val (.ref sa222), .val (.int 2)] [] _
    refine XS.iconst z0.here hx rfl (hb hby ye_222) ?_
    refine XS.goto z0.here hx rfl (pc0 := 223) (pc' := 426) rfl (hb hby ye_223) (by decide) (by decide) ?_
    exact retN z0 hx (t := .boolean) Bd.returns (by simp) (hb hby ye_426) hr
  · show QH (some (.int 1)) h0 n0 _ z3.heap _
    exact ⟨rfl, zt, zu⟩
  · show CHr Z consts_1 s.vm s.heap z3.vm z3.heap
    rw [hh]
    exact CR239.trans (CHv.at z0 hZ (own_EW a0 Z hw) C239.1)
theorem ye_230 : decode prog_40_method_7_code 230 = .ok (.iload_n 2, 1) := by decide +kernel
theorem ye_231 : decode prog_40_method_7_code 231 = .ok (.iconst 1, 1) := by decide +kernel
theorem ye_232 : decode prog_40_method_7_code 232 = .ok (.if_icmp .ne 7, 3) := by decide +kernel
theorem ye_239 : decode prog_40_method_7_code 239 = .ok (.iconst 0, 1) := by decide +kernel
theorem ye_240 : decode prog_40_method_7_code 240 = .ok (.goto 186, 3) := by decide +kernel
theorem rm47 (l : Launch) (Z : State) (a0 : Array Value) (hw : ∀ d ∈ tables_1, d.before a0 Z = true) (ws : List Jvm.Cond) (h0 : Heap) (n0 : Nat) (p1 : Int32) (A : Nat → Addr) (K : Nat → ClassId) (cs : Int32) (ta : Addr) (tj : Int32)  (sb284 : Addr) (sa284 : Addr) (kc284 : ClassId) (EN : own_St Z A K cs) (gE : Exa Z Z.heap ta y_s1) (gF : Fld Z Z.heap ta y_s3 "ordinal" "I" (.int tj)) (gj : tj = (10 : Int32)) (OL0 : Old Z n0 h0) (z3 : Exa Z h0 sa284 y_s2) (za : Fld Z h0 sa284 y_s2 "value" "[B" (.ref sb284)) (zb : Arv Z h0 sb284 kc284 .byte (2 : Int32) [(.int 48), (.int 48)] (.int 0)) (zc : Fld Z h0 sa284 y_s2 "coder" "B" (.int 0)) :
    own_MF l Z own_m0 prog_40_method_7_code 3 (some .boolean) ws (Room.mk 2 0 0 25) #[(.ref ta), (.ref sa284)] h0 (PQ (some (.int 0)) h0 n0) := by
  refine MetFree.of_bodySF (plainFor_of_name own_pn6) hisR ?_
  intro p e s m args below meth c s₁ Bd hml0 hP hK
  obtain ⟨rfl, hZ, hh⟩ := hP
  have hx := Bd.exec
  have hby := Bd.bytes
  have hml : c.maxLocals = 3 := hml0
  have hown : s.vm.findClass y_s1 = some m.cls := findClass_of_methodNamed Bd.named
  have hnm := (name_of_methodNamed Bd.named Bd.method).1
  have X0 : Stand p l e (Room.mk 2 0 0 25) s m #[(.ref ta), (.ref sa284)] below meth c s₁ [] 0 0 := Stand.of_body Bd
  have e0 : s₁.heap = h0 := by rw [← hh, Bd.state]; rfl
  have N0 := Fr.nil n0
  have pre0 : own_P p e below s₁ m 0 #[.val (.ref ta), .val (.ref sa284), .unset] [] s₁ #[(.ref ta), (.ref sa284)] 3 := fun t k => castTop (by first | (simp [entryFrame, mkF, argsToLocals, Value.category, maxLocals]; done) | rfl) k
  have KK0 : Keep h0 h0 [] := Keep.refl _ _
  obtain ⟨cq285, kq285, zd, zm, ze⟩ := isOf hZ e0 z3
  obtain ⟨_, _, ⟨z4, L285, zn, n285⟩, -, z1, ⟨Lc285, z5, l285, y285, z285⟩, z6⟩ := X0.virtualBack hx (y := own_m1) (z := own_m1) hown (mvT hZ (own_W hw 21 rfl)) (mvT hZ (own_W hw 22 rfl)) (notFace_of_selects (args := #[]) (mvT hZ (own_W hw 24 rfl))) (mvT hZ (own_W hw 24 rfl)) (mvT hZ (own_W hw 23 rfl)) (by decide) (backOf (W := 0) (rm2 l Z a0 hw [] h0 n0 p1 A K cs sb284 sa284 kc284 EN OL0 za zb z3 zc) hZ (own_W hw 25 rfl) (own_W hw 9 rfl) (by decide) (by decide)) zd ze (g := (mkF m 1 #[.val (.ref ta), .val (.ref sa284), .unset] [(.ref sa284)])) rfl (by rw [hml]; rfl) (Steps.refl _) (argsL := []) (rest := []) (lenOf own_pd2 rfl) rfl (by show 2 * 0 + _ ≤ _; exact Nat.le_of_eq rfl) (hb hby ye_1) (fun _ _ => ⟨rfl, e0, (by decide : 0 + 0 ≤ _), (by decide : 0 + 0 ≤ _)⟩)
  dsimp only [Pt.U, Pt.locs, Pt.cells, Pt.slots] at z1 l285 y285 z285 z6 z5
  replace z1 := own_sub z1 l285 y285 z285
  obtain ⟨rfl, zf, z7⟩ := z5
  have zg := Fr.app N0 zf
  obtain ⟨cq286, kq286, zh, zo, zi⟩ := isOf hZ z7 (gE.ext OL0.2)
  obtain ⟨_, _, ⟨z2, L286, zp, n286⟩, -, z0, ⟨Lc286, z8, l286, y286, z286⟩, z9⟩ := z1.virtualBackUp hx (x := own_m8) (y := own_m7) (owner := y_s3) hown (mvT hZ (own_W hw 34 rfl)) (mvT hZ (own_W hw 35 rfl)) (mvT hZ (own_W hw 36 rfl)) (by decide) (mvT hZ (own_W hw 38 rfl)) (mvT hZ (own_W hw 37 rfl)) (backOf (W := 0) (rm4 l Z a0 hw [] h0 n0 p1 A K cs ta tj EN gE gF OL0) hZ (own_W hw 40 rfl) (own_W hw 39 rfl) (by decide) (by decide)) zh zi (g := (mkF m 12 #[.val (.ref ta), .val (.ref sa284), .val (.int 2)] [(.ref ta)])) rfl (by rw [hml]; rfl) (Steps.refl _) (argsL := []) (rest := []) (lenOf own_pd2 rfl) rfl (by show 2 * 0 + _ ≤ _; exact Nat.le_of_eq rfl) (hb hby ye_12) (fun _ _ => ⟨rfl, z7, (by decide : 0 + 0 ≤ _), (by decide : 0 + 0 ≤ _)⟩)
  dsimp only [Pt.U, Pt.locs, Pt.cells, Pt.slots] at z0 l286 y286 z286 z9 z8
  replace z0 := own_sub z0 l286 y286 z286
  obtain ⟨rfl, zj, zk⟩ := z8
  have zl := Fr.app zg zj
  have ts287 : ∀ t, Steps p.tables e below (z2.setTop (mkF m 230 #[.val (.ref ta), .val (.ref sa284), .val (.int 2)] [])) t → Steps p.tables e below (z2.setTop (mkF m 15 #[.val (.ref ta), .val (.ref sa284), .val (.int 2)] [(.int tj)])) t := by
    intro t k
    rcases gj with rfl <;> exact XS.tswIn z0.here hx rfl (pc0 := 15) (pc' := 230) rfl (hb hby ye_15) rfl (by decide) (o := 215) (by decide) (by decide) (by decide) k
  obtain ⟨fs, hr, hrun, hended, hW, hsame⟩ := z0.leave (v := some (.int 0)) (fun h => by rw [Bd.returns] at h; cases h)
  refine ⟨_, _, pre0 _ ?_, hrun, hended, _, _, rfl, ?_, ⟨_, rfl⟩, hW, hsame.mono (by decide) (by decide)⟩
  · show own_Y p e below s₁ m 0 #[.val (.ref ta), .val (.ref sa284), .unset] [] _
    refine XS.aloadN X0.here hx rfl (hb hby ye_0) rfl rfl ?_
    refine z6.trans ?_
    show own_Y p e below z4 m 4 #[.val (.ref ta), .val (.ref sa284), .unset] [(.int 2)] _
    refine XS.istoreN z1.here hx rfl (hb hby ye_4) rfl (l' := #[.val (.ref ta), .val (.ref sa284), .val (.int 2)]) rfl ?_
    refine XS.iloadN z1.here hx rfl (hb hby ye_5) rfl ?_
    refine XS.ifYes z1.here hx rfl (pc0 := 6) (pc' := 11) rfl (hb hby ye_6) rfl ((if0 _ _).trans (feq (by decide : ¬ ((2 : Int32) = (0 : Int32)))).2) (by decide) (by decide) ?_
    show own_Y p e below z4 m 11 #[.val (.ref ta), .val (.ref sa284), .val (.int 2)] [] _
    refine XS.aloadN z1.here hx rfl (hb hby ye_11) rfl rfl ?_
    refine z9.trans ?_
    show own_Y p e below z2 m 15 #[.val (.ref ta), .val (.ref sa284), .val (.int 2)] [(.int tj)] _
    refine ts287 _ ?_
    show own_Y p e below z2 m 230 #[.val (.ref ta), .val (.ref sa284), .val (.int 2)] [] _
    refine XS.iloadN z0.here hx rfl (hb hby ye_230) rfl ?_
    refine XS.iconst z0.here hx rfl (hb hby ye_231) ?_
    refine XS.icmpYes z0.here hx rfl (pc0 := 232) (pc' := 239) rfl (hb hby ye_232) rfl (feq (by decide : ¬ ((2 : Int32) = (1 : Int32)))).2 (by decide) (by decide) ?_
    show own_Y p e below z2 m 239 #[.val (.ref ta), .val (.ref sa284), .val (.int 2)] [] _
    refine XS.iconst z0.here hx rfl (hb hby ye_239) ?_
    refine XS.goto z0.here hx rfl (pc0 := 240) (pc' := 426) rfl (hb hby ye_240) (by decide) (by decide) ?_
    exact retN z0 hx (t := .boolean) Bd.returns (by simp) (hb hby ye_426) hr
  · show PQ (some (.int 0)) h0 n0 _ z2.heap _
    rw [zk]
    exact ⟨rfl, zl, rfl⟩
theorem yk_0 : decode jdk_43_method_13_code 0 = .ok (.aload_n 0, 1) := by decide +kernel
theorem yk_1 : decode jdk_43_method_13_code 1 = .ok (.arraylength, 1) := by decide +kernel
theorem yk_2 : decode jdk_43_method_13_code 2 = .ok (.aload_n 1, 1) := by decide +kernel
theorem yk_3 : decode jdk_43_method_13_code 3 = .ok (.arraylength, 1) := by decide +kernel
theorem yk_4 : decode jdk_43_method_13_code 4 = .ok (.if_icmp .ne 30, 3) := by decide +kernel
theorem yk_34 : decode jdk_43_method_13_code 34 = .ok (.iconst 0, 1) := by decide +kernel
theorem yk_35 : decode jdk_43_method_13_code 35 = .ok (.ireturn, 1) := by decide +kernel
theorem rm50 (l : Launch) (Z : State) (a0 : Array Value) (hw : ∀ d ∈ tables_1, d.before a0 Z = true) (ws : List Jvm.Cond) (h0 : Heap) (n0 : Nat) (p1 : Int32) (A : Nat → Addr) (K : Nat → ClassId) (cs : Int32)  (sb292 : Addr) (sb300 : Addr) (kc292 : ClassId) (kc300 : ClassId) (EN : own_St Z A K cs) (OL0 : Old Z n0 h0) (z2 : Arv Z h0 sb292 kc292 .byte (2 : Int32) [(.int 48), (.int 48)] (.int 0)) (z3 : Arv Z h0 sb300 kc300 .byte (1 : Int32) [(.int 89)] (.int 0)) :
    own_MF l Z own_m25 jdk_43_method_13_code 3 (some .boolean) ws (Room.mk 0 0 0 0) #[(.ref sb292), (.ref sb300)] h0 (PQ (some (.int 0)) h0 n0) := by
  refine MetFree.of_bodySF (plainFor_of_name own_pn5) hisR ?_
  intro p e s m args below meth c s₁ Bd hml0 hP hK
  obtain ⟨rfl, hZ, hh⟩ := hP
  have hx := Bd.exec
  have hby := Bd.bytes
  have hml : c.maxLocals = 3 := hml0
  have hown : s.vm.findClass "java/lang/StringLatin1" = some m.cls := findClass_of_methodNamed Bd.named
  have hnm := (name_of_methodNamed Bd.named Bd.method).1
  have X0 : Stand p l e (Room.mk 0 0 0 0) s m #[(.ref sb292), (.ref sb300)] below meth c s₁ [] 0 0 := Stand.of_body Bd
  have e0 : s₁.heap = h0 := by rw [← hh, Bd.state]; rfl
  have N0 := Fr.nil n0
  have pre0 : own_P p e below s₁ m 0 #[.val (.ref sb292), .val (.ref sb300), .unset] [] s₁ #[(.ref sb292), (.ref sb300)] 3 := fun t k => castTop (by first | (simp [entryFrame, mkF, argsToLocals, Value.category, maxLocals]; done) | rfl) k
  have KK0 : Keep h0 h0 [] := Keep.refl _ _
  obtain ⟨z8, z0, -, z4, z5, -, -⟩ := (id z2)
  obtain ⟨z9, z1, -, z6, z7, -, -⟩ := (id z3)
  obtain ⟨fs, hr, hrun, hended, hW, hsame⟩ := X0.leave (v := some (.int 0)) (fun h => by rw [Bd.returns] at h; cases h)
  refine ⟨_, _, pre0 _ ?_, hrun, hended, _, _, rfl, ?_, ⟨_, rfl⟩, hW, hsame.mono (by decide) (by decide)⟩
  · show own_Y p e below s₁ m 0 #[.val (.ref sb292), .val (.ref sb300), .unset] [] _
    refine XS.aloadN X0.here hx rfl (hb hby yk_0) rfl rfl ?_
    refine X0.arraylength hx (by rw [e0]; exact z0.1) (State.isArrayOf_alike hZ.alike z0.2.1) (g := (mkF m 1 #[.val (.ref sb292), .val (.ref sb300), .unset] [(.ref sb292)])) rfl rfl (hb hby yk_1) _ ?_
    rw [len_of z4 z5]
    show own_Y p e below s₁ m 2 #[.val (.ref sb292), .val (.ref sb300), .unset] [(.int 2)] _
    refine XS.aloadN X0.here hx rfl (hb hby yk_2) rfl rfl ?_
    refine X0.arraylength hx (by rw [e0]; exact z1.1) (State.isArrayOf_alike hZ.alike z1.2.1) (g := (mkF m 3 #[.val (.ref sb292), .val (.ref sb300), .unset] [(.ref sb300), (.int 2)])) rfl rfl (hb hby yk_3) _ ?_
    rw [len_of z6 z7]
    show own_Y p e below s₁ m 4 #[.val (.ref sb292), .val (.ref sb300), .unset] [(.int 1), (.int 2)] _
    refine XS.icmpYes X0.here hx rfl (pc0 := 4) (pc' := 34) rfl (hb hby yk_4) rfl (feq (by decide : ¬ ((2 : Int32) = (1 : Int32)))).2 (by decide) (by decide) ?_
    show own_Y p e below s₁ m 34 #[.val (.ref sb292), .val (.ref sb300), .unset] [] _
    refine XS.iconst X0.here hx rfl (hb hby yk_34) ?_
    exact retN X0 hx (t := .boolean) Bd.returns (by simp) (hb hby yk_35) hr
  · show PQ (some (.int 0)) h0 n0 _ s₁.heap _
    rw [e0]
    exact ⟨rfl, N0, rfl⟩
theorem yl_0 : decode jdk_42_method_66_code 0 = .ok (.aload_n 0, 1) := by decide +kernel
theorem yl_1 : decode jdk_42_method_66_code 1 = .ok (.aload_n 1, 1) := by decide +kernel
theorem yl_2 : decode jdk_42_method_66_code 2 = .ok (.if_acmp .ne 5, 3) := by decide +kernel
theorem yl_7 : decode jdk_42_method_66_code 7 = .ok (.aload_n 1, 1) := by decide +kernel
theorem yl_8 : decode jdk_42_method_66_code 8 = .ok (.instanceof 10, 3) := by decide +kernel
theorem yl_11 : decode jdk_42_method_66_code 11 = .ok (.ifCond .eq 43, 3) := by decide +kernel
theorem yl_14 : decode jdk_42_method_66_code 14 = .ok (.aload_n 1, 1) := by decide +kernel
theorem yl_15 : decode jdk_42_method_66_code 15 = .ok (.checkcast 10, 3) := by decide +kernel
theorem yl_18 : decode jdk_42_method_66_code 18 = .ok (.astore_n 2, 1) := by decide +kernel
theorem yl_19 : decode jdk_42_method_66_code 19 = .ok (.getstatic 38, 3) := by decide +kernel
theorem yl_22 : decode jdk_42_method_66_code 22 = .ok (.ifCond .eq 14, 3) := by decide +kernel
theorem yl_25 : decode jdk_42_method_66_code 25 = .ok (.aload_n 0, 1) := by decide +kernel
theorem yl_26 : decode jdk_42_method_66_code 26 = .ok (.getfield 15, 3) := by decide +kernel
theorem yl_29 : decode jdk_42_method_66_code 29 = .ok (.aload_n 2, 1) := by decide +kernel
theorem yl_30 : decode jdk_42_method_66_code 30 = .ok (.getfield 15, 3) := by decide +kernel
theorem yl_33 : decode jdk_42_method_66_code 33 = .ok (.if_icmp .ne 21, 3) := by decide +kernel
theorem yl_36 : decode jdk_42_method_66_code 36 = .ok (.aload_n 0, 1) := by decide +kernel
theorem yl_37 : decode jdk_42_method_66_code 37 = .ok (.getfield 9, 3) := by decide +kernel
theorem yl_40 : decode jdk_42_method_66_code 40 = .ok (.aload_n 2, 1) := by decide +kernel
theorem yl_41 : decode jdk_42_method_66_code 41 = .ok (.getfield 9, 3) := by decide +kernel
theorem yl_44 : decode jdk_42_method_66_code 44 = .ok (.invokestatic 541, 3) := by decide +kernel
theorem yl_47 : decode jdk_42_method_66_code 47 = .ok (.ifCond .eq 7, 3) := by decide +kernel
theorem yl_54 : decode jdk_42_method_66_code 54 = .ok (.iconst 0, 1) := by decide +kernel
theorem yl_55 : decode jdk_42_method_66_code 55 = .ok (.ireturn, 1) := by decide +kernel
theorem rm49 (l : Launch) (Z : State) (a0 : Array Value) (hw : ∀ d ∈ tables_1, d.before a0 Z = true) (ws : List Jvm.Cond) (h0 : Heap) (n0 : Nat) (p1 : Int32) (A : Nat → Addr) (K : Nat → ClassId) (cs : Int32)  (sb292 : Addr) (sa292 : Addr) (sb300 : Addr) (sa300 : Addr) (kc292 : ClassId) (kc300 : ClassId) (EN : own_St Z A K cs) (OL0 : Old Z n0 h0) (z5 : Fld Z h0 sa292 y_s2 "value" "[B" (.ref sb292)) (z6 : Fld Z h0 sa300 y_s2 "value" "[B" (.ref sb300)) (z7 : Arv Z h0 sb292 kc292 .byte (2 : Int32) [(.int 48), (.int 48)] (.int 0)) (z8 : Arv Z h0 sb300 kc300 .byte (1 : Int32) [(.int 89)] (.int 0)) (z9 : Exa Z h0 sa300 y_s2) (zi : Fld Z h0 sa292 y_s2 "coder" "B" (.int 0)) (zj : Fld Z h0 sa300 y_s2 "coder" "B" (.int 0)) :
    own_MF l Z own_m20 jdk_42_method_66_code 3 (some .boolean) ws (Room.mk 1 0 0 14) #[(.ref sa292), (.ref sa300)] h0 (PQ (some (.int 0)) h0 n0) := by
  refine MetFree.of_bodySF (plainFor_of_name own_pn1) hisR ?_
  intro p e s m args below meth c s₁ Bd hml0 hP hK
  obtain ⟨rfl, hZ, hh⟩ := hP
  have hx := Bd.exec
  have hby := Bd.bytes
  have hml : c.maxLocals = 3 := hml0
  have hown : s.vm.findClass y_s2 = some m.cls := findClass_of_methodNamed Bd.named
  have hnm := (name_of_methodNamed Bd.named Bd.method).1
  have X0 : Stand p l e (Room.mk 1 0 0 14) s m #[(.ref sa292), (.ref sa300)] below meth c s₁ [] 0 0 := Stand.of_body Bd
  have e0 : s₁.heap = h0 := by rw [← hh, Bd.state]; rfl
  have N0 := Fr.nil n0
  have pre0 : own_P p e below s₁ m 0 #[.val (.ref sa292), .val (.ref sa300), .unset] [] s₁ #[(.ref sa292), (.ref sa300)] 3 := fun t k => castTop (by first | (simp [entryFrame, mkF, argsToLocals, Value.category, maxLocals]; done) | rfl) k
  have KK0 : Keep h0 h0 [] := Keep.refl _ _
  obtain ⟨za, z1, zk, zl⟩ := instY X0 hx hZ hown (own_W hw 134 rfl) e0 (Ins.self z9) (g := (mkF m 8 #[.val (.ref sa292), .val (.ref sa300), .unset] [(.ref sa300)])) rfl rfl (hb hby yl_8)
  obtain ⟨zm, zb, zn, zo⟩ := castY z1 hx hZ hown (own_W hw 134 rfl) zk (Ins.self z9) (g := (mkF m 15 #[.val (.ref sa292), .val (.ref sa300), .unset] [(.ref sa300)])) rfl rfl (hb hby yl_15)
  obtain ⟨zc, z2, zp, zq⟩ := getS2 zb hx hZ hown (host := "") (Or.inl (own_W hw 32 rfl)) Via.refl zn (EN.2.2.2.2.2.2.2.1.1.ext OL0.2) (g := (mkF m 19 #[.val (.ref sa292), .val (.ref sa300), .val (.ref sa300)] [])) rfl (hb hby yl_19)
  obtain ⟨zr, zd, zs, zt⟩ := getF z2 hx hZ hown (host := "") (Or.inl (own_W hw 33 rfl)) Via.refl zp zi (g := (mkF m 26 #[.val (.ref sa292), .val (.ref sa300), .val (.ref sa300)] [(.ref sa292)])) rfl rfl (hb hby yl_26)
  obtain ⟨ze, z3, zu, zv⟩ := getF zd hx hZ hown (host := "") (Or.inl (own_W hw 33 rfl)) Via.refl zs zj (g := (mkF m 30 #[.val (.ref sa292), .val (.ref sa300), .val (.ref sa300)] [(.ref sa300), (.int 0)])) rfl rfl (hb hby yl_30)
  obtain ⟨zw, zf, zx, zy⟩ := getF z3 hx hZ hown (host := "") (Or.inl (own_W hw 26 rfl)) Via.refl zu z5 (g := (mkF m 37 #[.val (.ref sa292), .val (.ref sa300), .val (.ref sa300)] [(.ref sa292)])) rfl rfl (hb hby yl_37)
  obtain ⟨zz, z10, z11, z12⟩ := getF zf hx hZ hown (host := "") (Or.inl (own_W hw 26 rfl)) Via.refl zx z6 (g := (mkF m 41 #[.val (.ref sa292), .val (.ref sa300), .val (.ref sa300)] [(.ref sa300), (.ref sb292)])) rfl rfl (hb hby yl_41)
  obtain ⟨_, _, ⟨z4, L311, z16, n311⟩, -, z0, ⟨Lc311, zg, l311, y311, z311⟩, zh⟩ := Jvm.LawKit.callS z10 hx (y := own_m25) hown (mvT hZ (own_W hw 136 rfl)) (mvT hZ (own_W hw 137 rfl)) (mvT hZ (own_W hw 74 rfl)) (mvT hZ (own_W hw 138 rfl)) (by decide) (backOf (W := 0) (rm50 l Z a0 hw [] h0 n0 p1 A K cs sb292 sb300 kc292 kc300 EN OL0 z7 z8) hZ (own_W hw 138 rfl) (own_W hw 74 rfl) (by decide) (by decide)) (g := (mkF m 44 #[.val (.ref sa292), .val (.ref sa300), .val (.ref sa300)] [(.ref sb300), (.ref sb292)])) rfl (by rw [hml]; rfl) (argsL := [(.ref sb292), (.ref sb300)]) (rest := []) (lenOf own_pd16 rfl) rfl (by show 2 * 0 + _ ≤ _; exact Nat.le_of_eq rfl) (hb hby yl_44) (fun _ _ => ⟨rfl, z11, (by decide : 0 + 0 ≤ _), (by decide : 0 + 0 ≤ _)⟩)
  dsimp only [Pt.U, Pt.locs, Pt.cells, Pt.slots] at z0 l311 y311 z311 zh zg
  replace z0 := own_sub z0 l311 y311 z311
  obtain ⟨rfl, z13, z14⟩ := zg
  have z15 := Fr.app N0 z13
  obtain ⟨fs, hr, hrun, hended, hW, hsame⟩ := z0.leave (v := some (.int 0)) (fun h => by rw [Bd.returns] at h; cases h)
  refine ⟨_, _, pre0 _ ?_, hrun, hended, _, _, rfl, ?_, ⟨_, rfl⟩, hW, hsame.mono (by decide) (by decide)⟩
  · show own_Y p e below s₁ m 0 #[.val (.ref sa292), .val (.ref sa300), .unset] [] _
    refine XS.aloadN X0.here hx rfl (hb hby yl_0) rfl rfl ?_
    refine XS.aloadN X0.here hx rfl (hb hby yl_1) rfl rfl ?_
    refine Jvm.RoadKit.acmp (g := (mkF m 2 #[.val (.ref sa292), .val (.ref sa300), .unset] [(.ref sa300), (.ref sa292)])) X0 hx rfl rfl rfl (pc0 := 2) (pc' := 7) (same := false) rfl (hb hby yl_2) rfl (decide_eq_false fun q => (Fld.ne z5 z6 (fun h => arv_ne z7 z8 (Or.inl (by decide)) (Value.ref.inj h))) (Value.ref.inj q)) (by decide) (by decide) ?_
    show own_Y p e below s₁ m 7 #[.val (.ref sa292), .val (.ref sa300), .unset] [] _
    refine XS.aloadN X0.here hx rfl (hb hby yl_7) rfl rfl ?_
    refine zl _ ?_
    show own_Y p e below za m 11 #[.val (.ref sa292), .val (.ref sa300), .unset] [(.int 1)] _
    refine XS.ifNo z1.here hx rfl (hb hby yl_11) rfl ((if0 _ _).trans (feq (by decide : ¬ ((1 : Int32) = (0 : Int32)))).1) ?_
    show own_Y p e below za m 14 #[.val (.ref sa292), .val (.ref sa300), .unset] [] _
    refine XS.aloadN z1.here hx rfl (hb hby yl_14) rfl rfl ?_
    refine zo _ ?_
    show own_Y p e below zm m 18 #[.val (.ref sa292), .val (.ref sa300), .unset] [(.ref sa300)] _
    refine XS.astoreN zb.here hx rfl (hb hby yl_18) rfl rfl (l' := #[.val (.ref sa292), .val (.ref sa300), .val (.ref sa300)]) rfl ?_
    refine zq _ ?_
    show own_Y p e below zc m 22 #[.val (.ref sa292), .val (.ref sa300), .val (.ref sa300)] [(.int cs)] _
    refine XS.ifNo z2.here hx rfl (hb hby yl_22) rfl ((if0 _ _).trans (feq EN.2.2.2.2.2.2.2.1.2.1).1) ?_
    show own_Y p e below zc m 25 #[.val (.ref sa292), .val (.ref sa300), .val (.ref sa300)] [] _
    refine XS.aloadN z2.here hx rfl (hb hby yl_25) rfl rfl ?_
    refine zt _ ?_
    show own_Y p e below zr m 29 #[.val (.ref sa292), .val (.ref sa300), .val (.ref sa300)] [(.int 0)] _
    refine XS.aloadN zd.here hx rfl (hb hby yl_29) rfl rfl ?_
    refine zv _ ?_
    show own_Y p e below ze m 33 #[.val (.ref sa292), .val (.ref sa300), .val (.ref sa300)] [(.int 0), (.int 0)] _
    refine XS.icmpNo z3.here hx rfl (hb hby yl_33) rfl (teq (by decide : (0 : Int32) = (0 : Int32))).2 ?_
    show own_Y p e below ze m 36 #[.val (.ref sa292), .val (.ref sa300), .val (.ref sa300)] [] _
    refine XS.aloadN z3.here hx rfl (hb hby yl_36) rfl rfl ?_
    refine zy _ ?_
    show own_Y p e below zw m 40 #[.val (.ref sa292), .val (.ref sa300), .val (.ref sa300)] [(.ref sb292)] _
    refine XS.aloadN zf.here hx rfl (hb hby yl_40) rfl rfl ?_
    refine z12 _ ?_
    show own_Y p e below zz m 44 #[.val (.ref sa292), .val (.ref sa300), .val (.ref sa300)] [(.ref sb300), (.ref sb292)] _
    refine zh _ ?_
    show own_Y p e below z4 m 47 #[.val (.ref sa292), .val (.ref sa300), .val (.ref sa300)] [(.int 0)] _
    refine XS.ifYes z0.here hx rfl (pc0 := 47) (pc' := 54) rfl (hb hby yl_47) rfl ((if0 _ _).trans (teq (by decide : (0 : Int32) = (0 : Int32))).1) (by decide) (by decide) ?_
    show own_Y p e below z4 m 54 #[.val (.ref sa292), .val (.ref sa300), .val (.ref sa300)] [] _
    refine XS.iconst z0.here hx rfl (hb hby yl_54) ?_
    exact retN z0 hx (t := .boolean) Bd.returns (by simp) (hb hby yl_55) hr
  · show PQ (some (.int 0)) h0 n0 _ z4.heap _
    rw [z14]
    exact ⟨rfl, z15, rfl⟩
theorem rm52 (l : Launch) (Z : State) (a0 : Array Value) (hw : ∀ d ∈ tables_1, d.before a0 Z = true) (ws : List Jvm.Cond) (h0 : Heap) (n0 : Nat) (p1 : Int32) (A : Nat → Addr) (K : Nat → ClassId) (cs : Int32)  (sb292 : Addr) (sb317 : Addr) (kc292 : ClassId) (kc317 : ClassId) (EN : own_St Z A K cs) (OL0 : Old Z n0 h0) (z2 : Arv Z h0 sb292 kc292 .byte (2 : Int32) [(.int 48), (.int 48)] (.int 0)) (z3 : Arv Z h0 sb317 kc317 .byte (1 : Int32) [(.int 78)] (.int 0)) :
    own_MF l Z own_m25 jdk_43_method_13_code 3 (some .boolean) ws (Room.mk 0 0 0 0) #[(.ref sb292), (.ref sb317)] h0 (PQ (some (.int 0)) h0 n0) := by
  refine MetFree.of_bodySF (plainFor_of_name own_pn5) hisR ?_
  intro p e s m args below meth c s₁ Bd hml0 hP hK
  obtain ⟨rfl, hZ, hh⟩ := hP
  have hx := Bd.exec
  have hby := Bd.bytes
  have hml : c.maxLocals = 3 := hml0
  have hown : s.vm.findClass "java/lang/StringLatin1" = some m.cls := findClass_of_methodNamed Bd.named
  have hnm := (name_of_methodNamed Bd.named Bd.method).1
  have X0 : Stand p l e (Room.mk 0 0 0 0) s m #[(.ref sb292), (.ref sb317)] below meth c s₁ [] 0 0 := Stand.of_body Bd
  have e0 : s₁.heap = h0 := by rw [← hh, Bd.state]; rfl
  have N0 := Fr.nil n0
  have pre0 : own_P p e below s₁ m 0 #[.val (.ref sb292), .val (.ref sb317), .unset] [] s₁ #[(.ref sb292), (.ref sb317)] 3 := fun t k => castTop (by first | (simp [entryFrame, mkF, argsToLocals, Value.category, maxLocals]; done) | rfl) k
  have KK0 : Keep h0 h0 [] := Keep.refl _ _
  obtain ⟨z8, z0, -, z4, z5, -, -⟩ := (id z2)
  obtain ⟨z9, z1, -, z6, z7, -, -⟩ := (id z3)
  obtain ⟨fs, hr, hrun, hended, hW, hsame⟩ := X0.leave (v := some (.int 0)) (fun h => by rw [Bd.returns] at h; cases h)
  refine ⟨_, _, pre0 _ ?_, hrun, hended, _, _, rfl, ?_, ⟨_, rfl⟩, hW, hsame.mono (by decide) (by decide)⟩
  · show own_Y p e below s₁ m 0 #[.val (.ref sb292), .val (.ref sb317), .unset] [] _
    refine XS.aloadN X0.here hx rfl (hb hby yk_0) rfl rfl ?_
    refine X0.arraylength hx (by rw [e0]; exact z0.1) (State.isArrayOf_alike hZ.alike z0.2.1) (g := (mkF m 1 #[.val (.ref sb292), .val (.ref sb317), .unset] [(.ref sb292)])) rfl rfl (hb hby yk_1) _ ?_
    rw [len_of z4 z5]
    show own_Y p e below s₁ m 2 #[.val (.ref sb292), .val (.ref sb317), .unset] [(.int 2)] _
    refine XS.aloadN X0.here hx rfl (hb hby yk_2) rfl rfl ?_
    refine X0.arraylength hx (by rw [e0]; exact z1.1) (State.isArrayOf_alike hZ.alike z1.2.1) (g := (mkF m 3 #[.val (.ref sb292), .val (.ref sb317), .unset] [(.ref sb317), (.int 2)])) rfl rfl (hb hby yk_3) _ ?_
    rw [len_of z6 z7]
    show own_Y p e below s₁ m 4 #[.val (.ref sb292), .val (.ref sb317), .unset] [(.int 1), (.int 2)] _
    refine XS.icmpYes X0.here hx rfl (pc0 := 4) (pc' := 34) rfl (hb hby yk_4) rfl (feq (by decide : ¬ ((2 : Int32) = (1 : Int32)))).2 (by decide) (by decide) ?_
    show own_Y p e below s₁ m 34 #[.val (.ref sb292), .val (.ref sb317), .unset] [] _
    refine XS.iconst X0.here hx rfl (hb hby yk_34) ?_
    exact retN X0 hx (t := .boolean) Bd.returns (by simp) (hb hby yk_35) hr
  · show PQ (some (.int 0)) h0 n0 _ s₁.heap _
    rw [e0]
    exact ⟨rfl, N0, rfl⟩
theorem rm51 (l : Launch) (Z : State) (a0 : Array Value) (hw : ∀ d ∈ tables_1, d.before a0 Z = true) (ws : List Jvm.Cond) (h0 : Heap) (n0 : Nat) (p1 : Int32) (A : Nat → Addr) (K : Nat → ClassId) (cs : Int32)  (sb292 : Addr) (sa292 : Addr) (sb317 : Addr) (sa317 : Addr) (kc292 : ClassId) (kc317 : ClassId) (EN : own_St Z A K cs) (OL0 : Old Z n0 h0) (z5 : Fld Z h0 sa292 y_s2 "value" "[B" (.ref sb292)) (z6 : Fld Z h0 sa317 y_s2 "value" "[B" (.ref sb317)) (z7 : Arv Z h0 sb292 kc292 .byte (2 : Int32) [(.int 48), (.int 48)] (.int 0)) (z8 : Arv Z h0 sb317 kc317 .byte (1 : Int32) [(.int 78)] (.int 0)) (z9 : Exa Z h0 sa317 y_s2) (zi : Fld Z h0 sa292 y_s2 "coder" "B" (.int 0)) (zj : Fld Z h0 sa317 y_s2 "coder" "B" (.int 0)) :
    own_MF l Z own_m20 jdk_42_method_66_code 3 (some .boolean) ws (Room.mk 1 0 0 14) #[(.ref sa292), (.ref sa317)] h0 (PQ (some (.int 0)) h0 n0) := by
  refine MetFree.of_bodySF (plainFor_of_name own_pn1) hisR ?_
  intro p e s m args below meth c s₁ Bd hml0 hP hK
  obtain ⟨rfl, hZ, hh⟩ := hP
  have hx := Bd.exec
  have hby := Bd.bytes
  have hml : c.maxLocals = 3 := hml0
  have hown : s.vm.findClass y_s2 = some m.cls := findClass_of_methodNamed Bd.named
  have hnm := (name_of_methodNamed Bd.named Bd.method).1
  have X0 : Stand p l e (Room.mk 1 0 0 14) s m #[(.ref sa292), (.ref sa317)] below meth c s₁ [] 0 0 := Stand.of_body Bd
  have e0 : s₁.heap = h0 := by rw [← hh, Bd.state]; rfl
  have N0 := Fr.nil n0
  have pre0 : own_P p e below s₁ m 0 #[.val (.ref sa292), .val (.ref sa317), .unset] [] s₁ #[(.ref sa292), (.ref sa317)] 3 := fun t k => castTop (by first | (simp [entryFrame, mkF, argsToLocals, Value.category, maxLocals]; done) | rfl) k
  have KK0 : Keep h0 h0 [] := Keep.refl _ _
  obtain ⟨za, z1, zk, zl⟩ := instY X0 hx hZ hown (own_W hw 134 rfl) e0 (Ins.self z9) (g := (mkF m 8 #[.val (.ref sa292), .val (.ref sa317), .unset] [(.ref sa317)])) rfl rfl (hb hby yl_8)
  obtain ⟨zm, zb, zn, zo⟩ := castY z1 hx hZ hown (own_W hw 134 rfl) zk (Ins.self z9) (g := (mkF m 15 #[.val (.ref sa292), .val (.ref sa317), .unset] [(.ref sa317)])) rfl rfl (hb hby yl_15)
  obtain ⟨zc, z2, zp, zq⟩ := getS2 zb hx hZ hown (host := "") (Or.inl (own_W hw 32 rfl)) Via.refl zn (EN.2.2.2.2.2.2.2.1.1.ext OL0.2) (g := (mkF m 19 #[.val (.ref sa292), .val (.ref sa317), .val (.ref sa317)] [])) rfl (hb hby yl_19)
  obtain ⟨zr, zd, zs, zt⟩ := getF z2 hx hZ hown (host := "") (Or.inl (own_W hw 33 rfl)) Via.refl zp zi (g := (mkF m 26 #[.val (.ref sa292), .val (.ref sa317), .val (.ref sa317)] [(.ref sa292)])) rfl rfl (hb hby yl_26)
  obtain ⟨ze, z3, zu, zv⟩ := getF zd hx hZ hown (host := "") (Or.inl (own_W hw 33 rfl)) Via.refl zs zj (g := (mkF m 30 #[.val (.ref sa292), .val (.ref sa317), .val (.ref sa317)] [(.ref sa317), (.int 0)])) rfl rfl (hb hby yl_30)
  obtain ⟨zw, zf, zx, zy⟩ := getF z3 hx hZ hown (host := "") (Or.inl (own_W hw 26 rfl)) Via.refl zu z5 (g := (mkF m 37 #[.val (.ref sa292), .val (.ref sa317), .val (.ref sa317)] [(.ref sa292)])) rfl rfl (hb hby yl_37)
  obtain ⟨zz, z10, z11, z12⟩ := getF zf hx hZ hown (host := "") (Or.inl (own_W hw 26 rfl)) Via.refl zx z6 (g := (mkF m 41 #[.val (.ref sa292), .val (.ref sa317), .val (.ref sa317)] [(.ref sa317), (.ref sb292)])) rfl rfl (hb hby yl_41)
  obtain ⟨_, _, ⟨z4, L328, z16, n328⟩, -, z0, ⟨Lc328, zg, l328, y328, z328⟩, zh⟩ := Jvm.LawKit.callS z10 hx (y := own_m25) hown (mvT hZ (own_W hw 136 rfl)) (mvT hZ (own_W hw 137 rfl)) (mvT hZ (own_W hw 74 rfl)) (mvT hZ (own_W hw 138 rfl)) (by decide) (backOf (W := 0) (rm52 l Z a0 hw [] h0 n0 p1 A K cs sb292 sb317 kc292 kc317 EN OL0 z7 z8) hZ (own_W hw 138 rfl) (own_W hw 74 rfl) (by decide) (by decide)) (g := (mkF m 44 #[.val (.ref sa292), .val (.ref sa317), .val (.ref sa317)] [(.ref sb317), (.ref sb292)])) rfl (by rw [hml]; rfl) (argsL := [(.ref sb292), (.ref sb317)]) (rest := []) (lenOf own_pd16 rfl) rfl (by show 2 * 0 + _ ≤ _; exact Nat.le_of_eq rfl) (hb hby yl_44) (fun _ _ => ⟨rfl, z11, (by decide : 0 + 0 ≤ _), (by decide : 0 + 0 ≤ _)⟩)
  dsimp only [Pt.U, Pt.locs, Pt.cells, Pt.slots] at z0 l328 y328 z328 zh zg
  replace z0 := own_sub z0 l328 y328 z328
  obtain ⟨rfl, z13, z14⟩ := zg
  have z15 := Fr.app N0 z13
  obtain ⟨fs, hr, hrun, hended, hW, hsame⟩ := z0.leave (v := some (.int 0)) (fun h => by rw [Bd.returns] at h; cases h)
  refine ⟨_, _, pre0 _ ?_, hrun, hended, _, _, rfl, ?_, ⟨_, rfl⟩, hW, hsame.mono (by decide) (by decide)⟩
  · show own_Y p e below s₁ m 0 #[.val (.ref sa292), .val (.ref sa317), .unset] [] _
    refine XS.aloadN X0.here hx rfl (hb hby yl_0) rfl rfl ?_
    refine XS.aloadN X0.here hx rfl (hb hby yl_1) rfl rfl ?_
    refine Jvm.RoadKit.acmp (g := (mkF m 2 #[.val (.ref sa292), .val (.ref sa317), .unset] [(.ref sa317), (.ref sa292)])) X0 hx rfl rfl rfl (pc0 := 2) (pc' := 7) (same := false) rfl (hb hby yl_2) rfl (decide_eq_false fun q => (Fld.ne z5 z6 (fun h => arv_ne z7 z8 (Or.inl (by decide)) (Value.ref.inj h))) (Value.ref.inj q)) (by decide) (by decide) ?_
    show own_Y p e below s₁ m 7 #[.val (.ref sa292), .val (.ref sa317), .unset] [] _
    refine XS.aloadN X0.here hx rfl (hb hby yl_7) rfl rfl ?_
    refine zl _ ?_
    show own_Y p e below za m 11 #[.val (.ref sa292), .val (.ref sa317), .unset] [(.int 1)] _
    refine XS.ifNo z1.here hx rfl (hb hby yl_11) rfl ((if0 _ _).trans (feq (by decide : ¬ ((1 : Int32) = (0 : Int32)))).1) ?_
    show own_Y p e below za m 14 #[.val (.ref sa292), .val (.ref sa317), .unset] [] _
    refine XS.aloadN z1.here hx rfl (hb hby yl_14) rfl rfl ?_
    refine zo _ ?_
    show own_Y p e below zm m 18 #[.val (.ref sa292), .val (.ref sa317), .unset] [(.ref sa317)] _
    refine XS.astoreN zb.here hx rfl (hb hby yl_18) rfl rfl (l' := #[.val (.ref sa292), .val (.ref sa317), .val (.ref sa317)]) rfl ?_
    refine zq _ ?_
    show own_Y p e below zc m 22 #[.val (.ref sa292), .val (.ref sa317), .val (.ref sa317)] [(.int cs)] _
    refine XS.ifNo z2.here hx rfl (hb hby yl_22) rfl ((if0 _ _).trans (feq EN.2.2.2.2.2.2.2.1.2.1).1) ?_
    show own_Y p e below zc m 25 #[.val (.ref sa292), .val (.ref sa317), .val (.ref sa317)] [] _
    refine XS.aloadN z2.here hx rfl (hb hby yl_25) rfl rfl ?_
    refine zt _ ?_
    show own_Y p e below zr m 29 #[.val (.ref sa292), .val (.ref sa317), .val (.ref sa317)] [(.int 0)] _
    refine XS.aloadN zd.here hx rfl (hb hby yl_29) rfl rfl ?_
    refine zv _ ?_
    show own_Y p e below ze m 33 #[.val (.ref sa292), .val (.ref sa317), .val (.ref sa317)] [(.int 0), (.int 0)] _
    refine XS.icmpNo z3.here hx rfl (hb hby yl_33) rfl (teq (by decide : (0 : Int32) = (0 : Int32))).2 ?_
    show own_Y p e below ze m 36 #[.val (.ref sa292), .val (.ref sa317), .val (.ref sa317)] [] _
    refine XS.aloadN z3.here hx rfl (hb hby yl_36) rfl rfl ?_
    refine zy _ ?_
    show own_Y p e below zw m 40 #[.val (.ref sa292), .val (.ref sa317), .val (.ref sa317)] [(.ref sb292)] _
    refine XS.aloadN zf.here hx rfl (hb hby yl_40) rfl rfl ?_
    refine z12 _ ?_
    show own_Y p e below zz m 44 #[.val (.ref sa292), .val (.ref sa317), .val (.ref sa317)] [(.ref sb317), (.ref sb292)] _
    refine zh _ ?_
    show own_Y p e below z4 m 47 #[.val (.ref sa292), .val (.ref sa317), .val (.ref sa317)] [(.int 0)] _
    refine XS.ifYes z0.here hx rfl (pc0 := 47) (pc' := 54) rfl (hb hby yl_47) rfl ((if0 _ _).trans (teq (by decide : (0 : Int32) = (0 : Int32))).1) (by decide) (by decide) ?_
    show own_Y p e below z4 m 54 #[.val (.ref sa292), .val (.ref sa317), .val (.ref sa317)] [] _
    refine XS.iconst z0.here hx rfl (hb hby yl_54) ?_
    exact retN z0 hx (t := .boolean) Bd.returns (by simp) (hb hby yl_55) hr
  · show PQ (some (.int 0)) h0 n0 _ z4.heap _
    rw [z14]
    exact ⟨rfl, z15, rfl⟩
theorem ye_243 : decode prog_40_method_7_code 243 = .ok (.aload_n 1, 1) := by decide +kernel
theorem ye_244 : decode prog_40_method_7_code 244 = .ok (.ldc 141, 2) := by decide +kernel
theorem ye_246 : decode prog_40_method_7_code 246 = .ok (.invokevirtual 143, 3) := by decide +kernel
theorem ye_249 : decode prog_40_method_7_code 249 = .ok (.ifCond .ne 12, 3) := by decide +kernel
theorem ye_252 : decode prog_40_method_7_code 252 = .ok (.aload_n 1, 1) := by decide +kernel
theorem ye_253 : decode prog_40_method_7_code 253 = .ok (.ldc 147, 2) := by decide +kernel
theorem ye_255 : decode prog_40_method_7_code 255 = .ok (.invokevirtual 143, 3) := by decide +kernel
theorem ye_258 : decode prog_40_method_7_code 258 = .ok (.ifCond .eq 7, 3) := by decide +kernel
theorem ye_265 : decode prog_40_method_7_code 265 = .ok (.iconst 0, 1) := by decide +kernel
theorem ye_266 : decode prog_40_method_7_code 266 = .ok (.goto 160, 3) := by decide +kernel
theorem rm48 (l : Launch) (Z : State) (a0 : Array Value) (hw : ∀ d ∈ tables_1, d.before a0 Z = true) (ws : List Jvm.Cond) (h0 : Heap) (n0 : Nat) (p1 : Int32) (A : Nat → Addr) (K : Nat → ClassId) (cs : Int32) (ta : Addr) (tj : Int32)  (sb292 : Addr) (sa292 : Addr) (kc292 : ClassId) (EN : own_St Z A K cs) (gE : Exa Z Z.heap ta y_s1) (gF : Fld Z Z.heap ta y_s3 "ordinal" "I" (.int tj)) (gj : tj = (11 : Int32)) (OL0 : Old Z n0 h0) (z9 : Exa Z h0 sa292 y_s2) (zb : Fld Z h0 sa292 y_s2 "value" "[B" (.ref sb292)) (zc : Arv Z h0 sb292 kc292 .byte (2 : Int32) [(.int 48), (.int 48)] (.int 0)) (zd : Fld Z h0 sa292 y_s2 "coder" "B" (.int 0)) :
    own_MH l Z own_m0 prog_40_method_7_code 3 (some .boolean) ws (Room.mk 2 4 16 28) #[(.ref ta), (.ref sa292)] h0 (QH (some (.int 0)) h0 n0) := by
  refine MetFree.of_bodySF (plainFor_of_name own_pn6) hisR ?_
  intro p e s m args below meth c s₁ Bd hml0 hP hK
  obtain ⟨rfl, hZ, hh, H0⟩ := hP
  have hx := Bd.exec
  have hby := Bd.bytes
  have hml : c.maxLocals = 3 := hml0
  have hown : s.vm.findClass y_s1 = some m.cls := findClass_of_methodNamed Bd.named
  have hnm := (name_of_methodNamed Bd.named Bd.method).1
  have hS0 : s.Since s.vm 0 := (State.WarmedH.refl s).since 0
  have zv : 0 ≤ h0.size := Nat.zero_le _
  have CR0 : CHr Z consts_1 s.vm h0 s.vm h0 := CHr.refl H0
  have X0 : Stand p l e (Room.mk 2 4 16 28) (s.setVm s.vm) m #[(.ref ta), (.ref sa292)] below meth c s₁ [] 0 0 := Stand.of_body Bd
  have e0 : s₁.heap = h0 := by rw [← hh, Bd.state]; rfl
  have N0 := Fr.nil n0
  have pre0 : own_P p e below s₁ m 0 #[.val (.ref ta), .val (.ref sa292), .unset] [] s₁ #[(.ref ta), (.ref sa292)] 3 := fun t k => castTop (by first | (simp [entryFrame, mkF, argsToLocals, Value.category, maxLocals]; done) | rfl) k
  have KK0 : Keep h0 h0 [] := Keep.refl _ _
  obtain ⟨cq296, kq296, zw, z1x, zx⟩ := isOf hZ e0 z9
  obtain ⟨_, _, ⟨ze, L296, z1y, n296⟩, -, z1, ⟨Lc296, zf, l296, y296, z296⟩, zg⟩ := X0.virtualBack hx (y := own_m1) (z := own_m1) hown (mvT hZ (own_W hw 21 rfl)) (mvT hZ (own_W hw 22 rfl)) (notFace_of_selects (args := #[]) (mvT hZ (own_W hw 24 rfl))) (mvT hZ (own_W hw 24 rfl)) (mvT hZ (own_W hw 23 rfl)) (by decide) (backOf (W := 0) (rm2 l Z a0 hw [] h0 n0 p1 A K cs sb292 sa292 kc292 EN OL0 zb zc z9 zd) hZ (own_W hw 25 rfl) (own_W hw 9 rfl) (by decide) (by decide)) zw zx (g := (mkF m 1 #[.val (.ref ta), .val (.ref sa292), .unset] [(.ref sa292)])) rfl (by rw [hml]; rfl) (Steps.refl _) (argsL := []) (rest := []) (lenOf own_pd2 rfl) rfl (by show 2 * 0 + _ ≤ _; exact Nat.le_of_eq rfl) (hb hby ye_1) (fun _ _ => ⟨rfl, e0, (by decide : 0 + 0 ≤ _), (by decide : 0 + 0 ≤ _)⟩)
  dsimp only [Pt.U, Pt.locs, Pt.cells, Pt.slots] at z1 l296 y296 z296 zg zf
  replace z1 := own_sub z1 l296 y296 z296
  obtain ⟨rfl, zy, zh⟩ := zf
  have zz := Fr.app N0 zy
  obtain ⟨cq297, kq297, z10, z1z, z11⟩ := isOf hZ zh (gE.ext OL0.2)
  obtain ⟨_, _, ⟨z2, L297, z20, n297⟩, -, z3, ⟨Lc297, zi, l297, y297, z297⟩, zj⟩ := z1.virtualBackUp hx (x := own_m8) (y := own_m7) (owner := y_s3) hown (mvT hZ (own_W hw 34 rfl)) (mvT hZ (own_W hw 35 rfl)) (mvT hZ (own_W hw 36 rfl)) (by decide) (mvT hZ (own_W hw 38 rfl)) (mvT hZ (own_W hw 37 rfl)) (backOf (W := 0) (rm4 l Z a0 hw [] h0 n0 p1 A K cs ta tj EN gE gF OL0) hZ (own_W hw 40 rfl) (own_W hw 39 rfl) (by decide) (by decide)) z10 z11 (g := (mkF m 12 #[.val (.ref ta), .val (.ref sa292), .val (.int 2)] [(.ref ta)])) rfl (by rw [hml]; rfl) (Steps.refl _) (argsL := []) (rest := []) (lenOf own_pd2 rfl) rfl (by show 2 * 0 + _ ≤ _; exact Nat.le_of_eq rfl) (hb hby ye_12) (fun _ _ => ⟨rfl, zh, (by decide : 0 + 0 ≤ _), (by decide : 0 + 0 ≤ _)⟩)
  dsimp only [Pt.U, Pt.locs, Pt.cells, Pt.slots] at z3 l297 y297 z297 zj zi
  replace z3 := own_sub z3 l297 y297 z297
  obtain ⟨rfl, z12, z13⟩ := zi
  have z14 := Fr.app zz z12
  have ts298 : ∀ t, Steps p.tables e below (z2.setTop (mkF m 243 #[.val (.ref ta), .val (.ref sa292), .val (.int 2)] [])) t → Steps p.tables e below (z2.setTop (mkF m 15 #[.val (.ref ta), .val (.ref sa292), .val (.int 2)] [(.int tj)])) t := by
    intro t k
    rcases gj with rfl <;> exact XS.tswIn z3.here hx rfl (pc0 := 15) (pc' := 243) rfl (hb hby ye_15) rfl (by decide) (o := 228) (by decide) (by decide) (by decide) k
  have z15 : own_P p e below z2 m 244 #[.val (.ref ta), .val (.ref sa292), .val (.int 2)] [(.ref sa292)] s₁ #[(.ref ta), (.ref sa292)] 3 := fun t k => pre0 t (by
    show own_Y p e below s₁ m 0 #[.val (.ref ta), .val (.ref sa292), .unset] [] _
    refine XS.aloadN X0.here hx rfl (hb hby ye_0) rfl rfl ?_
    refine zg.trans ?_
    show own_Y p e below ze m 4 #[.val (.ref ta), .val (.ref sa292), .unset] [(.int 2)] _
    refine XS.istoreN z1.here hx rfl (hb hby ye_4) rfl (l' := #[.val (.ref ta), .val (.ref sa292), .val (.int 2)]) rfl ?_
    refine XS.iloadN z1.here hx rfl (hb hby ye_5) rfl ?_
    refine XS.ifYes z1.here hx rfl (pc0 := 6) (pc' := 11) rfl (hb hby ye_6) rfl ((if0 _ _).trans (feq (by decide : ¬ ((2 : Int32) = (0 : Int32)))).2) (by decide) (by decide) ?_
    show own_Y p e below ze m 11 #[.val (.ref ta), .val (.ref sa292), .val (.int 2)] [] _
    refine XS.aloadN z1.here hx rfl (hb hby ye_11) rfl rfl ?_
    refine zj.trans ?_
    show own_Y p e below z2 m 15 #[.val (.ref ta), .val (.ref sa292), .val (.int 2)] [(.int tj)] _
    refine ts298 _ ?_
    show own_Y p e below z2 m 243 #[.val (.ref ta), .val (.ref sa292), .val (.int 2)] [] _
    refine XS.aloadN z3.here hx rfl (hb hby ye_243) rfl rfl ?_
    exact k)
  obtain ⟨sa300, z16, z17, kk300, sb300, kc300, z18, zk, z4, hS300, z19, hZ, hown, Es300, Cs300, Vs300, As300, la300, lb300, C300, -, -, z1a⟩ := ldcCH (s := s) z3 hx hZ hown (own_W hw 128 rfl) (own_strAtoms a0 Z hw) z13 hS0 zv (own_EW a0 Z hw) (List.mem_of_getElem? (i := 1) rfl) H0 (vs := [(.int 89)]) (z := (1 : Int32)) ⟨by decide, by decide⟩ (by decide) (by decide) (g := (mkF m 244 #[.val (.ref ta), .val (.ref sa292), .val (.int 2)] [(.ref sa292)])) rfl (hb hby ye_244) (n := 4) (by decide) (by decide) (by decide) (by decide)
  have CR300 := CR0.trans C300
  have zl := OL0.ext z4
  have z1b := KK0.ext z4
  have zm := (z9.ext z4)
  have zn := (zb.ext z4)
  have zo := (zc.ext z4)
  have zp := (zd.ext z4)
  obtain ⟨cq315, kq315, z1c, z21, z1d⟩ := isOf hZ zk zm
  obtain ⟨_, _, ⟨z8, L315, z22, n315⟩, -, z5, ⟨Lc315, zq, l315, y315, z315⟩, zr⟩ := z18.virtualBack hx (y := own_m20) (z := own_m20) hown (mvT hZ (own_W hw 129 rfl)) (mvT hZ (own_W hw 130 rfl)) (notFace_of_selects (args := #[]) (mvT hZ (own_W hw 132 rfl))) (mvT hZ (own_W hw 132 rfl)) (mvT hZ (own_W hw 131 rfl)) (by decide) (backOf (W := 0) (rm49 l Z a0 hw [] z17 n0 p1 A K cs sb292 sa292 sb300 sa300 kc292 kc300 EN zl zn Vs300 zo As300 Es300 zp Cs300) hZ (own_W hw 133 rfl) (own_W hw 9 rfl) (by decide) (by decide)) z1c z1d (g := (mkF m 246 #[.val (.ref ta), .val (.ref sa292), .val (.int 2)] [(.ref sa300), (.ref sa292)])) rfl (by rw [hml]; rfl) (Steps.refl _) (argsL := [(.ref sa300)]) (rest := []) (lenOf own_pd17 rfl) rfl (by show 2 * 0 + _ ≤ _; exact Nat.le_of_eq rfl) (hb hby ye_246) (fun _ _ => ⟨rfl, zk, (by decide : 2 + 0 ≤ _), (by decide : 8 + 0 ≤ _)⟩)
  dsimp only [Pt.U, Pt.locs, Pt.cells, Pt.slots] at z5 l315 y315 z315 zr zq
  replace z5 := own_sub z5 l315 y315 z315
  obtain ⟨rfl, z1e, z1f⟩ := zq
  have z1g := Fr.app z14 z1e
  have z1h : own_P p e below z8 m 253 #[.val (.ref ta), .val (.ref sa292), .val (.int 2)] [(.ref sa292)] s₁ #[(.ref ta), (.ref sa292)] 3 := fun t k => z15 t (by
    show own_Y p e below z2 m 244 #[.val (.ref ta), .val (.ref sa292), .val (.int 2)] [(.ref sa292)] _
    refine z1a _ ?_
    show own_Y p e below z16 m 246 #[.val (.ref ta), .val (.ref sa292), .val (.int 2)] [(.ref sa300), (.ref sa292)] _
    refine zr.trans ?_
    show own_Y p e below z8 m 249 #[.val (.ref ta), .val (.ref sa292), .val (.int 2)] [(.int 0)] _
    refine XS.ifNo z5.here hx rfl (hb hby ye_249) rfl ((if0 _ _).trans (teq (by decide : (0 : Int32) = (0 : Int32))).2) ?_
    show own_Y p e below z8 m 252 #[.val (.ref ta), .val (.ref sa292), .val (.int 2)] [] _
    refine XS.aloadN z5.here hx rfl (hb hby ye_252) rfl rfl ?_
    exact k)
  obtain ⟨sa317, z1i, z1j, kk317, sb317, kc317, z1k, zs, z6, hS317, z1l, hZ, hown, Es317, Cs317, Vs317, As317, la317, lb317, C317, -, -, z1m⟩ := ldcCH (s := s) z5 hx hZ hown (own_W hw 139 rfl) (own_strAtoms a0 Z hw) z1f hS300 z19 (own_EW a0 Z hw) (List.mem_of_getElem? (i := 2) rfl) C300.1 (vs := [(.int 78)]) (z := (1 : Int32)) ⟨by decide, by decide⟩ (by decide) (by decide) (g := (mkF m 253 #[.val (.ref ta), .val (.ref sa292), .val (.int 2)] [(.ref sa292)])) rfl (hb hby ye_253) (n := 4) (by decide) (by decide) (by decide) (by decide)
  have CR317 := CR300.trans C317
  have z1n := zl.ext z6
  have z1o := z1b.ext z6
  have z1p := (zm.ext z6)
  have z1q := (zn.ext z6)
  have z1r := (zo.ext z6)
  have z1s := (zp.ext z6)
  obtain ⟨cq332, kq332, z1t, z23, z1u⟩ := isOf hZ zs z1p
  obtain ⟨_, _, ⟨z7, L332, z24, n332⟩, -, z0, ⟨Lc332, zt, l332, y332, z332⟩, zu⟩ := z1k.virtualBack hx (y := own_m20) (z := own_m20) hown (mvT hZ (own_W hw 129 rfl)) (mvT hZ (own_W hw 130 rfl)) (notFace_of_selects (args := #[]) (mvT hZ (own_W hw 132 rfl))) (mvT hZ (own_W hw 132 rfl)) (mvT hZ (own_W hw 131 rfl)) (by decide) (backOf (W := 0) (rm51 l Z a0 hw [] z1j n0 p1 A K cs sb292 sa292 sb317 sa317 kc292 kc317 EN z1n z1q Vs317 z1r As317 Es317 z1s Cs317) hZ (own_W hw 133 rfl) (own_W hw 9 rfl) (by decide) (by decide)) z1t z1u (g := (mkF m 255 #[.val (.ref ta), .val (.ref sa292), .val (.int 2)] [(.ref sa317), (.ref sa292)])) rfl (by rw [hml]; rfl) (Steps.refl _) (argsL := [(.ref sa317)]) (rest := []) (lenOf own_pd17 rfl) rfl (by show 2 * 0 + _ ≤ _; exact Nat.le_of_eq rfl) (hb hby ye_255) (fun _ _ => ⟨rfl, zs, (by decide : 4 + 0 ≤ _), (by decide : 16 + 0 ≤ _)⟩)
  dsimp only [Pt.U, Pt.locs, Pt.cells, Pt.slots] at z0 l332 y332 z332 zu zt
  replace z0 := own_sub z0 l332 y332 z332
  obtain ⟨rfl, z1v, za⟩ := zt
  have z1w := Fr.app z1g z1v
  obtain ⟨fs, hr, hrun, hended, hEW⟩ := z0.leaveW (s := s) hS317 (by rw [za]; exact z1l) (v := some (.int 0)) (fun h => by rw [Bd.returns] at h; cases h)
  refine ⟨_, _, z1h _ ?_, hrun, hended, _, _, rfl, ?_, ?_, hEW.1, hEW.2.1, hEW.2.2.1, hEW.2.2.2.mono (by decide) (by decide)⟩
  · show own_Y p e below z8 m 253 #[.val (.ref ta), .val (.ref sa292), .val (.int 2)] [(.ref sa292)] _
    refine z1m _ ?_
    show own_Y p e below z1i m 255 #[.val (.ref ta), .val (.ref sa292), .val (.int 2)] [(.ref sa317), (.ref sa292)] _
    refine zu.trans ?_
    show own_Y p e below z7 m 258 #[.val (.ref ta), .val (.ref sa292), .val (.int 2)] [(.int 0)] _
    refine XS.ifYes z0.here hx rfl (pc0 := 258) (pc' := 265) rfl (hb hby ye_258) rfl ((if0 _ _).trans (teq (by decide : (0 : Int32) = (0 : Int32))).1) (by decide) (by decide) ?_
    show own_Y p e below z7 m 265 #[.val (.ref ta), .val (.ref sa292), .val (.int 2)] [] _
    refine XS.iconst z0.here hx rfl (hb hby ye_265) ?_
    refine XS.goto z0.here hx rfl (pc0 := 266) (pc' := 426) rfl (hb hby ye_266) (by decide) (by decide) ?_
    exact retN z0 hx (t := .boolean) Bd.returns (by simp) (hb hby ye_426) hr
  · show QH (some (.int 0)) h0 n0 _ z7.heap _
    rw [za]
    exact ⟨rfl, z1w, z1o⟩
  · show CHr Z consts_1 s.vm s.heap z7.vm z7.heap
    rw [hh, za]
    exact CR317.trans (CHv.at z0 hZ (own_EW a0 Z hw) C317.1)
theorem ye_302 : decode prog_40_method_7_code 302 = .ok (.iconst 1, 1) := by decide +kernel
theorem ye_303 : decode prog_40_method_7_code 303 = .ok (.goto 123, 3) := by decide +kernel
theorem rm53 (l : Launch) (Z : State) (a0 : Array Value) (hw : ∀ d ∈ tables_1, d.before a0 Z = true) (ws : List Jvm.Cond) (h0 : Heap) (n0 : Nat) (p1 : Int32) (A : Nat → Addr) (K : Nat → ClassId) (cs : Int32) (ta : Addr) (tj : Int32)  (sb337 : Addr) (sa337 : Addr) (kc337 : ClassId) (EN : own_St Z A K cs) (gE : Exa Z Z.heap ta y_s1) (gF : Fld Z Z.heap ta y_s3 "ordinal" "I" (.int tj)) (gj : tj = (12 : Int32) ∨ tj = (13 : Int32) ∨ tj = (14 : Int32) ∨ tj = (16 : Int32) ∨ tj = (26 : Int32) ∨ tj = (27 : Int32)) (OL0 : Old Z n0 h0) (z3 : Exa Z h0 sa337 y_s2) (za : Fld Z h0 sa337 y_s2 "value" "[B" (.ref sb337)) (zb : Arv Z h0 sb337 kc337 .byte (2 : Int32) [(.int 48), (.int 48)] (.int 0)) (zc : Fld Z h0 sa337 y_s2 "coder" "B" (.int 0)) :
    own_MF l Z own_m0 prog_40_method_7_code 3 (some .boolean) ws (Room.mk 2 0 0 25) #[(.ref ta), (.ref sa337)] h0 (PQ (some (.int 1)) h0 n0) := by
  refine MetFree.of_bodySF (plainFor_of_name own_pn6) hisR ?_
  intro p e s m args below meth c s₁ Bd hml0 hP hK
  obtain ⟨rfl, hZ, hh⟩ := hP
  have hx := Bd.exec
  have hby := Bd.bytes
  have hml : c.maxLocals = 3 := hml0
  have hown : s.vm.findClass y_s1 = some m.cls := findClass_of_methodNamed Bd.named
  have hnm := (name_of_methodNamed Bd.named Bd.method).1
  have X0 : Stand p l e (Room.mk 2 0 0 25) s m #[(.ref ta), (.ref sa337)] below meth c s₁ [] 0 0 := Stand.of_body Bd
  have e0 : s₁.heap = h0 := by rw [← hh, Bd.state]; rfl
  have N0 := Fr.nil n0
  have pre0 : own_P p e below s₁ m 0 #[.val (.ref ta), .val (.ref sa337), .unset] [] s₁ #[(.ref ta), (.ref sa337)] 3 := fun t k => castTop (by first | (simp [entryFrame, mkF, argsToLocals, Value.category, maxLocals]; done) | rfl) k
  have KK0 : Keep h0 h0 [] := Keep.refl _ _
  obtain ⟨cq338, kq338, zd, zm, ze⟩ := isOf hZ e0 z3
  obtain ⟨_, _, ⟨z4, L338, zn, n338⟩, -, z0, ⟨Lc338, z5, l338, y338, z338⟩, z6⟩ := X0.virtualBack hx (y := own_m1) (z := own_m1) hown (mvT hZ (own_W hw 21 rfl)) (mvT hZ (own_W hw 22 rfl)) (notFace_of_selects (args := #[]) (mvT hZ (own_W hw 24 rfl))) (mvT hZ (own_W hw 24 rfl)) (mvT hZ (own_W hw 23 rfl)) (by decide) (backOf (W := 0) (rm2 l Z a0 hw [] h0 n0 p1 A K cs sb337 sa337 kc337 EN OL0 za zb z3 zc) hZ (own_W hw 25 rfl) (own_W hw 9 rfl) (by decide) (by decide)) zd ze (g := (mkF m 1 #[.val (.ref ta), .val (.ref sa337), .unset] [(.ref sa337)])) rfl (by rw [hml]; rfl) (Steps.refl _) (argsL := []) (rest := []) (lenOf own_pd2 rfl) rfl (by show 2 * 0 + _ ≤ _; exact Nat.le_of_eq rfl) (hb hby ye_1) (fun _ _ => ⟨rfl, e0, (by decide : 0 + 0 ≤ _), (by decide : 0 + 0 ≤ _)⟩)
  dsimp only [Pt.U, Pt.locs, Pt.cells, Pt.slots] at z0 l338 y338 z338 z6 z5
  replace z0 := own_sub z0 l338 y338 z338
  obtain ⟨rfl, zf, z7⟩ := z5
  have zg := Fr.app N0 zf
  obtain ⟨cq339, kq339, zh, zo, zi⟩ := isOf hZ z7 (gE.ext OL0.2)
  obtain ⟨_, _, ⟨z2, L339, zp, n339⟩, -, z1, ⟨Lc339, z8, l339, y339, z339⟩, z9⟩ := z0.virtualBackUp hx (x := own_m8) (y := own_m7) (owner := y_s3) hown (mvT hZ (own_W hw 34 rfl)) (mvT hZ (own_W hw 35 rfl)) (mvT hZ (own_W hw 36 rfl)) (by decide) (mvT hZ (own_W hw 38 rfl)) (mvT hZ (own_W hw 37 rfl)) (backOf (W := 0) (rm4 l Z a0 hw [] h0 n0 p1 A K cs ta tj EN gE gF OL0) hZ (own_W hw 40 rfl) (own_W hw 39 rfl) (by decide) (by decide)) zh zi (g := (mkF m 12 #[.val (.ref ta), .val (.ref sa337), .val (.int 2)] [(.ref ta)])) rfl (by rw [hml]; rfl) (Steps.refl _) (argsL := []) (rest := []) (lenOf own_pd2 rfl) rfl (by show 2 * 0 + _ ≤ _; exact Nat.le_of_eq rfl) (hb hby ye_12) (fun _ _ => ⟨rfl, z7, (by decide : 0 + 0 ≤ _), (by decide : 0 + 0 ≤ _)⟩)
  dsimp only [Pt.U, Pt.locs, Pt.cells, Pt.slots] at z1 l339 y339 z339 z9 z8
  replace z1 := own_sub z1 l339 y339 z339
  obtain ⟨rfl, zj, zk⟩ := z8
  have zl := Fr.app zg zj
  have ts340 : ∀ t, Steps p.tables e below (z2.setTop (mkF m 302 #[.val (.ref ta), .val (.ref sa337), .val (.int 2)] [])) t → Steps p.tables e below (z2.setTop (mkF m 15 #[.val (.ref ta), .val (.ref sa337), .val (.int 2)] [(.int tj)])) t := by
    intro t k
    rcases gj with rfl | rfl | rfl | rfl | rfl | rfl <;> exact XS.tswIn z1.here hx rfl (pc0 := 15) (pc' := 302) rfl (hb hby ye_15) rfl (by decide) (o := 287) (by decide) (by decide) (by decide) k
  obtain ⟨fs, hr, hrun, hended, hW, hsame⟩ := z1.leave (v := some (.int 1)) (fun h => by rw [Bd.returns] at h; cases h)
  refine ⟨_, _, pre0 _ ?_, hrun, hended, _, _, rfl, ?_, ⟨_, rfl⟩, hW, hsame.mono (by decide) (by decide)⟩
  · show own_Y p e below s₁ m 0 #[.val (.ref ta), .val (.ref sa337), .unset] [] _
    refine XS.aloadN X0.here hx rfl (hb hby ye_0) rfl rfl ?_
    refine z6.trans ?_
    show own_Y p e below z4 m 4 #[.val (.ref ta), .val (.ref sa337), .unset] [(.int 2)] _
    refine XS.istoreN z0.here hx rfl (hb hby ye_4) rfl (l' := #[.val (.ref ta), .val (.ref sa337), .val (.int 2)]) rfl ?_
    refine XS.iloadN z0.here hx rfl (hb hby ye_5) rfl ?_
    refine XS.ifYes z0.here hx rfl (pc0 := 6) (pc' := 11) rfl (hb hby ye_6) rfl ((if0 _ _).trans (feq (by decide : ¬ ((2 : Int32) = (0 : Int32)))).2) (by decide) (by decide) ?_
    show own_Y p e below z4 m 11 #[.val (.ref ta), .val (.ref sa337), .val (.int 2)] [] _
    refine XS.aloadN z0.here hx rfl (hb hby ye_11) rfl rfl ?_
    refine z9.trans ?_
    show own_Y p e below z2 m 15 #[.val (.ref ta), .val (.ref sa337), .val (.int 2)] [(.int tj)] _
    refine ts340 _ ?_
    show own_Y p e below z2 m 302 #[.val (.ref ta), .val (.ref sa337), .val (.int 2)] [] _
    refine XS.iconst z1.here hx rfl (hb hby ye_302) ?_
    refine XS.goto z1.here hx rfl (pc0 := 303) (pc' := 426) rfl (hb hby ye_303) (by decide) (by decide) ?_
    exact retN z1 hx (t := .boolean) Bd.returns (by simp) (hb hby ye_426) hr
  · show PQ (some (.int 1)) h0 n0 _ z2.heap _
    rw [zk]
    exact ⟨rfl, zl, rfl⟩
theorem rm54 (l : Launch) (Z : State) (a0 : Array Value) (hw : ∀ d ∈ tables_1, d.before a0 Z = true) (ws : List Jvm.Cond) (h0 : Heap) (n0 : Nat) (p1 : Int32) (A : Nat → Addr) (K : Nat → ClassId) (cs : Int32) (ta : Addr) (tj : Int32)  (sb343 : Addr) (sa343 : Addr) (kc343 : ClassId) (EN : own_St Z A K cs) (gE : Exa Z Z.heap ta y_s1) (gF : Fld Z Z.heap ta y_s3 "ordinal" "I" (.int tj)) (gj : tj = (12 : Int32) ∨ tj = (13 : Int32) ∨ tj = (14 : Int32) ∨ tj = (16 : Int32) ∨ tj = (26 : Int32) ∨ tj = (27 : Int32)) (OL0 : Old Z n0 h0) (z3 : Exa Z h0 sa343 y_s2) (za : Fld Z h0 sa343 y_s2 "value" "[B" (.ref sb343)) (zb : Arv Z h0 sb343 kc343 .byte (2 : Int32) [(.int 45), (.int 48)] (.int 0)) (zc : Fld Z h0 sa343 y_s2 "coder" "B" (.int 0)) :
    own_MF l Z own_m0 prog_40_method_7_code 3 (some .boolean) ws (Room.mk 2 0 0 25) #[(.ref ta), (.ref sa343)] h0 (PQ (some (.int 1)) h0 n0) := by
  refine MetFree.of_bodySF (plainFor_of_name own_pn6) hisR ?_
  intro p e s m args below meth c s₁ Bd hml0 hP hK
  obtain ⟨rfl, hZ, hh⟩ := hP
  have hx := Bd.exec
  have hby := Bd.bytes
  have hml : c.maxLocals = 3 := hml0
  have hown : s.vm.findClass y_s1 = some m.cls := findClass_of_methodNamed Bd.named
  have hnm := (name_of_methodNamed Bd.named Bd.method).1
  have X0 : Stand p l e (Room.mk 2 0 0 25) s m #[(.ref ta), (.ref sa343)] below meth c s₁ [] 0 0 := Stand.of_body Bd
  have e0 : s₁.heap = h0 := by rw [← hh, Bd.state]; rfl
  have N0 := Fr.nil n0
  have pre0 : own_P p e below s₁ m 0 #[.val (.ref ta), .val (.ref sa343), .unset] [] s₁ #[(.ref ta), (.ref sa343)] 3 := fun t k => castTop (by first | (simp [entryFrame, mkF, argsToLocals, Value.category, maxLocals]; done) | rfl) k
  have KK0 : Keep h0 h0 [] := Keep.refl _ _
  obtain ⟨cq344, kq344, zd, zm, ze⟩ := isOf hZ e0 z3
  obtain ⟨_, _, ⟨z4, L344, zn, n344⟩, -, z0, ⟨Lc344, z5, l344, y344, z344⟩, z6⟩ := X0.virtualBack hx (y := own_m1) (z := own_m1) hown (mvT hZ (own_W hw 21 rfl)) (mvT hZ (own_W hw 22 rfl)) (notFace_of_selects (args := #[]) (mvT hZ (own_W hw 24 rfl))) (mvT hZ (own_W hw 24 rfl)) (mvT hZ (own_W hw 23 rfl)) (by decide) (backOf (W := 0) (rm23 l Z a0 hw [] h0 n0 p1 A K cs sb343 sa343 kc343 EN OL0 za zb z3 zc) hZ (own_W hw 25 rfl) (own_W hw 9 rfl) (by decide) (by decide)) zd ze (g := (mkF m 1 #[.val (.ref ta), .val (.ref sa343), .unset] [(.ref sa343)])) rfl (by rw [hml]; rfl) (Steps.refl _) (argsL := []) (rest := []) (lenOf own_pd2 rfl) rfl (by show 2 * 0 + _ ≤ _; exact Nat.le_of_eq rfl) (hb hby ye_1) (fun _ _ => ⟨rfl, e0, (by decide : 0 + 0 ≤ _), (by decide : 0 + 0 ≤ _)⟩)
  dsimp only [Pt.U, Pt.locs, Pt.cells, Pt.slots] at z0 l344 y344 z344 z6 z5
  replace z0 := own_sub z0 l344 y344 z344
  obtain ⟨rfl, zf, z7⟩ := z5
  have zg := Fr.app N0 zf
  obtain ⟨cq345, kq345, zh, zo, zi⟩ := isOf hZ z7 (gE.ext OL0.2)
  obtain ⟨_, _, ⟨z2, L345, zp, n345⟩, -, z1, ⟨Lc345, z8, l345, y345, z345⟩, z9⟩ := z0.virtualBackUp hx (x := own_m8) (y := own_m7) (owner := y_s3) hown (mvT hZ (own_W hw 34 rfl)) (mvT hZ (own_W hw 35 rfl)) (mvT hZ (own_W hw 36 rfl)) (by decide) (mvT hZ (own_W hw 38 rfl)) (mvT hZ (own_W hw 37 rfl)) (backOf (W := 0) (rm4 l Z a0 hw [] h0 n0 p1 A K cs ta tj EN gE gF OL0) hZ (own_W hw 40 rfl) (own_W hw 39 rfl) (by decide) (by decide)) zh zi (g := (mkF m 12 #[.val (.ref ta), .val (.ref sa343), .val (.int 2)] [(.ref ta)])) rfl (by rw [hml]; rfl) (Steps.refl _) (argsL := []) (rest := []) (lenOf own_pd2 rfl) rfl (by show 2 * 0 + _ ≤ _; exact Nat.le_of_eq rfl) (hb hby ye_12) (fun _ _ => ⟨rfl, z7, (by decide : 0 + 0 ≤ _), (by decide : 0 + 0 ≤ _)⟩)
  dsimp only [Pt.U, Pt.locs, Pt.cells, Pt.slots] at z1 l345 y345 z345 z9 z8
  replace z1 := own_sub z1 l345 y345 z345
  obtain ⟨rfl, zj, zk⟩ := z8
  have zl := Fr.app zg zj
  have ts346 : ∀ t, Steps p.tables e below (z2.setTop (mkF m 302 #[.val (.ref ta), .val (.ref sa343), .val (.int 2)] [])) t → Steps p.tables e below (z2.setTop (mkF m 15 #[.val (.ref ta), .val (.ref sa343), .val (.int 2)] [(.int tj)])) t := by
    intro t k
    rcases gj with rfl | rfl | rfl | rfl | rfl | rfl <;> exact XS.tswIn z1.here hx rfl (pc0 := 15) (pc' := 302) rfl (hb hby ye_15) rfl (by decide) (o := 287) (by decide) (by decide) (by decide) k
  obtain ⟨fs, hr, hrun, hended, hW, hsame⟩ := z1.leave (v := some (.int 1)) (fun h => by rw [Bd.returns] at h; cases h)
  refine ⟨_, _, pre0 _ ?_, hrun, hended, _, _, rfl, ?_, ⟨_, rfl⟩, hW, hsame.mono (by decide) (by decide)⟩
  · show own_Y p e below s₁ m 0 #[.val (.ref ta), .val (.ref sa343), .unset] [] _
    refine XS.aloadN X0.here hx rfl (hb hby ye_0) rfl rfl ?_
    refine z6.trans ?_
    show own_Y p e below z4 m 4 #[.val (.ref ta), .val (.ref sa343), .unset] [(.int 2)] _
    refine XS.istoreN z0.here hx rfl (hb hby ye_4) rfl (l' := #[.val (.ref ta), .val (.ref sa343), .val (.int 2)]) rfl ?_
    refine XS.iloadN z0.here hx rfl (hb hby ye_5) rfl ?_
    refine XS.ifYes z0.here hx rfl (pc0 := 6) (pc' := 11) rfl (hb hby ye_6) rfl ((if0 _ _).trans (feq (by decide : ¬ ((2 : Int32) = (0 : Int32)))).2) (by decide) (by decide) ?_
    show own_Y p e below z4 m 11 #[.val (.ref ta), .val (.ref sa343), .val (.int 2)] [] _
    refine XS.aloadN z0.here hx rfl (hb hby ye_11) rfl rfl ?_
    refine z9.trans ?_
    show own_Y p e below z2 m 15 #[.val (.ref ta), .val (.ref sa343), .val (.int 2)] [(.int tj)] _
    refine ts346 _ ?_
    show own_Y p e below z2 m 302 #[.val (.ref ta), .val (.ref sa343), .val (.int 2)] [] _
    refine XS.iconst z1.here hx rfl (hb hby ye_302) ?_
    refine XS.goto z1.here hx rfl (pc0 := 303) (pc' := 426) rfl (hb hby ye_303) (by decide) (by decide) ?_
    exact retN z1 hx (t := .boolean) Bd.returns (by simp) (hb hby ye_426) hr
  · show PQ (some (.int 1)) h0 n0 _ z2.heap _
    rw [zk]
    exact ⟨rfl, zl, rfl⟩
theorem ym_0 : decode prog_40_method_14_code 0 = .ok (.iconst 0, 1) := by decide +kernel
theorem ym_1 : decode prog_40_method_14_code 1 = .ok (.istore_n 1, 1) := by decide +kernel
theorem ym_2 : decode prog_40_method_14_code 2 = .ok (.iload_n 1, 1) := by decide +kernel
theorem ym_3 : decode prog_40_method_14_code 3 = .ok (.aload_n 0, 1) := by decide +kernel
theorem ym_4 : decode prog_40_method_14_code 4 = .ok (.invokevirtual 107, 3) := by decide +kernel
theorem ym_7 : decode prog_40_method_14_code 7 = .ok (.if_icmp .ge 41, 3) := by decide +kernel
theorem ym_10 : decode prog_40_method_14_code 10 = .ok (.aload_n 0, 1) := by decide +kernel
theorem ym_11 : decode prog_40_method_14_code 11 = .ok (.iload_n 1, 1) := by decide +kernel
theorem ym_12 : decode prog_40_method_14_code 12 = .ok (.invokevirtual 168, 3) := by decide +kernel
theorem ym_15 : decode prog_40_method_14_code 15 = .ok (.bipush 32, 2) := by decide +kernel
theorem ym_17 : decode prog_40_method_14_code 17 = .ok (.if_icmp .ne 7, 3) := by decide +kernel
theorem ym_24 : decode prog_40_method_14_code 24 = .ok (.iconst 0, 1) := by decide +kernel
theorem ym_25 : decode prog_40_method_14_code 25 = .ok (.iload_n 1, 1) := by decide +kernel
theorem ym_26 : decode prog_40_method_14_code 26 = .ok (.iconst 2, 1) := by decide +kernel
theorem ym_27 : decode prog_40_method_14_code 27 = .ok (.irem, 1) := by decide +kernel
theorem ym_28 : decode prog_40_method_14_code 28 = .ok (.iconst 1, 1) := by decide +kernel
theorem ym_29 : decode prog_40_method_14_code 29 = .ok (.if_icmp .ne 7, 3) := by decide +kernel
theorem ym_32 : decode prog_40_method_14_code 32 = .ok (.iconst 1, 1) := by decide +kernel
theorem ym_33 : decode prog_40_method_14_code 33 = .ok (.goto 4, 3) := by decide +kernel
theorem ym_36 : decode prog_40_method_14_code 36 = .ok (.iconst 0, 1) := by decide +kernel
theorem ym_37 : decode prog_40_method_14_code 37 = .ok (.if_icmp .eq 5, 3) := by decide +kernel
theorem ym_40 : decode prog_40_method_14_code 40 = .ok (.iconst 0, 1) := by decide +kernel
theorem ym_41 : decode prog_40_method_14_code 41 = .ok (.ireturn, 1) := by decide +kernel
theorem ym_42 : decode prog_40_method_14_code 42 = .ok (.iinc 1 1, 3) := by decide +kernel
theorem ym_45 : decode prog_40_method_14_code 45 = .ok (.goto (-43), 3) := by decide +kernel
theorem rm56 (l : Launch) (Z : State) (a0 : Array Value) (hw : ∀ d ∈ tables_1, d.before a0 Z = true) (ws : List Jvm.Cond) (h0 : Heap) (n0 : Nat) (p1 : Int32) (A : Nat → Addr) (K : Nat → ClassId) (cs : Int32)  (sb367 : Addr) (sa367 : Addr) (kc367 : ClassId) (EN : own_St Z A K cs) (OL0 : Old Z n0 h0) (z2 : Exa Z h0 sa367 y_s2) (z7 : Fld Z h0 sa367 y_s2 "value" "[B" (.ref sb367)) (z8 : Arv Z h0 sb367 kc367 .byte (2 : Int32) [(.int 48), (.int 48)] (.int 0)) (z9 : Fld Z h0 sa367 y_s2 "coder" "B" (.int 0)) :
    own_MF l Z own_m30 prog_40_method_14_code 2 (some .boolean) ws (Room.mk 4 0 0 53) #[(.ref sa367)] h0 (PQ (some (.int 0)) h0 n0) := by
  refine MetFree.of_bodySF (plainFor_of_name own_pn6) hisR ?_
  intro p e s m args below meth c s₁ Bd hml0 hP hK
  obtain ⟨rfl, hZ, hh⟩ := hP
  have hx := Bd.exec
  have hby := Bd.bytes
  have hml : c.maxLocals = 2 := hml0
  have hown : s.vm.findClass y_s1 = some m.cls := findClass_of_methodNamed Bd.named
  have hnm := (name_of_methodNamed Bd.named Bd.method).1
  have X0 : Stand p l e (Room.mk 4 0 0 53) s m #[(.ref sa367)] below meth c s₁ [] 0 0 := Stand.of_body Bd
  have e0 : s₁.heap = h0 := by rw [← hh, Bd.state]; rfl
  have N0 := Fr.nil n0
  have pre0 : own_P p e below s₁ m 0 #[.val (.ref sa367), .unset] [] s₁ #[(.ref sa367)] 2 := fun t k => castTop (by first | (simp [entryFrame, mkF, argsToLocals, Value.category, maxLocals]; done) | rfl) k
  have KK0 : Keep h0 h0 [] := Keep.refl _ _
  obtain ⟨cq371, kq371, zn, z14, zo⟩ := isOf hZ e0 z2
  obtain ⟨_, _, ⟨za, L371, z15, n371⟩, -, z3, ⟨Lc371, zb, l371, y371, z371⟩, zc⟩ := X0.virtualBack hx (y := own_m1) (z := own_m1) hown (mvT hZ (own_W hw 21 rfl)) (mvT hZ (own_W hw 22 rfl)) (notFace_of_selects (args := #[]) (mvT hZ (own_W hw 24 rfl))) (mvT hZ (own_W hw 24 rfl)) (mvT hZ (own_W hw 23 rfl)) (by decide) (backOf (W := 1) (rm2 l Z a0 hw [] h0 n0 p1 A K cs sb367 sa367 kc367 EN OL0 z7 z8 z2 z9) hZ (own_W hw 25 rfl) (own_W hw 9 rfl) (by decide) (by decide)) zn zo (g := (mkF m 4 #[.val (.ref sa367), .val (.int 0)] [(.ref sa367), (.int 0)])) rfl (by rw [hml]; rfl) (Steps.refl _) (argsL := []) (rest := [(.int 0)]) (lenOf own_pd2 rfl) rfl (by show 2 * 0 + _ ≤ _; exact Nat.le_of_eq rfl) (hb hby ym_4) (fun _ _ => ⟨rfl, e0, (by decide : 0 + 0 ≤ _), (by decide : 0 + 0 ≤ _)⟩)
  dsimp only [Pt.U, Pt.locs, Pt.cells, Pt.slots] at z3 l371 y371 z371 zc zb
  replace z3 := own_sub z3 l371 y371 z371
  obtain ⟨rfl, zp, zd⟩ := zb
  have zq := Fr.app N0 zp
  obtain ⟨cq372, kq372, zr, z16, zs⟩ := isOf hZ zd z2
  obtain ⟨_, _, ⟨z5, L372, z17, n372⟩, -, z0, ⟨Lc372, ze, l372, y372, z372⟩, zf⟩ := z3.virtualBack hx (y := own_m3) (z := own_m3) hown (mvT hZ (own_W hw 62 rfl)) (mvT hZ (own_W hw 63 rfl)) (notFace_of_selects (args := #[]) (mvT hZ (own_W hw 65 rfl))) (mvT hZ (own_W hw 65 rfl)) (mvT hZ (own_W hw 64 rfl)) (by decide) (backOf (W := 0) (rm10 l Z a0 hw [] h0 n0 p1 A K cs sb367 sa367 kc367 EN OL0 z2 z9 z7 z8) hZ (own_W hw 66 rfl) (own_W hw 9 rfl) (by decide) (by decide)) zr zs (g := (mkF m 12 #[.val (.ref sa367), .val (.int 0)] [(.int 0), (.ref sa367)])) rfl (by rw [hml]; rfl) (Steps.refl _) (argsL := [(.int 0)]) (rest := []) (lenOf own_pd10 rfl) rfl (by show 2 * 0 + _ ≤ _; exact Nat.le_of_eq rfl) (hb hby ym_12) (fun _ _ => ⟨rfl, zd, (by decide : 0 + 0 ≤ _), (by decide : 0 + 0 ≤ _)⟩)
  dsimp only [Pt.U, Pt.locs, Pt.cells, Pt.slots] at z0 l372 y372 z372 zf ze
  replace z0 := own_sub z0 l372 y372 z372
  obtain ⟨rfl, zt, zg⟩ := ze
  have zu := Fr.app zq zt
  obtain ⟨cq373, kq373, zv, z18, zw⟩ := isOf hZ zg z2
  obtain ⟨_, _, ⟨zh, L373, z19, n373⟩, -, z4, ⟨Lc373, zi, l373, y373, z373⟩, zj⟩ := z0.virtualBack hx (y := own_m1) (z := own_m1) hown (mvT hZ (own_W hw 21 rfl)) (mvT hZ (own_W hw 22 rfl)) (notFace_of_selects (args := #[]) (mvT hZ (own_W hw 24 rfl))) (mvT hZ (own_W hw 24 rfl)) (mvT hZ (own_W hw 23 rfl)) (by decide) (backOf (W := 1) (rm2 l Z a0 hw [] h0 n0 p1 A K cs sb367 sa367 kc367 EN OL0 z7 z8 z2 z9) hZ (own_W hw 25 rfl) (own_W hw 9 rfl) (by decide) (by decide)) zv zw (g := (mkF m 4 #[.val (.ref sa367), .val (.int 1)] [(.ref sa367), (.int 1)])) rfl (by rw [hml]; rfl) (Steps.refl _) (argsL := []) (rest := [(.int 1)]) (lenOf own_pd2 rfl) rfl (by show 2 * 0 + _ ≤ _; exact Nat.le_of_eq rfl) (hb hby ym_4) (fun _ _ => ⟨rfl, zg, (by decide : 0 + 0 ≤ _), (by decide : 0 + 0 ≤ _)⟩)
  dsimp only [Pt.U, Pt.locs, Pt.cells, Pt.slots] at z4 l373 y373 z373 zj zi
  replace z4 := own_sub z4 l373 y373 z373
  obtain ⟨rfl, zx, zk⟩ := zi
  have zy := Fr.app zu zx
  obtain ⟨cq374, kq374, zz, z1a, z10⟩ := isOf hZ zk z2
  obtain ⟨_, _, ⟨z6, L374, z1b, n374⟩, -, z1, ⟨Lc374, zl, l374, y374, z374⟩, zm⟩ := z4.virtualBack hx (y := own_m3) (z := own_m3) hown (mvT hZ (own_W hw 62 rfl)) (mvT hZ (own_W hw 63 rfl)) (notFace_of_selects (args := #[]) (mvT hZ (own_W hw 65 rfl))) (mvT hZ (own_W hw 65 rfl)) (mvT hZ (own_W hw 64 rfl)) (by decide) (backOf (W := 0) (rm17 l Z a0 hw [] h0 n0 p1 A K cs sb367 sa367 kc367 EN OL0 z2 z9 z7 z8) hZ (own_W hw 66 rfl) (own_W hw 9 rfl) (by decide) (by decide)) zz z10 (g := (mkF m 12 #[.val (.ref sa367), .val (.int 1)] [(.int 1), (.ref sa367)])) rfl (by rw [hml]; rfl) (Steps.refl _) (argsL := [(.int 1)]) (rest := []) (lenOf own_pd10 rfl) rfl (by show 2 * 0 + _ ≤ _; exact Nat.le_of_eq rfl) (hb hby ym_12) (fun _ _ => ⟨rfl, zk, (by decide : 0 + 0 ≤ _), (by decide : 0 + 0 ≤ _)⟩)
  dsimp only [Pt.U, Pt.locs, Pt.cells, Pt.slots] at z1 l374 y374 z374 zm zl
  replace z1 := own_sub z1 l374 y374 z374
  obtain ⟨rfl, z11, z12⟩ := zl
  have z13 := Fr.app zy z11
  obtain ⟨fs, hr, hrun, hended, hW, hsame⟩ := z1.leave (v := some (.int 0)) (fun h => by rw [Bd.returns] at h; cases h)
  refine ⟨_, _, pre0 _ ?_, hrun, hended, _, _, rfl, ?_, ⟨_, rfl⟩, hW, hsame.mono (by decide) (by decide)⟩
  · show own_Y p e below s₁ m 0 #[.val (.ref sa367), .unset] [] _
    refine XS.iconst X0.here hx rfl (hb hby ym_0) ?_
    refine XS.istoreN X0.here hx rfl (hb hby ym_1) rfl (l' := #[.val (.ref sa367), .val (.int 0)]) rfl ?_
    refine XS.iloadN X0.here hx rfl (hb hby ym_2) rfl ?_
    refine XS.aloadN X0.here hx rfl (hb hby ym_3) rfl rfl ?_
    refine zc.trans ?_
    show own_Y p e below za m 7 #[.val (.ref sa367), .val (.int 0)] [(.int 2), (.int 0)] _
    refine XS.icmpNo z3.here hx rfl (hb hby ym_7) rfl (tlt (by decide : (0 : Int32) < (2 : Int32))).2.1 ?_
    show own_Y p e below za m 10 #[.val (.ref sa367), .val (.int 0)] [] _
    refine XS.aloadN z3.here hx rfl (hb hby ym_10) rfl rfl ?_
    refine XS.iloadN z3.here hx rfl (hb hby ym_11) rfl ?_
    refine zf.trans ?_
    show own_Y p e below z5 m 15 #[.val (.ref sa367), .val (.int 0)] [(.int 48)] _
    refine XS.bipush z0.here hx rfl (hb hby ym_15) ?_
    refine XS.icmpYes z0.here hx rfl (pc0 := 17) (pc' := 24) rfl (hb hby ym_17) rfl (feq (by decide : ¬ ((48 : Int32) = (32 : Int32)))).2 (by decide) (by decide) ?_
    show own_Y p e below z5 m 24 #[.val (.ref sa367), .val (.int 0)] [] _
    refine XS.iconst z0.here hx rfl (hb hby ym_24) ?_
    refine XS.iloadN z0.here hx rfl (hb hby ym_25) rfl ?_
    refine XS.iconst z0.here hx rfl (hb hby ym_26) ?_
    refine iremM z0 hx rfl (hb hby ym_27) rfl (by decide) ?_
    show own_Y p e below z5 m 28 #[.val (.ref sa367), .val (.int 0)] [(.int 0), (.int 0)] _
    refine XS.iconst z0.here hx rfl (hb hby ym_28) ?_
    refine XS.icmpYes z0.here hx rfl (pc0 := 29) (pc' := 36) rfl (hb hby ym_29) rfl (feq (by decide : ¬ ((0 : Int32) = (1 : Int32)))).2 (by decide) (by decide) ?_
    show own_Y p e below z5 m 36 #[.val (.ref sa367), .val (.int 0)] [(.int 0)] _
    refine XS.iconst z0.here hx rfl (hb hby ym_36) ?_
    refine XS.icmpYes z0.here hx rfl (pc0 := 37) (pc' := 42) rfl (hb hby ym_37) rfl (teq (by decide : (0 : Int32) = (0 : Int32))).1 (by decide) (by decide) ?_
    show own_Y p e below z5 m 42 #[.val (.ref sa367), .val (.int 0)] [] _
    refine XS.iinc z0.here hx rfl (hb hby ym_42) rfl (l' := #[.val (.ref sa367), .val (.int 1)]) rfl ?_
    show own_Y p e below z5 m 45 #[.val (.ref sa367), .val (.int 1)] [] _
    refine XS.goto z0.here hx rfl (pc0 := 45) (pc' := 2) rfl (hb hby ym_45) (by decide) (by decide) ?_
    refine XS.iloadN z0.here hx rfl (hb hby ym_2) rfl ?_
    refine XS.aloadN z0.here hx rfl (hb hby ym_3) rfl rfl ?_
    refine zj.trans ?_
    show own_Y p e below zh m 7 #[.val (.ref sa367), .val (.int 1)] [(.int 2), (.int 1)] _
    refine XS.icmpNo z4.here hx rfl (hb hby ym_7) rfl (tlt (by decide : (1 : Int32) < (2 : Int32))).2.1 ?_
    show own_Y p e below zh m 10 #[.val (.ref sa367), .val (.int 1)] [] _
    refine XS.aloadN z4.here hx rfl (hb hby ym_10) rfl rfl ?_
    refine XS.iloadN z4.here hx rfl (hb hby ym_11) rfl ?_
    refine zm.trans ?_
    show own_Y p e below z6 m 15 #[.val (.ref sa367), .val (.int 1)] [(.int 48)] _
    refine XS.bipush z1.here hx rfl (hb hby ym_15) ?_
    refine XS.icmpYes z1.here hx rfl (pc0 := 17) (pc' := 24) rfl (hb hby ym_17) rfl (feq (by decide : ¬ ((48 : Int32) = (32 : Int32)))).2 (by decide) (by decide) ?_
    show own_Y p e below z6 m 24 #[.val (.ref sa367), .val (.int 1)] [] _
    refine XS.iconst z1.here hx rfl (hb hby ym_24) ?_
    refine XS.iloadN z1.here hx rfl (hb hby ym_25) rfl ?_
    refine XS.iconst z1.here hx rfl (hb hby ym_26) ?_
    refine iremM z1 hx rfl (hb hby ym_27) rfl (by decide) ?_
    show own_Y p e below z6 m 28 #[.val (.ref sa367), .val (.int 1)] [(.int 1), (.int 0)] _
    refine XS.iconst z1.here hx rfl (hb hby ym_28) ?_
    refine XS.icmpNo z1.here hx rfl (hb hby ym_29) rfl (teq (by decide : (1 : Int32) = (1 : Int32))).2 ?_
    show own_Y p e below z6 m 32 #[.val (.ref sa367), .val (.int 1)] [(.int 0)] _
    refine XS.iconst z1.here hx rfl (hb hby ym_32) ?_
    refine XS.goto z1.here hx rfl (pc0 := 33) (pc' := 37) rfl (hb hby ym_33) (by decide) (by decide) ?_
    refine XS.icmpNo z1.here hx rfl (hb hby ym_37) rfl (feq (by decide : ¬ ((0 : Int32) = (1 : Int32)))).1 ?_
    show own_Y p e below z6 m 40 #[.val (.ref sa367), .val (.int 1)] [] _
    refine XS.iconst z1.here hx rfl (hb hby ym_40) ?_
    exact retN z1 hx (t := .boolean) Bd.returns (by simp) (hb hby ym_41) hr
  · show PQ (some (.int 0)) h0 n0 _ z6.heap _
    rw [z12]
    exact ⟨rfl, z13, rfl⟩
theorem ye_295 : decode prog_40_method_7_code 295 = .ok (.aload_n 1, 1) := by decide +kernel
theorem ye_296 : decode prog_40_method_7_code 296 = .ok (.invokestatic 149, 3) := by decide +kernel
theorem ye_299 : decode prog_40_method_7_code 299 = .ok (.goto 127, 3) := by decide +kernel
theorem rm55 (l : Launch) (Z : State) (a0 : Array Value) (hw : ∀ d ∈ tables_1, d.before a0 Z = true) (ws : List Jvm.Cond) (h0 : Heap) (n0 : Nat) (p1 : Int32) (A : Nat → Addr) (K : Nat → ClassId) (cs : Int32) (ta : Addr) (tj : Int32)  (sb367 : Addr) (sa367 : Addr) (kc367 : ClassId) (EN : own_St Z A K cs) (gE : Exa Z Z.heap ta y_s1) (gF : Fld Z Z.heap ta y_s3 "ordinal" "I" (.int tj)) (gj : tj = (15 : Int32)) (OL0 : Old Z n0 h0) (z4 : Exa Z h0 sa367 y_s2) (z5 : Fld Z h0 sa367 y_s2 "value" "[B" (.ref sb367)) (z6 : Arv Z h0 sb367 kc367 .byte (2 : Int32) [(.int 48), (.int 48)] (.int 0)) (z7 : Fld Z h0 sa367 y_s2 "coder" "B" (.int 0)) :
    own_MF l Z own_m0 prog_40_method_7_code 3 (some .boolean) ws (Room.mk 5 0 0 66) #[(.ref ta), (.ref sa367)] h0 (PQ (some (.int 0)) h0 n0) := by
  refine MetFree.of_bodySF (plainFor_of_name own_pn6) hisR ?_
  intro p e s m args below meth c s₁ Bd hml0 hP hK
  obtain ⟨rfl, hZ, hh⟩ := hP
  have hx := Bd.exec
  have hby := Bd.bytes
  have hml : c.maxLocals = 3 := hml0
  have hown : s.vm.findClass y_s1 = some m.cls := findClass_of_methodNamed Bd.named
  have hnm := (name_of_methodNamed Bd.named Bd.method).1
  have X0 : Stand p l e (Room.mk 5 0 0 66) s m #[(.ref ta), (.ref sa367)] below meth c s₁ [] 0 0 := Stand.of_body Bd
  have e0 : s₁.heap = h0 := by rw [← hh, Bd.state]; rfl
  have N0 := Fr.nil n0
  have pre0 : own_P p e below s₁ m 0 #[.val (.ref ta), .val (.ref sa367), .unset] [] s₁ #[(.ref ta), (.ref sa367)] 3 := fun t k => castTop (by first | (simp [entryFrame, mkF, argsToLocals, Value.category, maxLocals]; done) | rfl) k
  have KK0 : Keep h0 h0 [] := Keep.refl _ _
  obtain ⟨cq368, kq368, zh, zt, zi⟩ := isOf hZ e0 z4
  obtain ⟨_, _, ⟨z8, L368, zu, n368⟩, -, z0, ⟨Lc368, z9, l368, y368, z368⟩, za⟩ := X0.virtualBack hx (y := own_m1) (z := own_m1) hown (mvT hZ (own_W hw 21 rfl)) (mvT hZ (own_W hw 22 rfl)) (notFace_of_selects (args := #[]) (mvT hZ (own_W hw 24 rfl))) (mvT hZ (own_W hw 24 rfl)) (mvT hZ (own_W hw 23 rfl)) (by decide) (backOf (W := 0) (rm2 l Z a0 hw [] h0 n0 p1 A K cs sb367 sa367 kc367 EN OL0 z5 z6 z4 z7) hZ (own_W hw 25 rfl) (own_W hw 9 rfl) (by decide) (by decide)) zh zi (g := (mkF m 1 #[.val (.ref ta), .val (.ref sa367), .unset] [(.ref sa367)])) rfl (by rw [hml]; rfl) (Steps.refl _) (argsL := []) (rest := []) (lenOf own_pd2 rfl) rfl (by show 2 * 0 + _ ≤ _; exact Nat.le_of_eq rfl) (hb hby ye_1) (fun _ _ => ⟨rfl, e0, (by decide : 0 + 0 ≤ _), (by decide : 0 + 0 ≤ _)⟩)
  dsimp only [Pt.U, Pt.locs, Pt.cells, Pt.slots] at z0 l368 y368 z368 za z9
  replace z0 := own_sub z0 l368 y368 z368
  obtain ⟨rfl, zj, zb⟩ := z9
  have zk := Fr.app N0 zj
  obtain ⟨cq369, kq369, zl, zv, zm⟩ := isOf hZ zb (gE.ext OL0.2)
  obtain ⟨_, _, ⟨z3, L369, zw, n369⟩, -, z1, ⟨Lc369, zc, l369, y369, z369⟩, zd⟩ := z0.virtualBackUp hx (x := own_m8) (y := own_m7) (owner := y_s3) hown (mvT hZ (own_W hw 34 rfl)) (mvT hZ (own_W hw 35 rfl)) (mvT hZ (own_W hw 36 rfl)) (by decide) (mvT hZ (own_W hw 38 rfl)) (mvT hZ (own_W hw 37 rfl)) (backOf (W := 0) (rm4 l Z a0 hw [] h0 n0 p1 A K cs ta tj EN gE gF OL0) hZ (own_W hw 40 rfl) (own_W hw 39 rfl) (by decide) (by decide)) zl zm (g := (mkF m 12 #[.val (.ref ta), .val (.ref sa367), .val (.int 2)] [(.ref ta)])) rfl (by rw [hml]; rfl) (Steps.refl _) (argsL := []) (rest := []) (lenOf own_pd2 rfl) rfl (by show 2 * 0 + _ ≤ _; exact Nat.le_of_eq rfl) (hb hby ye_12) (fun _ _ => ⟨rfl, zb, (by decide : 0 + 0 ≤ _), (by decide : 0 + 0 ≤ _)⟩)
  dsimp only [Pt.U, Pt.locs, Pt.cells, Pt.slots] at z1 l369 y369 z369 zd zc
  replace z1 := own_sub z1 l369 y369 z369
  obtain ⟨rfl, zn, zo⟩ := zc
  have zp := Fr.app zk zn
  have ts370 : ∀ t, Steps p.tables e below (z3.setTop (mkF m 295 #[.val (.ref ta), .val (.ref sa367), .val (.int 2)] [])) t → Steps p.tables e below (z3.setTop (mkF m 15 #[.val (.ref ta), .val (.ref sa367), .val (.int 2)] [(.int tj)])) t := by
    intro t k
    rcases gj with rfl <;> exact XS.tswIn z1.here hx rfl (pc0 := 15) (pc' := 295) rfl (hb hby ye_15) rfl (by decide) (o := 280) (by decide) (by decide) (by decide) k
  obtain ⟨_, _, ⟨ze, L375, zx, n375⟩, -, z2, ⟨Lc375, zf, l375, y375, z375⟩, zg⟩ := Jvm.LawKit.callS z1 hx (y := own_m30) hown (mvT hZ (own_W hw 174 rfl)) (mvT hZ (own_W hw 175 rfl)) (mvT hZ (own_W hw 6 rfl)) (mvT hZ (own_W hw 176 rfl)) (by decide) (backOf (W := 0) (rm56 l Z a0 hw [] h0 n0 p1 A K cs sb367 sa367 kc367 EN OL0 z4 z5 z6 z7) hZ (own_W hw 176 rfl) (own_W hw 6 rfl) (by decide) (by decide)) (g := (mkF m 296 #[.val (.ref ta), .val (.ref sa367), .val (.int 2)] [(.ref sa367)])) rfl (by rw [hml]; rfl) (argsL := [(.ref sa367)]) (rest := []) (lenOf own_pd5 rfl) rfl (by show 2 * 0 + _ ≤ _; exact Nat.le_of_eq rfl) (hb hby ye_296) (fun _ _ => ⟨rfl, zo, (by decide : 0 + 0 ≤ _), (by decide : 0 + 0 ≤ _)⟩)
  dsimp only [Pt.U, Pt.locs, Pt.cells, Pt.slots] at z2 l375 y375 z375 zg zf
  replace z2 := own_sub z2 l375 y375 z375
  obtain ⟨rfl, zq, zr⟩ := zf
  have zs := Fr.app zp zq
  obtain ⟨fs, hr, hrun, hended, hW, hsame⟩ := z2.leave (v := some (.int 0)) (fun h => by rw [Bd.returns] at h; cases h)
  refine ⟨_, _, pre0 _ ?_, hrun, hended, _, _, rfl, ?_, ⟨_, rfl⟩, hW, hsame.mono (by decide) (by decide)⟩
  · show own_Y p e below s₁ m 0 #[.val (.ref ta), .val (.ref sa367), .unset] [] _
    refine XS.aloadN X0.here hx rfl (hb hby ye_0) rfl rfl ?_
    refine za.trans ?_
    show own_Y p e below z8 m 4 #[.val (.ref ta), .val (.ref sa367), .unset] [(.int 2)] _
    refine XS.istoreN z0.here hx rfl (hb hby ye_4) rfl (l' := #[.val (.ref ta), .val (.ref sa367), .val (.int 2)]) rfl ?_
    refine XS.iloadN z0.here hx rfl (hb hby ye_5) rfl ?_
    refine XS.ifYes z0.here hx rfl (pc0 := 6) (pc' := 11) rfl (hb hby ye_6) rfl ((if0 _ _).trans (feq (by decide : ¬ ((2 : Int32) = (0 : Int32)))).2) (by decide) (by decide) ?_
    show own_Y p e below z8 m 11 #[.val (.ref ta), .val (.ref sa367), .val (.int 2)] [] _
    refine XS.aloadN z0.here hx rfl (hb hby ye_11) rfl rfl ?_
    refine zd.trans ?_
    show own_Y p e below z3 m 15 #[.val (.ref ta), .val (.ref sa367), .val (.int 2)] [(.int tj)] _
    refine ts370 _ ?_
    show own_Y p e below z3 m 295 #[.val (.ref ta), .val (.ref sa367), .val (.int 2)] [] _
    refine XS.aloadN z1.here hx rfl (hb hby ye_295) rfl rfl ?_
    refine zg _ ?_
    show own_Y p e below ze m 299 #[.val (.ref ta), .val (.ref sa367), .val (.int 2)] [(.int 0)] _
    refine XS.goto z2.here hx rfl (pc0 := 299) (pc' := 426) rfl (hb hby ye_299) (by decide) (by decide) ?_
    exact retN z2 hx (t := .boolean) Bd.returns (by simp) (hb hby ye_426) hr
  · show PQ (some (.int 0)) h0 n0 _ ze.heap _
    rw [zr]
    exact ⟨rfl, zs, rfl⟩
theorem ye_269 : decode prog_40_method_7_code 269 = .ok (.iload_n 2, 1) := by decide +kernel
theorem ye_270 : decode prog_40_method_7_code 270 = .ok (.iconst 3, 1) := by decide +kernel
theorem ye_271 : decode prog_40_method_7_code 271 = .ok (.if_icmp .ne 7, 3) := by decide +kernel
theorem ye_278 : decode prog_40_method_7_code 278 = .ok (.iconst 0, 1) := by decide +kernel
theorem ye_279 : decode prog_40_method_7_code 279 = .ok (.goto 147, 3) := by decide +kernel
theorem rm57 (l : Launch) (Z : State) (a0 : Array Value) (hw : ∀ d ∈ tables_1, d.before a0 Z = true) (ws : List Jvm.Cond) (h0 : Heap) (n0 : Nat) (p1 : Int32) (A : Nat → Addr) (K : Nat → ClassId) (cs : Int32) (ta : Addr) (tj : Int32)  (sb388 : Addr) (sa388 : Addr) (kc388 : ClassId) (EN : own_St Z A K cs) (gE : Exa Z Z.heap ta y_s1) (gF : Fld Z Z.heap ta y_s3 "ordinal" "I" (.int tj)) (gj : tj = (17 : Int32)) (OL0 : Old Z n0 h0) (z3 : Exa Z h0 sa388 y_s2) (za : Fld Z h0 sa388 y_s2 "value" "[B" (.ref sb388)) (zb : Arv Z h0 sb388 kc388 .byte (2 : Int32) [(.int 48), (.int 48)] (.int 0)) (zc : Fld Z h0 sa388 y_s2 "coder" "B" (.int 0)) :
    own_MF l Z own_m0 prog_40_method_7_code 3 (some .boolean) ws (Room.mk 2 0 0 25) #[(.ref ta), (.ref sa388)] h0 (PQ (some (.int 0)) h0 n0) := by
  refine MetFree.of_bodySF (plainFor_of_name own_pn6) hisR ?_
  intro p e s m args below meth c s₁ Bd hml0 hP hK
  obtain ⟨rfl, hZ, hh⟩ := hP
  have hx := Bd.exec
  have hby := Bd.bytes
  have hml : c.maxLocals = 3 := hml0
  have hown : s.vm.findClass y_s1 = some m.cls := findClass_of_methodNamed Bd.named
  have hnm := (name_of_methodNamed Bd.named Bd.method).1
  have X0 : Stand p l e (Room.mk 2 0 0 25) s m #[(.ref ta), (.ref sa388)] below meth c s₁ [] 0 0 := Stand.of_body Bd
  have e0 : s₁.heap = h0 := by rw [← hh, Bd.state]; rfl
  have N0 := Fr.nil n0
  have pre0 : own_P p e below s₁ m 0 #[.val (.ref ta), .val (.ref sa388), .unset] [] s₁ #[(.ref ta), (.ref sa388)] 3 := fun t k => castTop (by first | (simp [entryFrame, mkF, argsToLocals, Value.category, maxLocals]; done) | rfl) k
  have KK0 : Keep h0 h0 [] := Keep.refl _ _
  obtain ⟨cq389, kq389, zd, zm, ze⟩ := isOf hZ e0 z3
  obtain ⟨_, _, ⟨z4, L389, zn, n389⟩, -, z1, ⟨Lc389, z5, l389, y389, z389⟩, z6⟩ := X0.virtualBack hx (y := own_m1) (z := own_m1) hown (mvT hZ (own_W hw 21 rfl)) (mvT hZ (own_W hw 22 rfl)) (notFace_of_selects (args := #[]) (mvT hZ (own_W hw 24 rfl))) (mvT hZ (own_W hw 24 rfl)) (mvT hZ (own_W hw 23 rfl)) (by decide) (backOf (W := 0) (rm2 l Z a0 hw [] h0 n0 p1 A K cs sb388 sa388 kc388 EN OL0 za zb z3 zc) hZ (own_W hw 25 rfl) (own_W hw 9 rfl) (by decide) (by decide)) zd ze (g := (mkF m 1 #[.val (.ref ta), .val (.ref sa388), .unset] [(.ref sa388)])) rfl (by rw [hml]; rfl) (Steps.refl _) (argsL := []) (rest := []) (lenOf own_pd2 rfl) rfl (by show 2 * 0 + _ ≤ _; exact Nat.le_of_eq rfl) (hb hby ye_1) (fun _ _ => ⟨rfl, e0, (by decide : 0 + 0 ≤ _), (by decide : 0 + 0 ≤ _)⟩)
  dsimp only [Pt.U, Pt.locs, Pt.cells, Pt.slots] at z1 l389 y389 z389 z6 z5
  replace z1 := own_sub z1 l389 y389 z389
  obtain ⟨rfl, zf, z7⟩ := z5
  have zg := Fr.app N0 zf
  obtain ⟨cq390, kq390, zh, zo, zi⟩ := isOf hZ z7 (gE.ext OL0.2)
  obtain ⟨_, _, ⟨z2, L390, zp, n390⟩, -, z0, ⟨Lc390, z8, l390, y390, z390⟩, z9⟩ := z1.virtualBackUp hx (x := own_m8) (y := own_m7) (owner := y_s3) hown (mvT hZ (own_W hw 34 rfl)) (mvT hZ (own_W hw 35 rfl)) (mvT hZ (own_W hw 36 rfl)) (by decide) (mvT hZ (own_W hw 38 rfl)) (mvT hZ (own_W hw 37 rfl)) (backOf (W := 0) (rm4 l Z a0 hw [] h0 n0 p1 A K cs ta tj EN gE gF OL0) hZ (own_W hw 40 rfl) (own_W hw 39 rfl) (by decide) (by decide)) zh zi (g := (mkF m 12 #[.val (.ref ta), .val (.ref sa388), .val (.int 2)] [(.ref ta)])) rfl (by rw [hml]; rfl) (Steps.refl _) (argsL := []) (rest := []) (lenOf own_pd2 rfl) rfl (by show 2 * 0 + _ ≤ _; exact Nat.le_of_eq rfl) (hb hby ye_12) (fun _ _ => ⟨rfl, z7, (by decide : 0 + 0 ≤ _), (by decide : 0 + 0 ≤ _)⟩)
  dsimp only [Pt.U, Pt.locs, Pt.cells, Pt.slots] at z0 l390 y390 z390 z9 z8
  replace z0 := own_sub z0 l390 y390 z390
  obtain ⟨rfl, zj, zk⟩ := z8
  have zl := Fr.app zg zj
  have ts391 : ∀ t, Steps p.tables e below (z2.setTop (mkF m 269 #[.val (.ref ta), .val (.ref sa388), .val (.int 2)] [])) t → Steps p.tables e below (z2.setTop (mkF m 15 #[.val (.ref ta), .val (.ref sa388), .val (.int 2)] [(.int tj)])) t := by
    intro t k
    rcases gj with rfl <;> exact XS.tswIn z0.here hx rfl (pc0 := 15) (pc' := 269) rfl (hb hby ye_15) rfl (by decide) (o := 254) (by decide) (by decide) (by decide) k
  obtain ⟨fs, hr, hrun, hended, hW, hsame⟩ := z0.leave (v := some (.int 0)) (fun h => by rw [Bd.returns] at h; cases h)
  refine ⟨_, _, pre0 _ ?_, hrun, hended, _, _, rfl, ?_, ⟨_, rfl⟩, hW, hsame.mono (by decide) (by decide)⟩
  · show own_Y p e below s₁ m 0 #[.val (.ref ta), .val (.ref sa388), .unset] [] _
    refine XS.aloadN X0.here hx rfl (hb hby ye_0) rfl rfl ?_
    refine z6.trans ?_
    show own_Y p e below z4 m 4 #[.val (.ref ta), .val (.ref sa388), .unset] [(.int 2)] _
    refine XS.istoreN z1.here hx rfl (hb hby ye_4) rfl (l' := #[.val (.ref ta), .val (.ref sa388), .val (.int 2)]) rfl ?_
    refine XS.iloadN z1.here hx rfl (hb hby ye_5) rfl ?_
    refine XS.ifYes z1.here hx rfl (pc0 := 6) (pc' := 11) rfl (hb hby ye_6) rfl ((if0 _ _).trans (feq (by decide : ¬ ((2 : Int32) = (0 : Int32)))).2) (by decide) (by decide) ?_
    show own_Y p e below z4 m 11 #[.val (.ref ta), .val (.ref sa388), .val (.int 2)] [] _
    refine XS.aloadN z1.here hx rfl (hb hby ye_11) rfl rfl ?_
    refine z9.trans ?_
    show own_Y p e below z2 m 15 #[.val (.ref ta), .val (.ref sa388), .val (.int 2)] [(.int tj)] _
    refine ts391 _ ?_
    show own_Y p e below z2 m 269 #[.val (.ref ta), .val (.ref sa388), .val (.int 2)] [] _
    refine XS.iloadN z0.here hx rfl (hb hby ye_269) rfl ?_
    refine XS.iconst z0.here hx rfl (hb hby ye_270) ?_
    refine XS.icmpYes z0.here hx rfl (pc0 := 271) (pc' := 278) rfl (hb hby ye_271) rfl (feq (by decide : ¬ ((2 : Int32) = (3 : Int32)))).2 (by decide) (by decide) ?_
    show own_Y p e below z2 m 278 #[.val (.ref ta), .val (.ref sa388), .val (.int 2)] [] _
    refine XS.iconst z0.here hx rfl (hb hby ye_278) ?_
    refine XS.goto z0.here hx rfl (pc0 := 279) (pc' := 426) rfl (hb hby ye_279) (by decide) (by decide) ?_
    exact retN z0 hx (t := .boolean) Bd.returns (by simp) (hb hby ye_426) hr
  · show PQ (some (.int 0)) h0 n0 _ z2.heap _
    rw [zk]
    exact ⟨rfl, zl, rfl⟩
theorem ye_282 : decode prog_40_method_7_code 282 = .ok (.iload_n 2, 1) := by decide +kernel
theorem ye_283 : decode prog_40_method_7_code 283 = .ok (.iconst 2, 1) := by decide +kernel
theorem ye_284 : decode prog_40_method_7_code 284 = .ok (.if_icmp .ne 7, 3) := by decide +kernel
theorem ye_287 : decode prog_40_method_7_code 287 = .ok (.iconst 1, 1) := by decide +kernel
theorem ye_288 : decode prog_40_method_7_code 288 = .ok (.goto 138, 3) := by decide +kernel
theorem rm58 (l : Launch) (Z : State) (a0 : Array Value) (hw : ∀ d ∈ tables_1, d.before a0 Z = true) (ws : List Jvm.Cond) (h0 : Heap) (n0 : Nat) (p1 : Int32) (A : Nat → Addr) (K : Nat → ClassId) (cs : Int32) (ta : Addr) (tj : Int32)  (sb396 : Addr) (sa396 : Addr) (kc396 : ClassId) (EN : own_St Z A K cs) (gE : Exa Z Z.heap ta y_s1) (gF : Fld Z Z.heap ta y_s3 "ordinal" "I" (.int tj)) (gj : tj = (18 : Int32)) (OL0 : Old Z n0 h0) (z3 : Exa Z h0 sa396 y_s2) (za : Fld Z h0 sa396 y_s2 "value" "[B" (.ref sb396)) (zb : Arv Z h0 sb396 kc396 .byte (2 : Int32) [(.int 48), (.int 48)] (.int 0)) (zc : Fld Z h0 sa396 y_s2 "coder" "B" (.int 0)) :
    own_MF l Z own_m0 prog_40_method_7_code 3 (some .boolean) ws (Room.mk 2 0 0 25) #[(.ref ta), (.ref sa396)] h0 (PQ (some (.int 1)) h0 n0) := by
  refine MetFree.of_bodySF (plainFor_of_name own_pn6) hisR ?_
  intro p e s m args below meth c s₁ Bd hml0 hP hK
  obtain ⟨rfl, hZ, hh⟩ := hP
  have hx := Bd.exec
  have hby := Bd.bytes
  have hml : c.maxLocals = 3 := hml0
  have hown : s.vm.findClass y_s1 = some m.cls := findClass_of_methodNamed Bd.named
  have hnm := (name_of_methodNamed Bd.named Bd.method).1
  have X0 : Stand p l e (Room.mk 2 0 0 25) s m #[(.ref ta), (.ref sa396)] below meth c s₁ [] 0 0 := Stand.of_body Bd
  have e0 : s₁.heap = h0 := by rw [← hh, Bd.state]; rfl
  have N0 := Fr.nil n0
  have pre0 : own_P p e below s₁ m 0 #[.val (.ref ta), .val (.ref sa396), .unset] [] s₁ #[(.ref ta), (.ref sa396)] 3 := fun t k => castTop (by first | (simp [entryFrame, mkF, argsToLocals, Value.category, maxLocals]; done) | rfl) k
  have KK0 : Keep h0 h0 [] := Keep.refl _ _
  obtain ⟨cq397, kq397, zd, zm, ze⟩ := isOf hZ e0 z3
  obtain ⟨_, _, ⟨z4, L397, zn, n397⟩, -, z1, ⟨Lc397, z5, l397, y397, z397⟩, z6⟩ := X0.virtualBack hx (y := own_m1) (z := own_m1) hown (mvT hZ (own_W hw 21 rfl)) (mvT hZ (own_W hw 22 rfl)) (notFace_of_selects (args := #[]) (mvT hZ (own_W hw 24 rfl))) (mvT hZ (own_W hw 24 rfl)) (mvT hZ (own_W hw 23 rfl)) (by decide) (backOf (W := 0) (rm2 l Z a0 hw [] h0 n0 p1 A K cs sb396 sa396 kc396 EN OL0 za zb z3 zc) hZ (own_W hw 25 rfl) (own_W hw 9 rfl) (by decide) (by decide)) zd ze (g := (mkF m 1 #[.val (.ref ta), .val (.ref sa396), .unset] [(.ref sa396)])) rfl (by rw [hml]; rfl) (Steps.refl _) (argsL := []) (rest := []) (lenOf own_pd2 rfl) rfl (by show 2 * 0 + _ ≤ _; exact Nat.le_of_eq rfl) (hb hby ye_1) (fun _ _ => ⟨rfl, e0, (by decide : 0 + 0 ≤ _), (by decide : 0 + 0 ≤ _)⟩)
  dsimp only [Pt.U, Pt.locs, Pt.cells, Pt.slots] at z1 l397 y397 z397 z6 z5
  replace z1 := own_sub z1 l397 y397 z397
  obtain ⟨rfl, zf, z7⟩ := z5
  have zg := Fr.app N0 zf
  obtain ⟨cq398, kq398, zh, zo, zi⟩ := isOf hZ z7 (gE.ext OL0.2)
  obtain ⟨_, _, ⟨z2, L398, zp, n398⟩, -, z0, ⟨Lc398, z8, l398, y398, z398⟩, z9⟩ := z1.virtualBackUp hx (x := own_m8) (y := own_m7) (owner := y_s3) hown (mvT hZ (own_W hw 34 rfl)) (mvT hZ (own_W hw 35 rfl)) (mvT hZ (own_W hw 36 rfl)) (by decide) (mvT hZ (own_W hw 38 rfl)) (mvT hZ (own_W hw 37 rfl)) (backOf (W := 0) (rm4 l Z a0 hw [] h0 n0 p1 A K cs ta tj EN gE gF OL0) hZ (own_W hw 40 rfl) (own_W hw 39 rfl) (by decide) (by decide)) zh zi (g := (mkF m 12 #[.val (.ref ta), .val (.ref sa396), .val (.int 2)] [(.ref ta)])) rfl (by rw [hml]; rfl) (Steps.refl _) (argsL := []) (rest := []) (lenOf own_pd2 rfl) rfl (by show 2 * 0 + _ ≤ _; exact Nat.le_of_eq rfl) (hb hby ye_12) (fun _ _ => ⟨rfl, z7, (by decide : 0 + 0 ≤ _), (by decide : 0 + 0 ≤ _)⟩)
  dsimp only [Pt.U, Pt.locs, Pt.cells, Pt.slots] at z0 l398 y398 z398 z9 z8
  replace z0 := own_sub z0 l398 y398 z398
  obtain ⟨rfl, zj, zk⟩ := z8
  have zl := Fr.app zg zj
  have ts399 : ∀ t, Steps p.tables e below (z2.setTop (mkF m 282 #[.val (.ref ta), .val (.ref sa396), .val (.int 2)] [])) t → Steps p.tables e below (z2.setTop (mkF m 15 #[.val (.ref ta), .val (.ref sa396), .val (.int 2)] [(.int tj)])) t := by
    intro t k
    rcases gj with rfl <;> exact XS.tswIn z0.here hx rfl (pc0 := 15) (pc' := 282) rfl (hb hby ye_15) rfl (by decide) (o := 267) (by decide) (by decide) (by decide) k
  obtain ⟨fs, hr, hrun, hended, hW, hsame⟩ := z0.leave (v := some (.int 1)) (fun h => by rw [Bd.returns] at h; cases h)
  refine ⟨_, _, pre0 _ ?_, hrun, hended, _, _, rfl, ?_, ⟨_, rfl⟩, hW, hsame.mono (by decide) (by decide)⟩
  · show own_Y p e below s₁ m 0 #[.val (.ref ta), .val (.ref sa396), .unset] [] _
    refine XS.aloadN X0.here hx rfl (hb hby ye_0) rfl rfl ?_
    refine z6.trans ?_
    show own_Y p e below z4 m 4 #[.val (.ref ta), .val (.ref sa396), .unset] [(.int 2)] _
    refine XS.istoreN z1.here hx rfl (hb hby ye_4) rfl (l' := #[.val (.ref ta), .val (.ref sa396), .val (.int 2)]) rfl ?_
    refine XS.iloadN z1.here hx rfl (hb hby ye_5) rfl ?_
    refine XS.ifYes z1.here hx rfl (pc0 := 6) (pc' := 11) rfl (hb hby ye_6) rfl ((if0 _ _).trans (feq (by decide : ¬ ((2 : Int32) = (0 : Int32)))).2) (by decide) (by decide) ?_
    show own_Y p e below z4 m 11 #[.val (.ref ta), .val (.ref sa396), .val (.int 2)] [] _
    refine XS.aloadN z1.here hx rfl (hb hby ye_11) rfl rfl ?_
    refine z9.trans ?_
    show own_Y p e below z2 m 15 #[.val (.ref ta), .val (.ref sa396), .val (.int 2)] [(.int tj)] _
    refine ts399 _ ?_
    show own_Y p e below z2 m 282 #[.val (.ref ta), .val (.ref sa396), .val (.int 2)] [] _
    refine XS.iloadN z0.here hx rfl (hb hby ye_282) rfl ?_
    refine XS.iconst z0.here hx rfl (hb hby ye_283) ?_
    refine XS.icmpNo z0.here hx rfl (hb hby ye_284) rfl (teq (by decide : (2 : Int32) = (2 : Int32))).2 ?_
    show own_Y p e below z2 m 287 #[.val (.ref ta), .val (.ref sa396), .val (.int 2)] [] _
    refine XS.iconst z0.here hx rfl (hb hby ye_287) ?_
    refine XS.goto z0.here hx rfl (pc0 := 288) (pc' := 426) rfl (hb hby ye_288) (by decide) (by decide) ?_
    exact retN z0 hx (t := .boolean) Bd.returns (by simp) (hb hby ye_426) hr
  · show PQ (some (.int 1)) h0 n0 _ z2.heap _
    rw [zk]
    exact ⟨rfl, zl, rfl⟩
theorem rm59 (l : Launch) (Z : State) (a0 : Array Value) (hw : ∀ d ∈ tables_1, d.before a0 Z = true) (ws : List Jvm.Cond) (h0 : Heap) (n0 : Nat) (p1 : Int32) (A : Nat → Addr) (K : Nat → ClassId) (cs : Int32) (ta : Addr) (tj : Int32)  (sb402 : Addr) (sa402 : Addr) (kc402 : ClassId) (EN : own_St Z A K cs) (gE : Exa Z Z.heap ta y_s1) (gF : Fld Z Z.heap ta y_s3 "ordinal" "I" (.int tj)) (gj : tj = (18 : Int32)) (OL0 : Old Z n0 h0) (z3 : Exa Z h0 sa402 y_s2) (za : Fld Z h0 sa402 y_s2 "value" "[B" (.ref sb402)) (zb : Arv Z h0 sb402 kc402 .byte (2 : Int32) [(.int 45), (.int 48)] (.int 0)) (zc : Fld Z h0 sa402 y_s2 "coder" "B" (.int 0)) :
    own_MF l Z own_m0 prog_40_method_7_code 3 (some .boolean) ws (Room.mk 2 0 0 25) #[(.ref ta), (.ref sa402)] h0 (PQ (some (.int 1)) h0 n0) := by
  refine MetFree.of_bodySF (plainFor_of_name own_pn6) hisR ?_
  intro p e s m args below meth c s₁ Bd hml0 hP hK
  obtain ⟨rfl, hZ, hh⟩ := hP
  have hx := Bd.exec
  have hby := Bd.bytes
  have hml : c.maxLocals = 3 := hml0
  have hown : s.vm.findClass y_s1 = some m.cls := findClass_of_methodNamed Bd.named
  have hnm := (name_of_methodNamed Bd.named Bd.method).1
  have X0 : Stand p l e (Room.mk 2 0 0 25) s m #[(.ref ta), (.ref sa402)] below meth c s₁ [] 0 0 := Stand.of_body Bd
  have e0 : s₁.heap = h0 := by rw [← hh, Bd.state]; rfl
  have N0 := Fr.nil n0
  have pre0 : own_P p e below s₁ m 0 #[.val (.ref ta), .val (.ref sa402), .unset] [] s₁ #[(.ref ta), (.ref sa402)] 3 := fun t k => castTop (by first | (simp [entryFrame, mkF, argsToLocals, Value.category, maxLocals]; done) | rfl) k
  have KK0 : Keep h0 h0 [] := Keep.refl _ _
  obtain ⟨cq403, kq403, zd, zm, ze⟩ := isOf hZ e0 z3
  obtain ⟨_, _, ⟨z4, L403, zn, n403⟩, -, z1, ⟨Lc403, z5, l403, y403, z403⟩, z6⟩ := X0.virtualBack hx (y := own_m1) (z := own_m1) hown (mvT hZ (own_W hw 21 rfl)) (mvT hZ (own_W hw 22 rfl)) (notFace_of_selects (args := #[]) (mvT hZ (own_W hw 24 rfl))) (mvT hZ (own_W hw 24 rfl)) (mvT hZ (own_W hw 23 rfl)) (by decide) (backOf (W := 0) (rm23 l Z a0 hw [] h0 n0 p1 A K cs sb402 sa402 kc402 EN OL0 za zb z3 zc) hZ (own_W hw 25 rfl) (own_W hw 9 rfl) (by decide) (by decide)) zd ze (g := (mkF m 1 #[.val (.ref ta), .val (.ref sa402), .unset] [(.ref sa402)])) rfl (by rw [hml]; rfl) (Steps.refl _) (argsL := []) (rest := []) (lenOf own_pd2 rfl) rfl (by show 2 * 0 + _ ≤ _; exact Nat.le_of_eq rfl) (hb hby ye_1) (fun _ _ => ⟨rfl, e0, (by decide : 0 + 0 ≤ _), (by decide : 0 + 0 ≤ _)⟩)
  dsimp only [Pt.U, Pt.locs, Pt.cells, Pt.slots] at z1 l403 y403 z403 z6 z5
  replace z1 := own_sub z1 l403 y403 z403
  obtain ⟨rfl, zf, z7⟩ := z5
  have zg := Fr.app N0 zf
  obtain ⟨cq404, kq404, zh, zo, zi⟩ := isOf hZ z7 (gE.ext OL0.2)
  obtain ⟨_, _, ⟨z2, L404, zp, n404⟩, -, z0, ⟨Lc404, z8, l404, y404, z404⟩, z9⟩ := z1.virtualBackUp hx (x := own_m8) (y := own_m7) (owner := y_s3) hown (mvT hZ (own_W hw 34 rfl)) (mvT hZ (own_W hw 35 rfl)) (mvT hZ (own_W hw 36 rfl)) (by decide) (mvT hZ (own_W hw 38 rfl)) (mvT hZ (own_W hw 37 rfl)) (backOf (W := 0) (rm4 l Z a0 hw [] h0 n0 p1 A K cs ta tj EN gE gF OL0) hZ (own_W hw 40 rfl) (own_W hw 39 rfl) (by decide) (by decide)) zh zi (g := (mkF m 12 #[.val (.ref ta), .val (.ref sa402), .val (.int 2)] [(.ref ta)])) rfl (by rw [hml]; rfl) (Steps.refl _) (argsL := []) (rest := []) (lenOf own_pd2 rfl) rfl (by show 2 * 0 + _ ≤ _; exact Nat.le_of_eq rfl) (hb hby ye_12) (fun _ _ => ⟨rfl, z7, (by decide : 0 + 0 ≤ _), (by decide : 0 + 0 ≤ _)⟩)
  dsimp only [Pt.U, Pt.locs, Pt.cells, Pt.slots] at z0 l404 y404 z404 z9 z8
  replace z0 := own_sub z0 l404 y404 z404
  obtain ⟨rfl, zj, zk⟩ := z8
  have zl := Fr.app zg zj
  have ts405 : ∀ t, Steps p.tables e below (z2.setTop (mkF m 282 #[.val (.ref ta), .val (.ref sa402), .val (.int 2)] [])) t → Steps p.tables e below (z2.setTop (mkF m 15 #[.val (.ref ta), .val (.ref sa402), .val (.int 2)] [(.int tj)])) t := by
    intro t k
    rcases gj with rfl <;> exact XS.tswIn z0.here hx rfl (pc0 := 15) (pc' := 282) rfl (hb hby ye_15) rfl (by decide) (o := 267) (by decide) (by decide) (by decide) k
  obtain ⟨fs, hr, hrun, hended, hW, hsame⟩ := z0.leave (v := some (.int 1)) (fun h => by rw [Bd.returns] at h; cases h)
  refine ⟨_, _, pre0 _ ?_, hrun, hended, _, _, rfl, ?_, ⟨_, rfl⟩, hW, hsame.mono (by decide) (by decide)⟩
  · show own_Y p e below s₁ m 0 #[.val (.ref ta), .val (.ref sa402), .unset] [] _
    refine XS.aloadN X0.here hx rfl (hb hby ye_0) rfl rfl ?_
    refine z6.trans ?_
    show own_Y p e below z4 m 4 #[.val (.ref ta), .val (.ref sa402), .unset] [(.int 2)] _
    refine XS.istoreN z1.here hx rfl (hb hby ye_4) rfl (l' := #[.val (.ref ta), .val (.ref sa402), .val (.int 2)]) rfl ?_
    refine XS.iloadN z1.here hx rfl (hb hby ye_5) rfl ?_
    refine XS.ifYes z1.here hx rfl (pc0 := 6) (pc' := 11) rfl (hb hby ye_6) rfl ((if0 _ _).trans (feq (by decide : ¬ ((2 : Int32) = (0 : Int32)))).2) (by decide) (by decide) ?_
    show own_Y p e below z4 m 11 #[.val (.ref ta), .val (.ref sa402), .val (.int 2)] [] _
    refine XS.aloadN z1.here hx rfl (hb hby ye_11) rfl rfl ?_
    refine z9.trans ?_
    show own_Y p e below z2 m 15 #[.val (.ref ta), .val (.ref sa402), .val (.int 2)] [(.int tj)] _
    refine ts405 _ ?_
    show own_Y p e below z2 m 282 #[.val (.ref ta), .val (.ref sa402), .val (.int 2)] [] _
    refine XS.iloadN z0.here hx rfl (hb hby ye_282) rfl ?_
    refine XS.iconst z0.here hx rfl (hb hby ye_283) ?_
    refine XS.icmpNo z0.here hx rfl (hb hby ye_284) rfl (teq (by decide : (2 : Int32) = (2 : Int32))).2 ?_
    show own_Y p e below z2 m 287 #[.val (.ref ta), .val (.ref sa402), .val (.int 2)] [] _
    refine XS.iconst z0.here hx rfl (hb hby ye_287) ?_
    refine XS.goto z0.here hx rfl (pc0 := 288) (pc' := 426) rfl (hb hby ye_288) (by decide) (by decide) ?_
    exact retN z0 hx (t := .boolean) Bd.returns (by simp) (hb hby ye_426) hr
  · show PQ (some (.int 1)) h0 n0 _ z2.heap _
    rw [zk]
    exact ⟨rfl, zl, rfl⟩
theorem yn_0 : decode prog_40_method_9_code 0 = .ok (.iload_n 1, 1) := by decide +kernel
theorem yn_1 : decode prog_40_method_9_code 1 = .ok (.ifCond .lt 13, 3) := by decide +kernel
theorem yn_4 : decode prog_40_method_9_code 4 = .ok (.iload_n 1, 1) := by decide +kernel
theorem yn_5 : decode prog_40_method_9_code 5 = .ok (.iload_n 2, 1) := by decide +kernel
theorem yn_6 : decode prog_40_method_9_code 6 = .ok (.iadd, 1) := by decide +kernel
theorem yn_7 : decode prog_40_method_9_code 7 = .ok (.aload_n 0, 1) := by decide +kernel
theorem yn_8 : decode prog_40_method_9_code 8 = .ok (.invokevirtual 107, 3) := by decide +kernel
theorem yn_11 : decode prog_40_method_9_code 11 = .ok (.if_icmp .le 5, 3) := by decide +kernel
theorem yn_14 : decode prog_40_method_9_code 14 = .ok (.iconst (-1), 1) := by decide +kernel
theorem yn_15 : decode prog_40_method_9_code 15 = .ok (.ireturn, 1) := by decide +kernel
theorem rm63 (l : Launch) (Z : State) (a0 : Array Value) (hw : ∀ d ∈ tables_1, d.before a0 Z = true) (ws : List Jvm.Cond) (h0 : Heap) (n0 : Nat) (p1 : Int32) (A : Nat → Addr) (K : Nat → ClassId) (cs : Int32)  (sb410 : Addr) (sa410 : Addr) (kc410 : ClassId) (EN : own_St Z A K cs) (OL0 : Old Z n0 h0) (z2 : Exa Z h0 sa410 y_s2) (z5 : Fld Z h0 sa410 y_s2 "value" "[B" (.ref sb410)) (z6 : Arv Z h0 sb410 kc410 .byte (2 : Int32) [(.int 48), (.int 48)] (.int 0)) (z7 : Fld Z h0 sa410 y_s2 "coder" "B" (.int 0)) :
    own_MF l Z own_m6 prog_40_method_9_code 7 (some .int) ws (Room.mk 2 0 0 26) #[(.ref sa410), (.int 0), (.int 4), (.int 0), (.int 9999)] h0 (PQ (some (.int (-1))) h0 n0) := by
  refine MetFree.of_bodySF (plainFor_of_name own_pn6) hisR ?_
  intro p e s m args below meth c s₁ Bd hml0 hP hK
  obtain ⟨rfl, hZ, hh⟩ := hP
  have hx := Bd.exec
  have hby := Bd.bytes
  have hml : c.maxLocals = 7 := hml0
  have hown : s.vm.findClass y_s1 = some m.cls := findClass_of_methodNamed Bd.named
  have hnm := (name_of_methodNamed Bd.named Bd.method).1
  have X0 : Stand p l e (Room.mk 2 0 0 26) s m #[(.ref sa410), (.int 0), (.int 4), (.int 0), (.int 9999)] below meth c s₁ [] 0 0 := Stand.of_body Bd
  have e0 : s₁.heap = h0 := by rw [← hh, Bd.state]; rfl
  have N0 := Fr.nil n0
  have pre0 : own_P p e below s₁ m 0 #[.val (.ref sa410), .val (.int 0), .val (.int 4), .val (.int 0), .val (.int 9999), .unset, .unset] [] s₁ #[(.ref sa410), (.int 0), (.int 4), (.int 0), (.int 9999)] 7 := fun t k => castTop (by first | (simp [entryFrame, mkF, argsToLocals, Value.category, maxLocals]; done) | rfl) k
  have KK0 : Keep h0 h0 [] := Keep.refl _ _
  obtain ⟨cq414, kq414, z8, zd, z9⟩ := isOf hZ e0 z2
  obtain ⟨_, _, ⟨z1, L414, ze, n414⟩, -, z0, ⟨Lc414, z3, l414, y414, z414⟩, z4⟩ := X0.virtualBack hx (y := own_m1) (z := own_m1) hown (mvT hZ (own_W hw 21 rfl)) (mvT hZ (own_W hw 22 rfl)) (notFace_of_selects (args := #[]) (mvT hZ (own_W hw 24 rfl))) (mvT hZ (own_W hw 24 rfl)) (mvT hZ (own_W hw 23 rfl)) (by decide) (backOf (W := 1) (rm2 l Z a0 hw [] h0 n0 p1 A K cs sb410 sa410 kc410 EN OL0 z5 z6 z2 z7) hZ (own_W hw 25 rfl) (own_W hw 9 rfl) (by decide) (by decide)) z8 z9 (g := (mkF m 8 #[.val (.ref sa410), .val (.int 0), .val (.int 4), .val (.int 0), .val (.int 9999), .unset, .unset] [(.ref sa410), (.int 4)])) rfl (by rw [hml]; rfl) (Steps.refl _) (argsL := []) (rest := [(.int 4)]) (lenOf own_pd2 rfl) rfl (by show 2 * 0 + _ ≤ _; exact Nat.le_of_eq rfl) (hb hby yn_8) (fun _ _ => ⟨rfl, e0, (by decide : 0 + 0 ≤ _), (by decide : 0 + 0 ≤ _)⟩)
  dsimp only [Pt.U, Pt.locs, Pt.cells, Pt.slots] at z0 l414 y414 z414 z4 z3
  replace z0 := own_sub z0 l414 y414 z414
  obtain ⟨rfl, za, zb⟩ := z3
  have zc := Fr.app N0 za
  obtain ⟨fs, hr, hrun, hended, hW, hsame⟩ := z0.leave (v := some (.int (-1))) (fun h => by rw [Bd.returns] at h; cases h)
  refine ⟨_, _, pre0 _ ?_, hrun, hended, _, _, rfl, ?_, ⟨_, rfl⟩, hW, hsame.mono (by decide) (by decide)⟩
  · show own_Y p e below s₁ m 0 #[.val (.ref sa410), .val (.int 0), .val (.int 4), .val (.int 0), .val (.int 9999), .unset, .unset] [] _
    refine XS.iloadN X0.here hx rfl (hb hby yn_0) rfl ?_
    refine XS.ifNo X0.here hx rfl (hb hby yn_1) rfl ((if0 _ _).trans (flt (by decide : ¬ ((0 : Int32) < (0 : Int32)))).1) ?_
    show own_Y p e below s₁ m 4 #[.val (.ref sa410), .val (.int 0), .val (.int 4), .val (.int 0), .val (.int 9999), .unset, .unset] [] _
    refine XS.iloadN X0.here hx rfl (hb hby yn_4) rfl ?_
    refine XS.iloadN X0.here hx rfl (hb hby yn_5) rfl ?_
    refine XS.iadd X0.here hx rfl (hb hby yn_6) rfl ?_
    show own_Y p e below s₁ m 7 #[.val (.ref sa410), .val (.int 0), .val (.int 4), .val (.int 0), .val (.int 9999), .unset, .unset] [(.int 4)] _
    refine XS.aloadN X0.here hx rfl (hb hby yn_7) rfl rfl ?_
    refine z4.trans ?_
    show own_Y p e below z1 m 11 #[.val (.ref sa410), .val (.int 0), .val (.int 4), .val (.int 0), .val (.int 9999), .unset, .unset] [(.int 2), (.int 4)] _
    refine XS.icmpNo z0.here hx rfl (hb hby yn_11) rfl (tlt (by decide : (2 : Int32) < (4 : Int32))).2.2.2 ?_
    show own_Y p e below z1 m 14 #[.val (.ref sa410), .val (.int 0), .val (.int 4), .val (.int 0), .val (.int 9999), .unset, .unset] [] _
    refine XS.iconst z0.here hx rfl (hb hby yn_14) ?_
    exact retI z0 hx Bd.returns (hb hby yn_15) hr
  · show PQ (some (.int (-1))) h0 n0 _ z1.heap _
    rw [zb]
    exact ⟨rfl, zc, rfl⟩
theorem rm64 (l : Launch) (Z : State) (a0 : Array Value) (hw : ∀ d ∈ tables_1, d.before a0 Z = true) (ws : List Jvm.Cond) (h0 : Heap) (n0 : Nat) (p1 : Int32) (A : Nat → Addr) (K : Nat → ClassId) (cs : Int32)  (sa410 : Addr) (EN : own_St Z A K cs) (OL0 : Old Z n0 h0) :
    own_MF l Z own_m6 prog_40_method_9_code 7 (some .int) ws (Room.mk 0 0 0 0) #[(.ref sa410), (.int (-1)), (.int 2), (.int 1), (.int 12)] h0 (PQ (some (.int (-1))) h0 n0) := by
  refine MetFree.of_bodySF (plainFor_of_name own_pn6) hisR ?_
  intro p e s m args below meth c s₁ Bd hml0 hP hK
  obtain ⟨rfl, hZ, hh⟩ := hP
  have hx := Bd.exec
  have hby := Bd.bytes
  have hml : c.maxLocals = 7 := hml0
  have hown : s.vm.findClass y_s1 = some m.cls := findClass_of_methodNamed Bd.named
  have hnm := (name_of_methodNamed Bd.named Bd.method).1
  have X0 : Stand p l e (Room.mk 0 0 0 0) s m #[(.ref sa410), (.int (-1)), (.int 2), (.int 1), (.int 12)] below meth c s₁ [] 0 0 := Stand.of_body Bd
  have e0 : s₁.heap = h0 := by rw [← hh, Bd.state]; rfl
  have N0 := Fr.nil n0
  have pre0 : own_P p e below s₁ m 0 #[.val (.ref sa410), .val (.int (-1)), .val (.int 2), .val (.int 1), .val (.int 12), .unset, .unset] [] s₁ #[(.ref sa410), (.int (-1)), (.int 2), (.int 1), (.int 12)] 7 := fun t k => castTop (by first | (simp [entryFrame, mkF, argsToLocals, Value.category, maxLocals]; done) | rfl) k
  have KK0 : Keep h0 h0 [] := Keep.refl _ _
  obtain ⟨fs, hr, hrun, hended, hW, hsame⟩ := X0.leave (v := some (.int (-1))) (fun h => by rw [Bd.returns] at h; cases h)
  refine ⟨_, _, pre0 _ ?_, hrun, hended, _, _, rfl, ?_, ⟨_, rfl⟩, hW, hsame.mono (by decide) (by decide)⟩
  · show own_Y p e below s₁ m 0 #[.val (.ref sa410), .val (.int (-1)), .val (.int 2), .val (.int 1), .val (.int 12), .unset, .unset] [] _
    refine XS.iloadN X0.here hx rfl (hb hby yn_0) rfl ?_
    refine XS.ifYes X0.here hx rfl (pc0 := 1) (pc' := 14) rfl (hb hby yn_1) rfl ((if0 _ _).trans (tlt (by decide : (-1 : Int32) < (0 : Int32))).1) (by decide) (by decide) ?_
    show own_Y p e below s₁ m 14 #[.val (.ref sa410), .val (.int (-1)), .val (.int 2), .val (.int 1), .val (.int 12), .unset, .unset] [] _
    refine XS.iconst X0.here hx rfl (hb hby yn_14) ?_
    exact retI X0 hx Bd.returns (hb hby yn_15) hr
  · show PQ (some (.int (-1))) h0 n0 _ s₁.heap _
    rw [e0]
    exact ⟨rfl, N0, rfl⟩
theorem yo_0 : decode prog_40_method_15_code 0 = .ok (.aload_n 0, 1) := by decide +kernel
theorem yo_1 : decode prog_40_method_15_code 1 = .ok (.aload_n 0, 1) := by decide +kernel
theorem yo_2 : decode prog_40_method_15_code 2 = .ok (.iload_n 1, 1) := by decide +kernel
theorem yo_3 : decode prog_40_method_15_code 3 = .ok (.iconst 4, 1) := by decide +kernel
theorem yo_4 : decode prog_40_method_15_code 4 = .ok (.iconst 0, 1) := by decide +kernel
theorem yo_5 : decode prog_40_method_15_code 5 = .ok (.sipush 9999, 3) := by decide +kernel
theorem yo_8 : decode prog_40_method_15_code 8 = .ok (.invokestatic 180, 3) := by decide +kernel
theorem yo_11 : decode prog_40_method_15_code 11 = .ok (.iconst 2, 1) := by decide +kernel
theorem yo_12 : decode prog_40_method_15_code 12 = .ok (.iconst 1, 1) := by decide +kernel
theorem yo_13 : decode prog_40_method_15_code 13 = .ok (.bipush 12, 2) := by decide +kernel
theorem yo_15 : decode prog_40_method_15_code 15 = .ok (.invokestatic 180, 3) := by decide +kernel
theorem yo_18 : decode prog_40_method_15_code 18 = .ok (.ireturn, 1) := by decide +kernel
theorem rm62 (l : Launch) (Z : State) (a0 : Array Value) (hw : ∀ d ∈ tables_1, d.before a0 Z = true) (ws : List Jvm.Cond) (h0 : Heap) (n0 : Nat) (p1 : Int32) (A : Nat → Addr) (K : Nat → ClassId) (cs : Int32)  (sb410 : Addr) (sa410 : Addr) (kc410 : ClassId) (EN : own_St Z A K cs) (OL0 : Old Z n0 h0) (z7 : Exa Z h0 sa410 y_s2) (z8 : Fld Z h0 sa410 y_s2 "value" "[B" (.ref sb410)) (z9 : Arv Z h0 sb410 kc410 .byte (2 : Int32) [(.int 48), (.int 48)] (.int 0)) (za : Fld Z h0 sa410 y_s2 "coder" "B" (.int 0)) :
    own_MF l Z own_m26 prog_40_method_15_code 2 (some .int) ws (Room.mk 3 0 0 45) #[(.ref sa410), (.int 0)] h0 (PQ (some (.int (-1))) h0 n0) := by
  refine MetFree.of_bodySF (plainFor_of_name own_pn6) hisR ?_
  intro p e s m args below meth c s₁ Bd hml0 hP hK
  obtain ⟨rfl, hZ, hh⟩ := hP
  have hx := Bd.exec
  have hby := Bd.bytes
  have hml : c.maxLocals = 2 := hml0
  have hown : s.vm.findClass y_s1 = some m.cls := findClass_of_methodNamed Bd.named
  have hnm := (name_of_methodNamed Bd.named Bd.method).1
  have X0 : Stand p l e (Room.mk 3 0 0 45) s m #[(.ref sa410), (.int 0)] below meth c s₁ [] 0 0 := Stand.of_body Bd
  have e0 : s₁.heap = h0 := by rw [← hh, Bd.state]; rfl
  have N0 := Fr.nil n0
  have pre0 : own_P p e below s₁ m 0 #[.val (.ref sa410), .val (.int 0)] [] s₁ #[(.ref sa410), (.int 0)] 2 := fun t k => castTop (by first | (simp [entryFrame, mkF, argsToLocals, Value.category, maxLocals]; done) | rfl) k
  have KK0 : Keep h0 h0 [] := Keep.refl _ _
  obtain ⟨_, _, ⟨zb, L415, zi, n415⟩, -, z0, ⟨Lc415, z2, l415, y415, z415⟩, z3⟩ := Jvm.LawKit.callS X0 hx (y := own_m6) hown (mvT hZ (own_W hw 145 rfl)) (mvT hZ (own_W hw 146 rfl)) (mvT hZ (own_W hw 6 rfl)) (mvT hZ (own_W hw 147 rfl)) (by decide) (backOf (W := 1) (rm63 l Z a0 hw [] h0 n0 p1 A K cs sb410 sa410 kc410 EN OL0 z7 z8 z9 za) hZ (own_W hw 147 rfl) (own_W hw 6 rfl) (by decide) (by decide)) (g := (mkF m 8 #[.val (.ref sa410), .val (.int 0)] [(.int 9999), (.int 0), (.int 4), (.int 0), (.ref sa410), (.ref sa410)])) rfl (by rw [hml]; rfl) (argsL := [(.ref sa410), (.int 0), (.int 4), (.int 0), (.int 9999)]) (rest := [(.ref sa410)]) (lenOf own_pd18 rfl) rfl (by show 2 * 0 + _ ≤ _; exact Nat.le_of_eq rfl) (hb hby yo_8) (fun _ _ => ⟨rfl, e0, (by decide : 0 + 0 ≤ _), (by decide : 0 + 0 ≤ _)⟩)
  dsimp only [Pt.U, Pt.locs, Pt.cells, Pt.slots] at z0 l415 y415 z415 z3 z2
  replace z0 := own_sub z0 l415 y415 z415
  obtain ⟨rfl, zc, zd⟩ := z2
  have ze := Fr.app N0 zc
  obtain ⟨_, _, ⟨z4, L416, zj, n416⟩, -, z1, ⟨Lc416, z5, l416, y416, z416⟩, z6⟩ := Jvm.LawKit.callS z0 hx (y := own_m6) hown (mvT hZ (own_W hw 145 rfl)) (mvT hZ (own_W hw 146 rfl)) (mvT hZ (own_W hw 6 rfl)) (mvT hZ (own_W hw 147 rfl)) (by decide) (backOf (W := 0) (rm64 l Z a0 hw [] h0 n0 p1 A K cs sa410 EN OL0) hZ (own_W hw 147 rfl) (own_W hw 6 rfl) (by decide) (by decide)) (g := (mkF m 15 #[.val (.ref sa410), .val (.int 0)] [(.int 12), (.int 1), (.int 2), (.int (-1)), (.ref sa410)])) rfl (by rw [hml]; rfl) (argsL := [(.ref sa410), (.int (-1)), (.int 2), (.int 1), (.int 12)]) (rest := []) (lenOf own_pd18 rfl) rfl (by show 2 * 0 + _ ≤ _; exact Nat.le_of_eq rfl) (hb hby yo_15) (fun _ _ => ⟨rfl, zd, (by decide : 0 + 0 ≤ _), (by decide : 0 + 0 ≤ _)⟩)
  dsimp only [Pt.U, Pt.locs, Pt.cells, Pt.slots] at z1 l416 y416 z416 z6 z5
  replace z1 := own_sub z1 l416 y416 z416
  obtain ⟨rfl, zf, zg⟩ := z5
  have zh := Fr.app ze zf
  obtain ⟨fs, hr, hrun, hended, hW, hsame⟩ := z1.leave (v := some (.int (-1))) (fun h => by rw [Bd.returns] at h; cases h)
  refine ⟨_, _, pre0 _ ?_, hrun, hended, _, _, rfl, ?_, ⟨_, rfl⟩, hW, hsame.mono (by decide) (by decide)⟩
  · show own_Y p e below s₁ m 0 #[.val (.ref sa410), .val (.int 0)] [] _
    refine XS.aloadN X0.here hx rfl (hb hby yo_0) rfl rfl ?_
    refine XS.aloadN X0.here hx rfl (hb hby yo_1) rfl rfl ?_
    refine XS.iloadN X0.here hx rfl (hb hby yo_2) rfl ?_
    refine XS.iconst X0.here hx rfl (hb hby yo_3) ?_
    refine XS.iconst X0.here hx rfl (hb hby yo_4) ?_
    refine XS.sipush X0.here hx rfl (hb hby yo_5) ?_
    refine z3 _ ?_
    show own_Y p e below zb m 11 #[.val (.ref sa410), .val (.int 0)] [(.int (-1)), (.ref sa410)] _
    refine XS.iconst z0.here hx rfl (hb hby yo_11) ?_
    refine XS.iconst z0.here hx rfl (hb hby yo_12) ?_
    refine XS.bipush z0.here hx rfl (hb hby yo_13) ?_
    refine z6 _ ?_
    show own_Y p e below z4 m 18 #[.val (.ref sa410), .val (.int 0)] [(.int (-1))] _
    exact retI z1 hx Bd.returns (hb hby yo_18) hr
  · show PQ (some (.int (-1))) h0 n0 _ z4.heap _
    rw [zg]
    exact ⟨rfl, zh, rfl⟩
theorem rm65 (l : Launch) (Z : State) (a0 : Array Value) (hw : ∀ d ∈ tables_1, d.before a0 Z = true) (ws : List Jvm.Cond) (h0 : Heap) (n0 : Nat) (p1 : Int32) (A : Nat → Addr) (K : Nat → ClassId) (cs : Int32)  (sa410 : Addr) (EN : own_St Z A K cs) (OL0 : Old Z n0 h0) :
    own_MF l Z own_m6 prog_40_method_9_code 7 (some .int) ws (Room.mk 0 0 0 0) #[(.ref sa410), (.int (-1)), (.int 2), (.int 1), (.int 31)] h0 (PQ (some (.int (-1))) h0 n0) := by
  refine MetFree.of_bodySF (plainFor_of_name own_pn6) hisR ?_
  intro p e s m args below meth c s₁ Bd hml0 hP hK
  obtain ⟨rfl, hZ, hh⟩ := hP
  have hx := Bd.exec
  have hby := Bd.bytes
  have hml : c.maxLocals = 7 := hml0
  have hown : s.vm.findClass y_s1 = some m.cls := findClass_of_methodNamed Bd.named
  have hnm := (name_of_methodNamed Bd.named Bd.method).1
  have X0 : Stand p l e (Room.mk 0 0 0 0) s m #[(.ref sa410), (.int (-1)), (.int 2), (.int 1), (.int 31)] below meth c s₁ [] 0 0 := Stand.of_body Bd
  have e0 : s₁.heap = h0 := by rw [← hh, Bd.state]; rfl
  have N0 := Fr.nil n0
  have pre0 : own_P p e below s₁ m 0 #[.val (.ref sa410), .val (.int (-1)), .val (.int 2), .val (.int 1), .val (.int 31), .unset, .unset] [] s₁ #[(.ref sa410), (.int (-1)), (.int 2), (.int 1), (.int 31)] 7 := fun t k => castTop (by first | (simp [entryFrame, mkF, argsToLocals, Value.category, maxLocals]; done) | rfl) k
  have KK0 : Keep h0 h0 [] := Keep.refl _ _
  obtain ⟨fs, hr, hrun, hended, hW, hsame⟩ := X0.leave (v := some (.int (-1))) (fun h => by rw [Bd.returns] at h; cases h)
  refine ⟨_, _, pre0 _ ?_, hrun, hended, _, _, rfl, ?_, ⟨_, rfl⟩, hW, hsame.mono (by decide) (by decide)⟩
  · show own_Y p e below s₁ m 0 #[.val (.ref sa410), .val (.int (-1)), .val (.int 2), .val (.int 1), .val (.int 31), .unset, .unset] [] _
    refine XS.iloadN X0.here hx rfl (hb hby yn_0) rfl ?_
    refine XS.ifYes X0.here hx rfl (pc0 := 1) (pc' := 14) rfl (hb hby yn_1) rfl ((if0 _ _).trans (tlt (by decide : (-1 : Int32) < (0 : Int32))).1) (by decide) (by decide) ?_
    show own_Y p e below s₁ m 14 #[.val (.ref sa410), .val (.int (-1)), .val (.int 2), .val (.int 1), .val (.int 31), .unset, .unset] [] _
    refine XS.iconst X0.here hx rfl (hb hby yn_14) ?_
    exact retI X0 hx Bd.returns (hb hby yn_15) hr
  · show PQ (some (.int (-1))) h0 n0 _ s₁.heap _
    rw [e0]
    exact ⟨rfl, N0, rfl⟩
theorem yp_0 : decode prog_40_method_16_code 0 = .ok (.aload_n 0, 1) := by decide +kernel
theorem yp_1 : decode prog_40_method_16_code 1 = .ok (.aload_n 0, 1) := by decide +kernel
theorem yp_2 : decode prog_40_method_16_code 2 = .ok (.iload_n 1, 1) := by decide +kernel
theorem yp_3 : decode prog_40_method_16_code 3 = .ok (.invokestatic 184, 3) := by decide +kernel
theorem yp_6 : decode prog_40_method_16_code 6 = .ok (.iconst 2, 1) := by decide +kernel
theorem yp_7 : decode prog_40_method_16_code 7 = .ok (.iconst 1, 1) := by decide +kernel
theorem yp_8 : decode prog_40_method_16_code 8 = .ok (.bipush 31, 2) := by decide +kernel
theorem yp_10 : decode prog_40_method_16_code 10 = .ok (.invokestatic 180, 3) := by decide +kernel
theorem yp_13 : decode prog_40_method_16_code 13 = .ok (.ireturn, 1) := by decide +kernel
theorem rm61 (l : Launch) (Z : State) (a0 : Array Value) (hw : ∀ d ∈ tables_1, d.before a0 Z = true) (ws : List Jvm.Cond) (h0 : Heap) (n0 : Nat) (p1 : Int32) (A : Nat → Addr) (K : Nat → ClassId) (cs : Int32)  (sb410 : Addr) (sa410 : Addr) (kc410 : ClassId) (EN : own_St Z A K cs) (OL0 : Old Z n0 h0) (z7 : Exa Z h0 sa410 y_s2) (z8 : Fld Z h0 sa410 y_s2 "value" "[B" (.ref sb410)) (z9 : Arv Z h0 sb410 kc410 .byte (2 : Int32) [(.int 48), (.int 48)] (.int 0)) (za : Fld Z h0 sa410 y_s2 "coder" "B" (.int 0)) :
    own_MF l Z own_m27 prog_40_method_16_code 2 (some .int) ws (Room.mk 4 0 0 59) #[(.ref sa410), (.int 0)] h0 (PQ (some (.int (-1))) h0 n0) := by
  refine MetFree.of_bodySF (plainFor_of_name own_pn6) hisR ?_
  intro p e s m args below meth c s₁ Bd hml0 hP hK
  obtain ⟨rfl, hZ, hh⟩ := hP
  have hx := Bd.exec
  have hby := Bd.bytes
  have hml : c.maxLocals = 2 := hml0
  have hown : s.vm.findClass y_s1 = some m.cls := findClass_of_methodNamed Bd.named
  have hnm := (name_of_methodNamed Bd.named Bd.method).1
  have X0 : Stand p l e (Room.mk 4 0 0 59) s m #[(.ref sa410), (.int 0)] below meth c s₁ [] 0 0 := Stand.of_body Bd
  have e0 : s₁.heap = h0 := by rw [← hh, Bd.state]; rfl
  have N0 := Fr.nil n0
  have pre0 : own_P p e below s₁ m 0 #[.val (.ref sa410), .val (.int 0)] [] s₁ #[(.ref sa410), (.int 0)] 2 := fun t k => castTop (by first | (simp [entryFrame, mkF, argsToLocals, Value.category, maxLocals]; done) | rfl) k
  have KK0 : Keep h0 h0 [] := Keep.refl _ _
  obtain ⟨_, _, ⟨zb, L417, zi, n417⟩, -, z0, ⟨Lc417, z2, l417, y417, z417⟩, z3⟩ := Jvm.LawKit.callS X0 hx (y := own_m26) hown (mvT hZ (own_W hw 167 rfl)) (mvT hZ (own_W hw 168 rfl)) (mvT hZ (own_W hw 6 rfl)) (mvT hZ (own_W hw 169 rfl)) (by decide) (backOf (W := 1) (rm62 l Z a0 hw [] h0 n0 p1 A K cs sb410 sa410 kc410 EN OL0 z7 z8 z9 za) hZ (own_W hw 169 rfl) (own_W hw 6 rfl) (by decide) (by decide)) (g := (mkF m 3 #[.val (.ref sa410), .val (.int 0)] [(.int 0), (.ref sa410), (.ref sa410)])) rfl (by rw [hml]; rfl) (argsL := [(.ref sa410), (.int 0)]) (rest := [(.ref sa410)]) (lenOf own_pd12 rfl) rfl (by show 2 * 0 + _ ≤ _; exact Nat.le_of_eq rfl) (hb hby yp_3) (fun _ _ => ⟨rfl, e0, (by decide : 0 + 0 ≤ _), (by decide : 0 + 0 ≤ _)⟩)
  dsimp only [Pt.U, Pt.locs, Pt.cells, Pt.slots] at z0 l417 y417 z417 z3 z2
  replace z0 := own_sub z0 l417 y417 z417
  obtain ⟨rfl, zc, zd⟩ := z2
  have ze := Fr.app N0 zc
  obtain ⟨_, _, ⟨z4, L418, zj, n418⟩, -, z1, ⟨Lc418, z5, l418, y418, z418⟩, z6⟩ := Jvm.LawKit.callS z0 hx (y := own_m6) hown (mvT hZ (own_W hw 145 rfl)) (mvT hZ (own_W hw 146 rfl)) (mvT hZ (own_W hw 6 rfl)) (mvT hZ (own_W hw 147 rfl)) (by decide) (backOf (W := 0) (rm65 l Z a0 hw [] h0 n0 p1 A K cs sa410 EN OL0) hZ (own_W hw 147 rfl) (own_W hw 6 rfl) (by decide) (by decide)) (g := (mkF m 10 #[.val (.ref sa410), .val (.int 0)] [(.int 31), (.int 1), (.int 2), (.int (-1)), (.ref sa410)])) rfl (by rw [hml]; rfl) (argsL := [(.ref sa410), (.int (-1)), (.int 2), (.int 1), (.int 31)]) (rest := []) (lenOf own_pd18 rfl) rfl (by show 2 * 0 + _ ≤ _; exact Nat.le_of_eq rfl) (hb hby yp_10) (fun _ _ => ⟨rfl, zd, (by decide : 0 + 0 ≤ _), (by decide : 0 + 0 ≤ _)⟩)
  dsimp only [Pt.U, Pt.locs, Pt.cells, Pt.slots] at z1 l418 y418 z418 z6 z5
  replace z1 := own_sub z1 l418 y418 z418
  obtain ⟨rfl, zf, zg⟩ := z5
  have zh := Fr.app ze zf
  obtain ⟨fs, hr, hrun, hended, hW, hsame⟩ := z1.leave (v := some (.int (-1))) (fun h => by rw [Bd.returns] at h; cases h)
  refine ⟨_, _, pre0 _ ?_, hrun, hended, _, _, rfl, ?_, ⟨_, rfl⟩, hW, hsame.mono (by decide) (by decide)⟩
  · show own_Y p e below s₁ m 0 #[.val (.ref sa410), .val (.int 0)] [] _
    refine XS.aloadN X0.here hx rfl (hb hby yp_0) rfl rfl ?_
    refine XS.aloadN X0.here hx rfl (hb hby yp_1) rfl rfl ?_
    refine XS.iloadN X0.here hx rfl (hb hby yp_2) rfl ?_
    refine z3 _ ?_
    show own_Y p e below zb m 6 #[.val (.ref sa410), .val (.int 0)] [(.int (-1)), (.ref sa410)] _
    refine XS.iconst z0.here hx rfl (hb hby yp_6) ?_
    refine XS.iconst z0.here hx rfl (hb hby yp_7) ?_
    refine XS.bipush z0.here hx rfl (hb hby yp_8) ?_
    refine z6 _ ?_
    show own_Y p e below z4 m 13 #[.val (.ref sa410), .val (.int 0)] [(.int (-1))] _
    exact retI z1 hx Bd.returns (hb hby yp_13) hr
  · show PQ (some (.int (-1))) h0 n0 _ z4.heap _
    rw [zg]
    exact ⟨rfl, zh, rfl⟩
theorem ye_306 : decode prog_40_method_7_code 306 = .ok (.aload_n 1, 1) := by decide +kernel
theorem ye_307 : decode prog_40_method_7_code 307 = .ok (.iconst 0, 1) := by decide +kernel
theorem ye_308 : decode prog_40_method_7_code 308 = .ok (.invokestatic 152, 3) := by decide +kernel
theorem ye_311 : decode prog_40_method_7_code 311 = .ok (.iload_n 2, 1) := by decide +kernel
theorem ye_312 : decode prog_40_method_7_code 312 = .ok (.if_icmp .ne 7, 3) := by decide +kernel
theorem ye_319 : decode prog_40_method_7_code 319 = .ok (.iconst 0, 1) := by decide +kernel
theorem ye_320 : decode prog_40_method_7_code 320 = .ok (.goto 106, 3) := by decide +kernel
theorem rm60 (l : Launch) (Z : State) (a0 : Array Value) (hw : ∀ d ∈ tables_1, d.before a0 Z = true) (ws : List Jvm.Cond) (h0 : Heap) (n0 : Nat) (p1 : Int32) (A : Nat → Addr) (K : Nat → ClassId) (cs : Int32) (ta : Addr) (tj : Int32)  (sb410 : Addr) (sa410 : Addr) (kc410 : ClassId) (EN : own_St Z A K cs) (gE : Exa Z Z.heap ta y_s1) (gF : Fld Z Z.heap ta y_s3 "ordinal" "I" (.int tj)) (gj : tj = (19 : Int32) ∨ tj = (20 : Int32)) (OL0 : Old Z n0 h0) (z4 : Exa Z h0 sa410 y_s2) (z6 : Fld Z h0 sa410 y_s2 "value" "[B" (.ref sb410)) (z7 : Arv Z h0 sb410 kc410 .byte (2 : Int32) [(.int 48), (.int 48)] (.int 0)) (z8 : Fld Z h0 sa410 y_s2 "coder" "B" (.int 0)) :
    own_MF l Z own_m0 prog_40_method_7_code 3 (some .boolean) ws (Room.mk 5 0 0 72) #[(.ref ta), (.ref sa410)] h0 (PQ (some (.int 0)) h0 n0) := by
  refine MetFree.of_bodySF (plainFor_of_name own_pn6) hisR ?_
  intro p e s m args below meth c s₁ Bd hml0 hP hK
  obtain ⟨rfl, hZ, hh⟩ := hP
  have hx := Bd.exec
  have hby := Bd.bytes
  have hml : c.maxLocals = 3 := hml0
  have hown : s.vm.findClass y_s1 = some m.cls := findClass_of_methodNamed Bd.named
  have hnm := (name_of_methodNamed Bd.named Bd.method).1
  have X0 : Stand p l e (Room.mk 5 0 0 72) s m #[(.ref ta), (.ref sa410)] below meth c s₁ [] 0 0 := Stand.of_body Bd
  have e0 : s₁.heap = h0 := by rw [← hh, Bd.state]; rfl
  have N0 := Fr.nil n0
  have pre0 : own_P p e below s₁ m 0 #[.val (.ref ta), .val (.ref sa410), .unset] [] s₁ #[(.ref ta), (.ref sa410)] 3 := fun t k => castTop (by first | (simp [entryFrame, mkF, argsToLocals, Value.category, maxLocals]; done) | rfl) k
  have KK0 : Keep h0 h0 [] := Keep.refl _ _
  obtain ⟨cq411, kq411, zh, zt, zi⟩ := isOf hZ e0 z4
  obtain ⟨_, _, ⟨z9, L411, zu, n411⟩, -, z1, ⟨Lc411, za, l411, y411, z411⟩, zb⟩ := X0.virtualBack hx (y := own_m1) (z := own_m1) hown (mvT hZ (own_W hw 21 rfl)) (mvT hZ (own_W hw 22 rfl)) (notFace_of_selects (args := #[]) (mvT hZ (own_W hw 24 rfl))) (mvT hZ (own_W hw 24 rfl)) (mvT hZ (own_W hw 23 rfl)) (by decide) (backOf (W := 0) (rm2 l Z a0 hw [] h0 n0 p1 A K cs sb410 sa410 kc410 EN OL0 z6 z7 z4 z8) hZ (own_W hw 25 rfl) (own_W hw 9 rfl) (by decide) (by decide)) zh zi (g := (mkF m 1 #[.val (.ref ta), .val (.ref sa410), .unset] [(.ref sa410)])) rfl (by rw [hml]; rfl) (Steps.refl _) (argsL := []) (rest := []) (lenOf own_pd2 rfl) rfl (by show 2 * 0 + _ ≤ _; exact Nat.le_of_eq rfl) (hb hby ye_1) (fun _ _ => ⟨rfl, e0, (by decide : 0 + 0 ≤ _), (by decide : 0 + 0 ≤ _)⟩)
  dsimp only [Pt.U, Pt.locs, Pt.cells, Pt.slots] at z1 l411 y411 z411 zb za
  replace z1 := own_sub z1 l411 y411 z411
  obtain ⟨rfl, zj, zc⟩ := za
  have zk := Fr.app N0 zj
  obtain ⟨cq412, kq412, zl, zv, zm⟩ := isOf hZ zc (gE.ext OL0.2)
  obtain ⟨_, _, ⟨z3, L412, zw, n412⟩, -, z2, ⟨Lc412, zd, l412, y412, z412⟩, ze⟩ := z1.virtualBackUp hx (x := own_m8) (y := own_m7) (owner := y_s3) hown (mvT hZ (own_W hw 34 rfl)) (mvT hZ (own_W hw 35 rfl)) (mvT hZ (own_W hw 36 rfl)) (by decide) (mvT hZ (own_W hw 38 rfl)) (mvT hZ (own_W hw 37 rfl)) (backOf (W := 0) (rm4 l Z a0 hw [] h0 n0 p1 A K cs ta tj EN gE gF OL0) hZ (own_W hw 40 rfl) (own_W hw 39 rfl) (by decide) (by decide)) zl zm (g := (mkF m 12 #[.val (.ref ta), .val (.ref sa410), .val (.int 2)] [(.ref ta)])) rfl (by rw [hml]; rfl) (Steps.refl _) (argsL := []) (rest := []) (lenOf own_pd2 rfl) rfl (by show 2 * 0 + _ ≤ _; exact Nat.le_of_eq rfl) (hb hby ye_12) (fun _ _ => ⟨rfl, zc, (by decide : 0 + 0 ≤ _), (by decide : 0 + 0 ≤ _)⟩)
  dsimp only [Pt.U, Pt.locs, Pt.cells, Pt.slots] at z2 l412 y412 z412 ze zd
  replace z2 := own_sub z2 l412 y412 z412
  obtain ⟨rfl, zn, zo⟩ := zd
  have zp := Fr.app zk zn
  have ts413 : ∀ t, Steps p.tables e below (z3.setTop (mkF m 306 #[.val (.ref ta), .val (.ref sa410), .val (.int 2)] [])) t → Steps p.tables e below (z3.setTop (mkF m 15 #[.val (.ref ta), .val (.ref sa410), .val (.int 2)] [(.int tj)])) t := by
    intro t k
    rcases gj with rfl | rfl <;> exact XS.tswIn z2.here hx rfl (pc0 := 15) (pc' := 306) rfl (hb hby ye_15) rfl (by decide) (o := 291) (by decide) (by decide) (by decide) k
  obtain ⟨_, _, ⟨z5, L419, zx, n419⟩, -, z0, ⟨Lc419, zf, l419, y419, z419⟩, zg⟩ := Jvm.LawKit.callS z2 hx (y := own_m27) hown (mvT hZ (own_W hw 164 rfl)) (mvT hZ (own_W hw 165 rfl)) (mvT hZ (own_W hw 6 rfl)) (mvT hZ (own_W hw 166 rfl)) (by decide) (backOf (W := 0) (rm61 l Z a0 hw [] h0 n0 p1 A K cs sb410 sa410 kc410 EN OL0 z4 z6 z7 z8) hZ (own_W hw 166 rfl) (own_W hw 6 rfl) (by decide) (by decide)) (g := (mkF m 308 #[.val (.ref ta), .val (.ref sa410), .val (.int 2)] [(.int 0), (.ref sa410)])) rfl (by rw [hml]; rfl) (argsL := [(.ref sa410), (.int 0)]) (rest := []) (lenOf own_pd12 rfl) rfl (by show 2 * 0 + _ ≤ _; exact Nat.le_of_eq rfl) (hb hby ye_308) (fun _ _ => ⟨rfl, zo, (by decide : 0 + 0 ≤ _), (by decide : 0 + 0 ≤ _)⟩)
  dsimp only [Pt.U, Pt.locs, Pt.cells, Pt.slots] at z0 l419 y419 z419 zg zf
  replace z0 := own_sub z0 l419 y419 z419
  obtain ⟨rfl, zq, zr⟩ := zf
  have zs := Fr.app zp zq
  obtain ⟨fs, hr, hrun, hended, hW, hsame⟩ := z0.leave (v := some (.int 0)) (fun h => by rw [Bd.returns] at h; cases h)
  refine ⟨_, _, pre0 _ ?_, hrun, hended, _, _, rfl, ?_, ⟨_, rfl⟩, hW, hsame.mono (by decide) (by decide)⟩
  · show own_Y p e below s₁ m 0 #[.val (.ref ta), .val (.ref sa410), .unset] [] _
    refine XS.aloadN X0.here hx rfl (hb hby ye_0) rfl rfl ?_
    refine zb.trans ?_
    show own_Y p e below z9 m 4 #[.val (.ref ta), .val (.ref sa410), .unset] [(.int 2)] _
    refine XS.istoreN z1.here hx rfl (hb hby ye_4) rfl (l' := #[.val (.ref ta), .val (.ref sa410), .val (.int 2)]) rfl ?_
    refine XS.iloadN z1.here hx rfl (hb hby ye_5) rfl ?_
    refine XS.ifYes z1.here hx rfl (pc0 := 6) (pc' := 11) rfl (hb hby ye_6) rfl ((if0 _ _).trans (feq (by decide : ¬ ((2 : Int32) = (0 : Int32)))).2) (by decide) (by decide) ?_
    show own_Y p e below z9 m 11 #[.val (.ref ta), .val (.ref sa410), .val (.int 2)] [] _
    refine XS.aloadN z1.here hx rfl (hb hby ye_11) rfl rfl ?_
    refine ze.trans ?_
    show own_Y p e below z3 m 15 #[.val (.ref ta), .val (.ref sa410), .val (.int 2)] [(.int tj)] _
    refine ts413 _ ?_
    show own_Y p e below z3 m 306 #[.val (.ref ta), .val (.ref sa410), .val (.int 2)] [] _
    refine XS.aloadN z2.here hx rfl (hb hby ye_306) rfl rfl ?_
    refine XS.iconst z2.here hx rfl (hb hby ye_307) ?_
    refine zg _ ?_
    show own_Y p e below z5 m 311 #[.val (.ref ta), .val (.ref sa410), .val (.int 2)] [(.int (-1))] _
    refine XS.iloadN z0.here hx rfl (hb hby ye_311) rfl ?_
    refine XS.icmpYes z0.here hx rfl (pc0 := 312) (pc' := 319) rfl (hb hby ye_312) rfl (feq (by decide : ¬ ((-1 : Int32) = (2 : Int32)))).2 (by decide) (by decide) ?_
    show own_Y p e below z5 m 319 #[.val (.ref ta), .val (.ref sa410), .val (.int 2)] [] _
    refine XS.iconst z0.here hx rfl (hb hby ye_319) ?_
    refine XS.goto z0.here hx rfl (pc0 := 320) (pc' := 426) rfl (hb hby ye_320) (by decide) (by decide) ?_
    exact retN z0 hx (t := .boolean) Bd.returns (by simp) (hb hby ye_426) hr
  · show PQ (some (.int 0)) h0 n0 _ z5.heap _
    rw [zr]
    exact ⟨rfl, zs, rfl⟩
theorem rm68 (l : Launch) (Z : State) (a0 : Array Value) (hw : ∀ d ∈ tables_1, d.before a0 Z = true) (ws : List Jvm.Cond) (h0 : Heap) (n0 : Nat) (p1 : Int32) (A : Nat → Addr) (K : Nat → ClassId) (cs : Int32)  (sa429 : Addr) (EN : own_St Z A K cs) (OL0 : Old Z n0 h0) :
    own_MF l Z own_m4 prog_40_method_11_code 3 (some .boolean) ws (Room.mk 0 0 0 0) #[(.ref sa429), (.int (-1)), (.int 119)] h0 (PQ (some (.int 0)) h0 n0) := by
  refine MetFree.of_bodySF (plainFor_of_name own_pn6) hisR ?_
  intro p e s m args below meth c s₁ Bd hml0 hP hK
  obtain ⟨rfl, hZ, hh⟩ := hP
  have hx := Bd.exec
  have hby := Bd.bytes
  have hml : c.maxLocals = 3 := hml0
  have hown : s.vm.findClass y_s1 = some m.cls := findClass_of_methodNamed Bd.named
  have hnm := (name_of_methodNamed Bd.named Bd.method).1
  have X0 : Stand p l e (Room.mk 0 0 0 0) s m #[(.ref sa429), (.int (-1)), (.int 119)] below meth c s₁ [] 0 0 := Stand.of_body Bd
  have e0 : s₁.heap = h0 := by rw [← hh, Bd.state]; rfl
  have N0 := Fr.nil n0
  have pre0 : own_P p e below s₁ m 0 #[.val (.ref sa429), .val (.int (-1)), .val (.int 119)] [] s₁ #[(.ref sa429), (.int (-1)), (.int 119)] 3 := fun t k => castTop (by first | (simp [entryFrame, mkF, argsToLocals, Value.category, maxLocals]; done) | rfl) k
  have KK0 : Keep h0 h0 [] := Keep.refl _ _
  obtain ⟨fs, hr, hrun, hended, hW, hsame⟩ := X0.leave (v := some (.int 0)) (fun h => by rw [Bd.returns] at h; cases h)
  refine ⟨_, _, pre0 _ ?_, hrun, hended, _, _, rfl, ?_, ⟨_, rfl⟩, hW, hsame.mono (by decide) (by decide)⟩
  · show own_Y p e below s₁ m 0 #[.val (.ref sa429), .val (.int (-1)), .val (.int 119)] [] _
    refine XS.iloadN X0.here hx rfl (hb hby yi_0) rfl ?_
    refine XS.ifYes X0.here hx rfl (pc0 := 1) (pc' := 25) rfl (hb hby yi_1) rfl ((if0 _ _).trans (tlt (by decide : (-1 : Int32) < (0 : Int32))).1) (by decide) (by decide) ?_
    show own_Y p e below s₁ m 25 #[.val (.ref sa429), .val (.int (-1)), .val (.int 119)] [] _
    refine XS.iconst X0.here hx rfl (hb hby yi_25) ?_
    exact retN X0 hx (t := .boolean) Bd.returns (by simp) (hb hby yi_26) hr
  · show PQ (some (.int 0)) h0 n0 _ s₁.heap _
    rw [e0]
    exact ⟨rfl, N0, rfl⟩
theorem yq_0 : decode prog_40_method_18_code 0 = .ok (.aload_n 0, 1) := by decide +kernel
theorem yq_1 : decode prog_40_method_18_code 1 = .ok (.iconst 0, 1) := by decide +kernel
theorem yq_2 : decode prog_40_method_18_code 2 = .ok (.invokestatic 184, 3) := by decide +kernel
theorem yq_5 : decode prog_40_method_18_code 5 = .ok (.istore_n 1, 1) := by decide +kernel
theorem yq_6 : decode prog_40_method_18_code 6 = .ok (.aload_n 0, 1) := by decide +kernel
theorem yq_7 : decode prog_40_method_18_code 7 = .ok (.iload_n 1, 1) := by decide +kernel
theorem yq_8 : decode prog_40_method_18_code 8 = .ok (.bipush 119, 2) := by decide +kernel
theorem yq_10 : decode prog_40_method_18_code 10 = .ok (.invokestatic 176, 3) := by decide +kernel
theorem yq_13 : decode prog_40_method_18_code 13 = .ok (.ifCond .eq 14, 3) := by decide +kernel
theorem yq_27 : decode prog_40_method_18_code 27 = .ok (.iload_n 1, 1) := by decide +kernel
theorem yq_28 : decode prog_40_method_18_code 28 = .ok (.aload_n 0, 1) := by decide +kernel
theorem yq_29 : decode prog_40_method_18_code 29 = .ok (.invokevirtual 107, 3) := by decide +kernel
theorem yq_32 : decode prog_40_method_18_code 32 = .ok (.if_icmp .ne 7, 3) := by decide +kernel
theorem yq_39 : decode prog_40_method_18_code 39 = .ok (.aload_n 0, 1) := by decide +kernel
theorem yq_40 : decode prog_40_method_18_code 40 = .ok (.iload_n 1, 1) := by decide +kernel
theorem yq_41 : decode prog_40_method_18_code 41 = .ok (.iconst 2, 1) := by decide +kernel
theorem yq_42 : decode prog_40_method_18_code 42 = .ok (.iconst 1, 1) := by decide +kernel
theorem yq_43 : decode prog_40_method_18_code 43 = .ok (.bipush 31, 2) := by decide +kernel
theorem yq_45 : decode prog_40_method_18_code 45 = .ok (.invokestatic 180, 3) := by decide +kernel
theorem yq_48 : decode prog_40_method_18_code 48 = .ok (.ireturn, 1) := by decide +kernel
theorem rm67 (l : Launch) (Z : State) (a0 : Array Value) (hw : ∀ d ∈ tables_1, d.before a0 Z = true) (ws : List Jvm.Cond) (h0 : Heap) (n0 : Nat) (p1 : Int32) (A : Nat → Addr) (K : Nat → ClassId) (cs : Int32)  (sb429 : Addr) (sa429 : Addr) (kc429 : ClassId) (EN : own_St Z A K cs) (OL0 : Old Z n0 h0) (z4 : Exa Z h0 sa429 y_s2) (z5 : Fld Z h0 sa429 y_s2 "value" "[B" (.ref sb429)) (z6 : Arv Z h0 sb429 kc429 .byte (2 : Int32) [(.int 48), (.int 48)] (.int 0)) (z7 : Fld Z h0 sa429 y_s2 "coder" "B" (.int 0)) :
    own_MF l Z own_m31 prog_40_method_18_code 2 (some .int) ws (Room.mk 4 0 0 58) #[(.ref sa429)] h0 (PQ (some (.int (-1))) h0 n0) := by
  refine MetFree.of_bodySF (plainFor_of_name own_pn6) hisR ?_
  intro p e s m args below meth c s₁ Bd hml0 hP hK
  obtain ⟨rfl, hZ, hh⟩ := hP
  have hx := Bd.exec
  have hby := Bd.bytes
  have hml : c.maxLocals = 2 := hml0
  have hown : s.vm.findClass y_s1 = some m.cls := findClass_of_methodNamed Bd.named
  have hnm := (name_of_methodNamed Bd.named Bd.method).1
  have X0 : Stand p l e (Room.mk 4 0 0 58) s m #[(.ref sa429)] below meth c s₁ [] 0 0 := Stand.of_body Bd
  have e0 : s₁.heap = h0 := by rw [← hh, Bd.state]; rfl
  have N0 := Fr.nil n0
  have pre0 : own_P p e below s₁ m 0 #[.val (.ref sa429), .unset] [] s₁ #[(.ref sa429)] 2 := fun t k => castTop (by first | (simp [entryFrame, mkF, argsToLocals, Value.category, maxLocals]; done) | rfl) k
  have KK0 : Keep h0 h0 [] := Keep.refl _ _
  obtain ⟨_, _, ⟨zk, L433, zy, n433⟩, -, z1, ⟨Lc433, z8, l433, y433, z433⟩, z9⟩ := Jvm.LawKit.callS X0 hx (y := own_m26) hown (mvT hZ (own_W hw 167 rfl)) (mvT hZ (own_W hw 168 rfl)) (mvT hZ (own_W hw 6 rfl)) (mvT hZ (own_W hw 169 rfl)) (by decide) (backOf (W := 0) (rm62 l Z a0 hw [] h0 n0 p1 A K cs sb429 sa429 kc429 EN OL0 z4 z5 z6 z7) hZ (own_W hw 169 rfl) (own_W hw 6 rfl) (by decide) (by decide)) (g := (mkF m 2 #[.val (.ref sa429), .unset] [(.int 0), (.ref sa429)])) rfl (by rw [hml]; rfl) (argsL := [(.ref sa429), (.int 0)]) (rest := []) (lenOf own_pd12 rfl) rfl (by show 2 * 0 + _ ≤ _; exact Nat.le_of_eq rfl) (hb hby yq_2) (fun _ _ => ⟨rfl, e0, (by decide : 0 + 0 ≤ _), (by decide : 0 + 0 ≤ _)⟩)
  dsimp only [Pt.U, Pt.locs, Pt.cells, Pt.slots] at z1 l433 y433 z433 z9 z8
  replace z1 := own_sub z1 l433 y433 z433
  obtain ⟨rfl, zl, zm⟩ := z8
  have zn := Fr.app N0 zl
  obtain ⟨_, _, ⟨za, L434, zz, n434⟩, -, z2, ⟨Lc434, zb, l434, y434, z434⟩, zc⟩ := Jvm.LawKit.callS z1 hx (y := own_m4) hown (mvT hZ (own_W hw 121 rfl)) (mvT hZ (own_W hw 122 rfl)) (mvT hZ (own_W hw 6 rfl)) (mvT hZ (own_W hw 123 rfl)) (by decide) (backOf (W := 0) (rm68 l Z a0 hw [] h0 n0 p1 A K cs sa429 EN OL0) hZ (own_W hw 123 rfl) (own_W hw 6 rfl) (by decide) (by decide)) (g := (mkF m 10 #[.val (.ref sa429), .val (.int (-1))] [(.int 119), (.int (-1)), (.ref sa429)])) rfl (by rw [hml]; rfl) (argsL := [(.ref sa429), (.int (-1)), (.int 119)]) (rest := []) (lenOf own_pd14 rfl) rfl (by show 2 * 0 + _ ≤ _; exact Nat.le_of_eq rfl) (hb hby yq_10) (fun _ _ => ⟨rfl, zm, (by decide : 0 + 0 ≤ _), (by decide : 0 + 0 ≤ _)⟩)
  dsimp only [Pt.U, Pt.locs, Pt.cells, Pt.slots] at z2 l434 y434 z434 zc zb
  replace z2 := own_sub z2 l434 y434 z434
  obtain ⟨rfl, zo, zd⟩ := zb
  have zp := Fr.app zn zo
  obtain ⟨cq435, kq435, zq, z10, zr⟩ := isOf hZ zd z4
  obtain ⟨_, _, ⟨ze, L435, z11, n435⟩, -, z0, ⟨Lc435, zf, l435, y435, z435⟩, zg⟩ := z2.virtualBack hx (y := own_m1) (z := own_m1) hown (mvT hZ (own_W hw 21 rfl)) (mvT hZ (own_W hw 22 rfl)) (notFace_of_selects (args := #[]) (mvT hZ (own_W hw 24 rfl))) (mvT hZ (own_W hw 24 rfl)) (mvT hZ (own_W hw 23 rfl)) (by decide) (backOf (W := 1) (rm2 l Z a0 hw [] h0 n0 p1 A K cs sb429 sa429 kc429 EN OL0 z5 z6 z4 z7) hZ (own_W hw 25 rfl) (own_W hw 9 rfl) (by decide) (by decide)) zq zr (g := (mkF m 29 #[.val (.ref sa429), .val (.int (-1))] [(.ref sa429), (.int (-1))])) rfl (by rw [hml]; rfl) (Steps.refl _) (argsL := []) (rest := [(.int (-1))]) (lenOf own_pd2 rfl) rfl (by show 2 * 0 + _ ≤ _; exact Nat.le_of_eq rfl) (hb hby yq_29) (fun _ _ => ⟨rfl, zd, (by decide : 0 + 0 ≤ _), (by decide : 0 + 0 ≤ _)⟩)
  dsimp only [Pt.U, Pt.locs, Pt.cells, Pt.slots] at z0 l435 y435 z435 zg zf
  replace z0 := own_sub z0 l435 y435 z435
  obtain ⟨rfl, zs, zt⟩ := zf
  have zu := Fr.app zp zs
  obtain ⟨_, _, ⟨zh, L436, z12, n436⟩, -, z3, ⟨Lc436, zi, l436, y436, z436⟩, zj⟩ := Jvm.LawKit.callS z0 hx (y := own_m6) hown (mvT hZ (own_W hw 145 rfl)) (mvT hZ (own_W hw 146 rfl)) (mvT hZ (own_W hw 6 rfl)) (mvT hZ (own_W hw 147 rfl)) (by decide) (backOf (W := 0) (rm65 l Z a0 hw [] h0 n0 p1 A K cs sa429 EN OL0) hZ (own_W hw 147 rfl) (own_W hw 6 rfl) (by decide) (by decide)) (g := (mkF m 45 #[.val (.ref sa429), .val (.int (-1))] [(.int 31), (.int 1), (.int 2), (.int (-1)), (.ref sa429)])) rfl (by rw [hml]; rfl) (argsL := [(.ref sa429), (.int (-1)), (.int 2), (.int 1), (.int 31)]) (rest := []) (lenOf own_pd18 rfl) rfl (by show 2 * 0 + _ ≤ _; exact Nat.le_of_eq rfl) (hb hby yq_45) (fun _ _ => ⟨rfl, zt, (by decide : 0 + 0 ≤ _), (by decide : 0 + 0 ≤ _)⟩)
  dsimp only [Pt.U, Pt.locs, Pt.cells, Pt.slots] at z3 l436 y436 z436 zj zi
  replace z3 := own_sub z3 l436 y436 z436
  obtain ⟨rfl, zv, zw⟩ := zi
  have zx := Fr.app zu zv
  obtain ⟨fs, hr, hrun, hended, hW, hsame⟩ := z3.leave (v := some (.int (-1))) (fun h => by rw [Bd.returns] at h; cases h)
  refine ⟨_, _, pre0 _ ?_, hrun, hended, _, _, rfl, ?_, ⟨_, rfl⟩, hW, hsame.mono (by decide) (by decide)⟩
  · show own_Y p e below s₁ m 0 #[.val (.ref sa429), .unset] [] _
    refine XS.aloadN X0.here hx rfl (hb hby yq_0) rfl rfl ?_
    refine XS.iconst X0.here hx rfl (hb hby yq_1) ?_
    refine z9 _ ?_
    show own_Y p e below zk m 5 #[.val (.ref sa429), .unset] [(.int (-1))] _
    refine XS.istoreN z1.here hx rfl (hb hby yq_5) rfl (l' := #[.val (.ref sa429), .val (.int (-1))]) rfl ?_
    refine XS.aloadN z1.here hx rfl (hb hby yq_6) rfl rfl ?_
    refine XS.iloadN z1.here hx rfl (hb hby yq_7) rfl ?_
    refine XS.bipush z1.here hx rfl (hb hby yq_8) ?_
    refine zc _ ?_
    show own_Y p e below za m 13 #[.val (.ref sa429), .val (.int (-1))] [(.int 0)] _
    refine XS.ifYes z2.here hx rfl (pc0 := 13) (pc' := 27) rfl (hb hby yq_13) rfl ((if0 _ _).trans (teq (by decide : (0 : Int32) = (0 : Int32))).1) (by decide) (by decide) ?_
    show own_Y p e below za m 27 #[.val (.ref sa429), .val (.int (-1))] [] _
    refine XS.iloadN z2.here hx rfl (hb hby yq_27) rfl ?_
    refine XS.aloadN z2.here hx rfl (hb hby yq_28) rfl rfl ?_
    refine zg.trans ?_
    show own_Y p e below ze m 32 #[.val (.ref sa429), .val (.int (-1))] [(.int 2), (.int (-1))] _
    refine XS.icmpYes z0.here hx rfl (pc0 := 32) (pc' := 39) rfl (hb hby yq_32) rfl (feq (by decide : ¬ ((-1 : Int32) = (2 : Int32)))).2 (by decide) (by decide) ?_
    show own_Y p e below ze m 39 #[.val (.ref sa429), .val (.int (-1))] [] _
    refine XS.aloadN z0.here hx rfl (hb hby yq_39) rfl rfl ?_
    refine XS.iloadN z0.here hx rfl (hb hby yq_40) rfl ?_
    refine XS.iconst z0.here hx rfl (hb hby yq_41) ?_
    refine XS.iconst z0.here hx rfl (hb hby yq_42) ?_
    refine XS.bipush z0.here hx rfl (hb hby yq_43) ?_
    refine zj _ ?_
    show own_Y p e below zh m 48 #[.val (.ref sa429), .val (.int (-1))] [(.int (-1))] _
    exact retI z3 hx Bd.returns (hb hby yq_48) hr
  · show PQ (some (.int (-1))) h0 n0 _ zh.heap _
    rw [zw]
    exact ⟨rfl, zx, rfl⟩
theorem ye_323 : decode prog_40_method_7_code 323 = .ok (.aload_n 1, 1) := by decide +kernel
theorem ye_324 : decode prog_40_method_7_code 324 = .ok (.invokestatic 155, 3) := by decide +kernel
theorem ye_327 : decode prog_40_method_7_code 327 = .ok (.iload_n 2, 1) := by decide +kernel
theorem ye_328 : decode prog_40_method_7_code 328 = .ok (.if_icmp .ne 7, 3) := by decide +kernel
theorem ye_335 : decode prog_40_method_7_code 335 = .ok (.iconst 0, 1) := by decide +kernel
theorem ye_336 : decode prog_40_method_7_code 336 = .ok (.goto 90, 3) := by decide +kernel
theorem rm66 (l : Launch) (Z : State) (a0 : Array Value) (hw : ∀ d ∈ tables_1, d.before a0 Z = true) (ws : List Jvm.Cond) (h0 : Heap) (n0 : Nat) (p1 : Int32) (A : Nat → Addr) (K : Nat → ClassId) (cs : Int32) (ta : Addr) (tj : Int32)  (sb429 : Addr) (sa429 : Addr) (kc429 : ClassId) (EN : own_St Z A K cs) (gE : Exa Z Z.heap ta y_s1) (gF : Fld Z Z.heap ta y_s3 "ordinal" "I" (.int tj)) (gj : tj = (21 : Int32)) (OL0 : Old Z n0 h0) (z4 : Exa Z h0 sa429 y_s2) (z6 : Fld Z h0 sa429 y_s2 "value" "[B" (.ref sb429)) (z7 : Arv Z h0 sb429 kc429 .byte (2 : Int32) [(.int 48), (.int 48)] (.int 0)) (z8 : Fld Z h0 sa429 y_s2 "coder" "B" (.int 0)) :
    own_MF l Z own_m0 prog_40_method_7_code 3 (some .boolean) ws (Room.mk 5 0 0 71) #[(.ref ta), (.ref sa429)] h0 (PQ (some (.int 0)) h0 n0) := by
  refine MetFree.of_bodySF (plainFor_of_name own_pn6) hisR ?_
  intro p e s m args below meth c s₁ Bd hml0 hP hK
  obtain ⟨rfl, hZ, hh⟩ := hP
  have hx := Bd.exec
  have hby := Bd.bytes
  have hml : c.maxLocals = 3 := hml0
  have hown : s.vm.findClass y_s1 = some m.cls := findClass_of_methodNamed Bd.named
  have hnm := (name_of_methodNamed Bd.named Bd.method).1
  have X0 : Stand p l e (Room.mk 5 0 0 71) s m #[(.ref ta), (.ref sa429)] below meth c s₁ [] 0 0 := Stand.of_body Bd
  have e0 : s₁.heap = h0 := by rw [← hh, Bd.state]; rfl
  have N0 := Fr.nil n0
  have pre0 : own_P p e below s₁ m 0 #[.val (.ref ta), .val (.ref sa429), .unset] [] s₁ #[(.ref ta), (.ref sa429)] 3 := fun t k => castTop (by first | (simp [entryFrame, mkF, argsToLocals, Value.category, maxLocals]; done) | rfl) k
  have KK0 : Keep h0 h0 [] := Keep.refl _ _
  obtain ⟨cq430, kq430, zh, zt, zi⟩ := isOf hZ e0 z4
  obtain ⟨_, _, ⟨z9, L430, zu, n430⟩, -, z1, ⟨Lc430, za, l430, y430, z430⟩, zb⟩ := X0.virtualBack hx (y := own_m1) (z := own_m1) hown (mvT hZ (own_W hw 21 rfl)) (mvT hZ (own_W hw 22 rfl)) (notFace_of_selects (args := #[]) (mvT hZ (own_W hw 24 rfl))) (mvT hZ (own_W hw 24 rfl)) (mvT hZ (own_W hw 23 rfl)) (by decide) (backOf (W := 0) (rm2 l Z a0 hw [] h0 n0 p1 A K cs sb429 sa429 kc429 EN OL0 z6 z7 z4 z8) hZ (own_W hw 25 rfl) (own_W hw 9 rfl) (by decide) (by decide)) zh zi (g := (mkF m 1 #[.val (.ref ta), .val (.ref sa429), .unset] [(.ref sa429)])) rfl (by rw [hml]; rfl) (Steps.refl _) (argsL := []) (rest := []) (lenOf own_pd2 rfl) rfl (by show 2 * 0 + _ ≤ _; exact Nat.le_of_eq rfl) (hb hby ye_1) (fun _ _ => ⟨rfl, e0, (by decide : 0 + 0 ≤ _), (by decide : 0 + 0 ≤ _)⟩)
  dsimp only [Pt.U, Pt.locs, Pt.cells, Pt.slots] at z1 l430 y430 z430 zb za
  replace z1 := own_sub z1 l430 y430 z430
  obtain ⟨rfl, zj, zc⟩ := za
  have zk := Fr.app N0 zj
  obtain ⟨cq431, kq431, zl, zv, zm⟩ := isOf hZ zc (gE.ext OL0.2)
  obtain ⟨_, _, ⟨z3, L431, zw, n431⟩, -, z2, ⟨Lc431, zd, l431, y431, z431⟩, ze⟩ := z1.virtualBackUp hx (x := own_m8) (y := own_m7) (owner := y_s3) hown (mvT hZ (own_W hw 34 rfl)) (mvT hZ (own_W hw 35 rfl)) (mvT hZ (own_W hw 36 rfl)) (by decide) (mvT hZ (own_W hw 38 rfl)) (mvT hZ (own_W hw 37 rfl)) (backOf (W := 0) (rm4 l Z a0 hw [] h0 n0 p1 A K cs ta tj EN gE gF OL0) hZ (own_W hw 40 rfl) (own_W hw 39 rfl) (by decide) (by decide)) zl zm (g := (mkF m 12 #[.val (.ref ta), .val (.ref sa429), .val (.int 2)] [(.ref ta)])) rfl (by rw [hml]; rfl) (Steps.refl _) (argsL := []) (rest := []) (lenOf own_pd2 rfl) rfl (by show 2 * 0 + _ ≤ _; exact Nat.le_of_eq rfl) (hb hby ye_12) (fun _ _ => ⟨rfl, zc, (by decide : 0 + 0 ≤ _), (by decide : 0 + 0 ≤ _)⟩)
  dsimp only [Pt.U, Pt.locs, Pt.cells, Pt.slots] at z2 l431 y431 z431 ze zd
  replace z2 := own_sub z2 l431 y431 z431
  obtain ⟨rfl, zn, zo⟩ := zd
  have zp := Fr.app zk zn
  have ts432 : ∀ t, Steps p.tables e below (z3.setTop (mkF m 323 #[.val (.ref ta), .val (.ref sa429), .val (.int 2)] [])) t → Steps p.tables e below (z3.setTop (mkF m 15 #[.val (.ref ta), .val (.ref sa429), .val (.int 2)] [(.int tj)])) t := by
    intro t k
    rcases gj with rfl <;> exact XS.tswIn z2.here hx rfl (pc0 := 15) (pc' := 323) rfl (hb hby ye_15) rfl (by decide) (o := 308) (by decide) (by decide) (by decide) k
  obtain ⟨_, _, ⟨z5, L437, zx, n437⟩, -, z0, ⟨Lc437, zf, l437, y437, z437⟩, zg⟩ := Jvm.LawKit.callS z2 hx (y := own_m31) hown (mvT hZ (own_W hw 204 rfl)) (mvT hZ (own_W hw 205 rfl)) (mvT hZ (own_W hw 6 rfl)) (mvT hZ (own_W hw 206 rfl)) (by decide) (backOf (W := 0) (rm67 l Z a0 hw [] h0 n0 p1 A K cs sb429 sa429 kc429 EN OL0 z4 z6 z7 z8) hZ (own_W hw 206 rfl) (own_W hw 6 rfl) (by decide) (by decide)) (g := (mkF m 324 #[.val (.ref ta), .val (.ref sa429), .val (.int 2)] [(.ref sa429)])) rfl (by rw [hml]; rfl) (argsL := [(.ref sa429)]) (rest := []) (lenOf own_pd15 rfl) rfl (by show 2 * 0 + _ ≤ _; exact Nat.le_of_eq rfl) (hb hby ye_324) (fun _ _ => ⟨rfl, zo, (by decide : 0 + 0 ≤ _), (by decide : 0 + 0 ≤ _)⟩)
  dsimp only [Pt.U, Pt.locs, Pt.cells, Pt.slots] at z0 l437 y437 z437 zg zf
  replace z0 := own_sub z0 l437 y437 z437
  obtain ⟨rfl, zq, zr⟩ := zf
  have zs := Fr.app zp zq
  obtain ⟨fs, hr, hrun, hended, hW, hsame⟩ := z0.leave (v := some (.int 0)) (fun h => by rw [Bd.returns] at h; cases h)
  refine ⟨_, _, pre0 _ ?_, hrun, hended, _, _, rfl, ?_, ⟨_, rfl⟩, hW, hsame.mono (by decide) (by decide)⟩
  · show own_Y p e below s₁ m 0 #[.val (.ref ta), .val (.ref sa429), .unset] [] _
    refine XS.aloadN X0.here hx rfl (hb hby ye_0) rfl rfl ?_
    refine zb.trans ?_
    show own_Y p e below z9 m 4 #[.val (.ref ta), .val (.ref sa429), .unset] [(.int 2)] _
    refine XS.istoreN z1.here hx rfl (hb hby ye_4) rfl (l' := #[.val (.ref ta), .val (.ref sa429), .val (.int 2)]) rfl ?_
    refine XS.iloadN z1.here hx rfl (hb hby ye_5) rfl ?_
    refine XS.ifYes z1.here hx rfl (pc0 := 6) (pc' := 11) rfl (hb hby ye_6) rfl ((if0 _ _).trans (feq (by decide : ¬ ((2 : Int32) = (0 : Int32)))).2) (by decide) (by decide) ?_
    show own_Y p e below z9 m 11 #[.val (.ref ta), .val (.ref sa429), .val (.int 2)] [] _
    refine XS.aloadN z1.here hx rfl (hb hby ye_11) rfl rfl ?_
    refine ze.trans ?_
    show own_Y p e below z3 m 15 #[.val (.ref ta), .val (.ref sa429), .val (.int 2)] [(.int tj)] _
    refine ts432 _ ?_
    show own_Y p e below z3 m 323 #[.val (.ref ta), .val (.ref sa429), .val (.int 2)] [] _
    refine XS.aloadN z2.here hx rfl (hb hby ye_323) rfl rfl ?_
    refine zg _ ?_
    show own_Y p e below z5 m 327 #[.val (.ref ta), .val (.ref sa429), .val (.int 2)] [(.int (-1))] _
    refine XS.iloadN z0.here hx rfl (hb hby ye_327) rfl ?_
    refine XS.icmpYes z0.here hx rfl (pc0 := 328) (pc' := 335) rfl (hb hby ye_328) rfl (feq (by decide : ¬ ((-1 : Int32) = (2 : Int32)))).2 (by decide) (by decide) ?_
    show own_Y p e below z5 m 335 #[.val (.ref ta), .val (.ref sa429), .val (.int 2)] [] _
    refine XS.iconst z0.here hx rfl (hb hby ye_335) ?_
    refine XS.goto z0.here hx rfl (pc0 := 336) (pc' := 426) rfl (hb hby ye_336) (by decide) (by decide) ?_
    exact retN z0 hx (t := .boolean) Bd.returns (by simp) (hb hby ye_426) hr
  · show PQ (some (.int 0)) h0 n0 _ z5.heap _
    rw [zr]
    exact ⟨rfl, zs, rfl⟩
theorem rm72 (l : Launch) (Z : State) (a0 : Array Value) (hw : ∀ d ∈ tables_1, d.before a0 Z = true) (ws : List Jvm.Cond) (h0 : Heap) (n0 : Nat) (p1 : Int32) (A : Nat → Addr) (K : Nat → ClassId) (cs : Int32)  (sa442 : Addr) (EN : own_St Z A K cs) (OL0 : Old Z n0 h0) :
    own_MF l Z own_m4 prog_40_method_11_code 3 (some .boolean) ws (Room.mk 0 0 0 0) #[(.ref sa442), (.int (-1)), (.int 45)] h0 (PQ (some (.int 0)) h0 n0) := by
  refine MetFree.of_bodySF (plainFor_of_name own_pn6) hisR ?_
  intro p e s m args below meth c s₁ Bd hml0 hP hK
  obtain ⟨rfl, hZ, hh⟩ := hP
  have hx := Bd.exec
  have hby := Bd.bytes
  have hml : c.maxLocals = 3 := hml0
  have hown : s.vm.findClass y_s1 = some m.cls := findClass_of_methodNamed Bd.named
  have hnm := (name_of_methodNamed Bd.named Bd.method).1
  have X0 : Stand p l e (Room.mk 0 0 0 0) s m #[(.ref sa442), (.int (-1)), (.int 45)] below meth c s₁ [] 0 0 := Stand.of_body Bd
  have e0 : s₁.heap = h0 := by rw [← hh, Bd.state]; rfl
  have N0 := Fr.nil n0
  have pre0 : own_P p e below s₁ m 0 #[.val (.ref sa442), .val (.int (-1)), .val (.int 45)] [] s₁ #[(.ref sa442), (.int (-1)), (.int 45)] 3 := fun t k => castTop (by first | (simp [entryFrame, mkF, argsToLocals, Value.category, maxLocals]; done) | rfl) k
  have KK0 : Keep h0 h0 [] := Keep.refl _ _
  obtain ⟨fs, hr, hrun, hended, hW, hsame⟩ := X0.leave (v := some (.int 0)) (fun h => by rw [Bd.returns] at h; cases h)
  refine ⟨_, _, pre0 _ ?_, hrun, hended, _, _, rfl, ?_, ⟨_, rfl⟩, hW, hsame.mono (by decide) (by decide)⟩
  · show own_Y p e below s₁ m 0 #[.val (.ref sa442), .val (.int (-1)), .val (.int 45)] [] _
    refine XS.iloadN X0.here hx rfl (hb hby yi_0) rfl ?_
    refine XS.ifYes X0.here hx rfl (pc0 := 1) (pc' := 25) rfl (hb hby yi_1) rfl ((if0 _ _).trans (tlt (by decide : (-1 : Int32) < (0 : Int32))).1) (by decide) (by decide) ?_
    show own_Y p e below s₁ m 25 #[.val (.ref sa442), .val (.int (-1)), .val (.int 45)] [] _
    refine XS.iconst X0.here hx rfl (hb hby yi_25) ?_
    exact retN X0 hx (t := .boolean) Bd.returns (by simp) (hb hby yi_26) hr
  · show PQ (some (.int 0)) h0 n0 _ s₁.heap _
    rw [e0]
    exact ⟨rfl, N0, rfl⟩
theorem yr_0 : decode prog_40_method_10_code 0 = .ok (.aload_n 0, 1) := by decide +kernel
theorem yr_1 : decode prog_40_method_10_code 1 = .ok (.iload_n 1, 1) := by decide +kernel
theorem yr_2 : decode prog_40_method_10_code 2 = .ok (.iload_n 2, 1) := by decide +kernel
theorem yr_3 : decode prog_40_method_10_code 3 = .ok (.invokestatic 176, 3) := by decide +kernel
theorem yr_6 : decode prog_40_method_10_code 6 = .ok (.ifCond .eq 9, 3) := by decide +kernel
theorem yr_15 : decode prog_40_method_10_code 15 = .ok (.iconst (-1), 1) := by decide +kernel
theorem yr_16 : decode prog_40_method_10_code 16 = .ok (.ireturn, 1) := by decide +kernel
theorem rm71 (l : Launch) (Z : State) (a0 : Array Value) (hw : ∀ d ∈ tables_1, d.before a0 Z = true) (ws : List Jvm.Cond) (h0 : Heap) (n0 : Nat) (p1 : Int32) (A : Nat → Addr) (K : Nat → ClassId) (cs : Int32)  (sa442 : Addr) (EN : own_St Z A K cs) (OL0 : Old Z n0 h0) :
    own_MF l Z own_m10 prog_40_method_10_code 3 (some .int) ws (Room.mk 1 0 0 14) #[(.ref sa442), (.int (-1)), (.int 45)] h0 (PQ (some (.int (-1))) h0 n0) := by
  refine MetFree.of_bodySF (plainFor_of_name own_pn6) hisR ?_
  intro p e s m args below meth c s₁ Bd hml0 hP hK
  obtain ⟨rfl, hZ, hh⟩ := hP
  have hx := Bd.exec
  have hby := Bd.bytes
  have hml : c.maxLocals = 3 := hml0
  have hown : s.vm.findClass y_s1 = some m.cls := findClass_of_methodNamed Bd.named
  have hnm := (name_of_methodNamed Bd.named Bd.method).1
  have X0 : Stand p l e (Room.mk 1 0 0 14) s m #[(.ref sa442), (.int (-1)), (.int 45)] below meth c s₁ [] 0 0 := Stand.of_body Bd
  have e0 : s₁.heap = h0 := by rw [← hh, Bd.state]; rfl
  have N0 := Fr.nil n0
  have pre0 : own_P p e below s₁ m 0 #[.val (.ref sa442), .val (.int (-1)), .val (.int 45)] [] s₁ #[(.ref sa442), (.int (-1)), (.int 45)] 3 := fun t k => castTop (by first | (simp [entryFrame, mkF, argsToLocals, Value.category, maxLocals]; done) | rfl) k
  have KK0 : Keep h0 h0 [] := Keep.refl _ _
  obtain ⟨_, _, ⟨z1, L447, z7, n447⟩, -, z0, ⟨Lc447, z2, l447, y447, z447⟩, z3⟩ := Jvm.LawKit.callS X0 hx (y := own_m4) hown (mvT hZ (own_W hw 121 rfl)) (mvT hZ (own_W hw 122 rfl)) (mvT hZ (own_W hw 6 rfl)) (mvT hZ (own_W hw 123 rfl)) (by decide) (backOf (W := 0) (rm72 l Z a0 hw [] h0 n0 p1 A K cs sa442 EN OL0) hZ (own_W hw 123 rfl) (own_W hw 6 rfl) (by decide) (by decide)) (g := (mkF m 3 #[.val (.ref sa442), .val (.int (-1)), .val (.int 45)] [(.int 45), (.int (-1)), (.ref sa442)])) rfl (by rw [hml]; rfl) (argsL := [(.ref sa442), (.int (-1)), (.int 45)]) (rest := []) (lenOf own_pd14 rfl) rfl (by show 2 * 0 + _ ≤ _; exact Nat.le_of_eq rfl) (hb hby yr_3) (fun _ _ => ⟨rfl, e0, (by decide : 0 + 0 ≤ _), (by decide : 0 + 0 ≤ _)⟩)
  dsimp only [Pt.U, Pt.locs, Pt.cells, Pt.slots] at z0 l447 y447 z447 z3 z2
  replace z0 := own_sub z0 l447 y447 z447
  obtain ⟨rfl, z4, z5⟩ := z2
  have z6 := Fr.app N0 z4
  obtain ⟨fs, hr, hrun, hended, hW, hsame⟩ := z0.leave (v := some (.int (-1))) (fun h => by rw [Bd.returns] at h; cases h)
  refine ⟨_, _, pre0 _ ?_, hrun, hended, _, _, rfl, ?_, ⟨_, rfl⟩, hW, hsame.mono (by decide) (by decide)⟩
  · show own_Y p e below s₁ m 0 #[.val (.ref sa442), .val (.int (-1)), .val (.int 45)] [] _
    refine XS.aloadN X0.here hx rfl (hb hby yr_0) rfl rfl ?_
    refine XS.iloadN X0.here hx rfl (hb hby yr_1) rfl ?_
    refine XS.iloadN X0.here hx rfl (hb hby yr_2) rfl ?_
    refine z3 _ ?_
    show own_Y p e below z1 m 6 #[.val (.ref sa442), .val (.int (-1)), .val (.int 45)] [(.int 0)] _
    refine XS.ifYes z0.here hx rfl (pc0 := 6) (pc' := 15) rfl (hb hby yr_6) rfl ((if0 _ _).trans (teq (by decide : (0 : Int32) = (0 : Int32))).1) (by decide) (by decide) ?_
    show own_Y p e below z1 m 15 #[.val (.ref sa442), .val (.int (-1)), .val (.int 45)] [] _
    refine XS.iconst z0.here hx rfl (hb hby yr_15) ?_
    exact retI z0 hx Bd.returns (hb hby yr_16) hr
  · show PQ (some (.int (-1))) h0 n0 _ z1.heap _
    rw [z5]
    exact ⟨rfl, z6, rfl⟩
theorem ys_0 : decode prog_40_method_17_code 0 = .ok (.aload_n 0, 1) := by decide +kernel
theorem ys_1 : decode prog_40_method_17_code 1 = .ok (.aload_n 0, 1) := by decide +kernel
theorem ys_2 : decode prog_40_method_17_code 2 = .ok (.iconst 0, 1) := by decide +kernel
theorem ys_3 : decode prog_40_method_17_code 3 = .ok (.invokestatic 152, 3) := by decide +kernel
theorem ys_6 : decode prog_40_method_17_code 6 = .ok (.bipush 45, 2) := by decide +kernel
theorem ys_8 : decode prog_40_method_17_code 8 = .ok (.invokestatic 187, 3) := by decide +kernel
theorem ys_11 : decode prog_40_method_17_code 11 = .ok (.ireturn, 1) := by decide +kernel
theorem rm70 (l : Launch) (Z : State) (a0 : Array Value) (hw : ∀ d ∈ tables_1, d.before a0 Z = true) (ws : List Jvm.Cond) (h0 : Heap) (n0 : Nat) (p1 : Int32) (A : Nat → Addr) (K : Nat → ClassId) (cs : Int32)  (sb442 : Addr) (sa442 : Addr) (kc442 : ClassId) (EN : own_St Z A K cs) (OL0 : Old Z n0 h0) (z7 : Exa Z h0 sa442 y_s2) (z8 : Fld Z h0 sa442 y_s2 "value" "[B" (.ref sb442)) (z9 : Arv Z h0 sb442 kc442 .byte (2 : Int32) [(.int 48), (.int 48)] (.int 0)) (za : Fld Z h0 sa442 y_s2 "coder" "B" (.int 0)) :
    own_MF l Z own_m28 prog_40_method_17_code 1 (some .int) ws (Room.mk 5 0 0 73) #[(.ref sa442)] h0 (PQ (some (.int (-1))) h0 n0) := by
  refine MetFree.of_bodySF (plainFor_of_name own_pn6) hisR ?_
  intro p e s m args below meth c s₁ Bd hml0 hP hK
  obtain ⟨rfl, hZ, hh⟩ := hP
  have hx := Bd.exec
  have hby := Bd.bytes
  have hml : c.maxLocals = 1 := hml0
  have hown : s.vm.findClass y_s1 = some m.cls := findClass_of_methodNamed Bd.named
  have hnm := (name_of_methodNamed Bd.named Bd.method).1
  have X0 : Stand p l e (Room.mk 5 0 0 73) s m #[(.ref sa442)] below meth c s₁ [] 0 0 := Stand.of_body Bd
  have e0 : s₁.heap = h0 := by rw [← hh, Bd.state]; rfl
  have N0 := Fr.nil n0
  have pre0 : own_P p e below s₁ m 0 #[.val (.ref sa442)] [] s₁ #[(.ref sa442)] 1 := fun t k => castTop (by first | (simp [entryFrame, mkF, argsToLocals, Value.category, maxLocals]; done) | rfl) k
  have KK0 : Keep h0 h0 [] := Keep.refl _ _
  obtain ⟨_, _, ⟨zb, L446, zi, n446⟩, -, z0, ⟨Lc446, z2, l446, y446, z446⟩, z3⟩ := Jvm.LawKit.callS X0 hx (y := own_m27) hown (mvT hZ (own_W hw 164 rfl)) (mvT hZ (own_W hw 165 rfl)) (mvT hZ (own_W hw 6 rfl)) (mvT hZ (own_W hw 166 rfl)) (by decide) (backOf (W := 1) (rm61 l Z a0 hw [] h0 n0 p1 A K cs sb442 sa442 kc442 EN OL0 z7 z8 z9 za) hZ (own_W hw 166 rfl) (own_W hw 6 rfl) (by decide) (by decide)) (g := (mkF m 3 #[.val (.ref sa442)] [(.int 0), (.ref sa442), (.ref sa442)])) rfl (by rw [hml]; rfl) (argsL := [(.ref sa442), (.int 0)]) (rest := [(.ref sa442)]) (lenOf own_pd12 rfl) rfl (by show 2 * 0 + _ ≤ _; exact Nat.le_of_eq rfl) (hb hby ys_3) (fun _ _ => ⟨rfl, e0, (by decide : 0 + 0 ≤ _), (by decide : 0 + 0 ≤ _)⟩)
  dsimp only [Pt.U, Pt.locs, Pt.cells, Pt.slots] at z0 l446 y446 z446 z3 z2
  replace z0 := own_sub z0 l446 y446 z446
  obtain ⟨rfl, zc, zd⟩ := z2
  have ze := Fr.app N0 zc
  obtain ⟨_, _, ⟨z4, L448, zj, n448⟩, -, z1, ⟨Lc448, z5, l448, y448, z448⟩, z6⟩ := Jvm.LawKit.callS z0 hx (y := own_m10) hown (mvT hZ (own_W hw 148 rfl)) (mvT hZ (own_W hw 149 rfl)) (mvT hZ (own_W hw 6 rfl)) (mvT hZ (own_W hw 150 rfl)) (by decide) (backOf (W := 0) (rm71 l Z a0 hw [] h0 n0 p1 A K cs sa442 EN OL0) hZ (own_W hw 150 rfl) (own_W hw 6 rfl) (by decide) (by decide)) (g := (mkF m 8 #[.val (.ref sa442)] [(.int 45), (.int (-1)), (.ref sa442)])) rfl (by rw [hml]; rfl) (argsL := [(.ref sa442), (.int (-1)), (.int 45)]) (rest := []) (lenOf own_pd19 rfl) rfl (by show 2 * 0 + _ ≤ _; exact Nat.le_of_eq rfl) (hb hby ys_8) (fun _ _ => ⟨rfl, zd, (by decide : 0 + 0 ≤ _), (by decide : 0 + 0 ≤ _)⟩)
  dsimp only [Pt.U, Pt.locs, Pt.cells, Pt.slots] at z1 l448 y448 z448 z6 z5
  replace z1 := own_sub z1 l448 y448 z448
  obtain ⟨rfl, zf, zg⟩ := z5
  have zh := Fr.app ze zf
  obtain ⟨fs, hr, hrun, hended, hW, hsame⟩ := z1.leave (v := some (.int (-1))) (fun h => by rw [Bd.returns] at h; cases h)
  refine ⟨_, _, pre0 _ ?_, hrun, hended, _, _, rfl, ?_, ⟨_, rfl⟩, hW, hsame.mono (by decide) (by decide)⟩
  · show own_Y p e below s₁ m 0 #[.val (.ref sa442)] [] _
    refine XS.aloadN X0.here hx rfl (hb hby ys_0) rfl rfl ?_
    refine XS.aloadN X0.here hx rfl (hb hby ys_1) rfl rfl ?_
    refine XS.iconst X0.here hx rfl (hb hby ys_2) ?_
    refine z3 _ ?_
    show own_Y p e below zb m 6 #[.val (.ref sa442)] [(.int (-1)), (.ref sa442)] _
    refine XS.bipush z0.here hx rfl (hb hby ys_6) ?_
    refine z6 _ ?_
    show own_Y p e below z4 m 11 #[.val (.ref sa442)] [(.int (-1))] _
    exact retI z1 hx Bd.returns (hb hby ys_11) hr
  · show PQ (some (.int (-1))) h0 n0 _ z4.heap _
    rw [zg]
    exact ⟨rfl, zh, rfl⟩
theorem rm74 (l : Launch) (Z : State) (a0 : Array Value) (hw : ∀ d ∈ tables_1, d.before a0 Z = true) (ws : List Jvm.Cond) (h0 : Heap) (n0 : Nat) (p1 : Int32) (A : Nat → Addr) (K : Nat → ClassId) (cs : Int32)  (sa442 : Addr) (EN : own_St Z A K cs) (OL0 : Old Z n0 h0) :
    own_MF l Z own_m6 prog_40_method_9_code 7 (some .int) ws (Room.mk 0 0 0 0) #[(.ref sa442), (.int (-1)), (.int 2), (.int 0), (.int 23)] h0 (PQ (some (.int (-1))) h0 n0) := by
  refine MetFree.of_bodySF (plainFor_of_name own_pn6) hisR ?_
  intro p e s m args below meth c s₁ Bd hml0 hP hK
  obtain ⟨rfl, hZ, hh⟩ := hP
  have hx := Bd.exec
  have hby := Bd.bytes
  have hml : c.maxLocals = 7 := hml0
  have hown : s.vm.findClass y_s1 = some m.cls := findClass_of_methodNamed Bd.named
  have hnm := (name_of_methodNamed Bd.named Bd.method).1
  have X0 : Stand p l e (Room.mk 0 0 0 0) s m #[(.ref sa442), (.int (-1)), (.int 2), (.int 0), (.int 23)] below meth c s₁ [] 0 0 := Stand.of_body Bd
  have e0 : s₁.heap = h0 := by rw [← hh, Bd.state]; rfl
  have N0 := Fr.nil n0
  have pre0 : own_P p e below s₁ m 0 #[.val (.ref sa442), .val (.int (-1)), .val (.int 2), .val (.int 0), .val (.int 23), .unset, .unset] [] s₁ #[(.ref sa442), (.int (-1)), (.int 2), (.int 0), (.int 23)] 7 := fun t k => castTop (by first | (simp [entryFrame, mkF, argsToLocals, Value.category, maxLocals]; done) | rfl) k
  have KK0 : Keep h0 h0 [] := Keep.refl _ _
  obtain ⟨fs, hr, hrun, hended, hW, hsame⟩ := X0.leave (v := some (.int (-1))) (fun h => by rw [Bd.returns] at h; cases h)
  refine ⟨_, _, pre0 _ ?_, hrun, hended, _, _, rfl, ?_, ⟨_, rfl⟩, hW, hsame.mono (by decide) (by decide)⟩
  · show own_Y p e below s₁ m 0 #[.val (.ref sa442), .val (.int (-1)), .val (.int 2), .val (.int 0), .val (.int 23), .unset, .unset] [] _
    refine XS.iloadN X0.here hx rfl (hb hby yn_0) rfl ?_
    refine XS.ifYes X0.here hx rfl (pc0 := 1) (pc' := 14) rfl (hb hby yn_1) rfl ((if0 _ _).trans (tlt (by decide : (-1 : Int32) < (0 : Int32))).1) (by decide) (by decide) ?_
    show own_Y p e below s₁ m 14 #[.val (.ref sa442), .val (.int (-1)), .val (.int 2), .val (.int 0), .val (.int 23), .unset, .unset] [] _
    refine XS.iconst X0.here hx rfl (hb hby yn_14) ?_
    exact retI X0 hx Bd.returns (hb hby yn_15) hr
  · show PQ (some (.int (-1))) h0 n0 _ s₁.heap _
    rw [e0]
    exact ⟨rfl, N0, rfl⟩
theorem rm76 (l : Launch) (Z : State) (a0 : Array Value) (hw : ∀ d ∈ tables_1, d.before a0 Z = true) (ws : List Jvm.Cond) (h0 : Heap) (n0 : Nat) (p1 : Int32) (A : Nat → Addr) (K : Nat → ClassId) (cs : Int32)  (sa442 : Addr) (EN : own_St Z A K cs) (OL0 : Old Z n0 h0) :
    own_MF l Z own_m4 prog_40_method_11_code 3 (some .boolean) ws (Room.mk 0 0 0 0) #[(.ref sa442), (.int (-1)), (.int 58)] h0 (PQ (some (.int 0)) h0 n0) := by
  refine MetFree.of_bodySF (plainFor_of_name own_pn6) hisR ?_
  intro p e s m args below meth c s₁ Bd hml0 hP hK
  obtain ⟨rfl, hZ, hh⟩ := hP
  have hx := Bd.exec
  have hby := Bd.bytes
  have hml : c.maxLocals = 3 := hml0
  have hown : s.vm.findClass y_s1 = some m.cls := findClass_of_methodNamed Bd.named
  have hnm := (name_of_methodNamed Bd.named Bd.method).1
  have X0 : Stand p l e (Room.mk 0 0 0 0) s m #[(.ref sa442), (.int (-1)), (.int 58)] below meth c s₁ [] 0 0 := Stand.of_body Bd
  have e0 : s₁.heap = h0 := by rw [← hh, Bd.state]; rfl
  have N0 := Fr.nil n0
  have pre0 : own_P p e below s₁ m 0 #[.val (.ref sa442), .val (.int (-1)), .val (.int 58)] [] s₁ #[(.ref sa442), (.int (-1)), (.int 58)] 3 := fun t k => castTop (by first | (simp [entryFrame, mkF, argsToLocals, Value.category, maxLocals]; done) | rfl) k
  have KK0 : Keep h0 h0 [] := Keep.refl _ _
  obtain ⟨fs, hr, hrun, hended, hW, hsame⟩ := X0.leave (v := some (.int 0)) (fun h => by rw [Bd.returns] at h; cases h)
  refine ⟨_, _, pre0 _ ?_, hrun, hended, _, _, rfl, ?_, ⟨_, rfl⟩, hW, hsame.mono (by decide) (by decide)⟩
  · show own_Y p e below s₁ m 0 #[.val (.ref sa442), .val (.int (-1)), .val (.int 58)] [] _
    refine XS.iloadN X0.here hx rfl (hb hby yi_0) rfl ?_
    refine XS.ifYes X0.here hx rfl (pc0 := 1) (pc' := 25) rfl (hb hby yi_1) rfl ((if0 _ _).trans (tlt (by decide : (-1 : Int32) < (0 : Int32))).1) (by decide) (by decide) ?_
    show own_Y p e below s₁ m 25 #[.val (.ref sa442), .val (.int (-1)), .val (.int 58)] [] _
    refine XS.iconst X0.here hx rfl (hb hby yi_25) ?_
    exact retN X0 hx (t := .boolean) Bd.returns (by simp) (hb hby yi_26) hr
  · show PQ (some (.int 0)) h0 n0 _ s₁.heap _
    rw [e0]
    exact ⟨rfl, N0, rfl⟩
theorem rm75 (l : Launch) (Z : State) (a0 : Array Value) (hw : ∀ d ∈ tables_1, d.before a0 Z = true) (ws : List Jvm.Cond) (h0 : Heap) (n0 : Nat) (p1 : Int32) (A : Nat → Addr) (K : Nat → ClassId) (cs : Int32)  (sa442 : Addr) (EN : own_St Z A K cs) (OL0 : Old Z n0 h0) :
    own_MF l Z own_m10 prog_40_method_10_code 3 (some .int) ws (Room.mk 1 0 0 14) #[(.ref sa442), (.int (-1)), (.int 58)] h0 (PQ (some (.int (-1))) h0 n0) := by
  refine MetFree.of_bodySF (plainFor_of_name own_pn6) hisR ?_
  intro p e s m args below meth c s₁ Bd hml0 hP hK
  obtain ⟨rfl, hZ, hh⟩ := hP
  have hx := Bd.exec
  have hby := Bd.bytes
  have hml : c.maxLocals = 3 := hml0
  have hown : s.vm.findClass y_s1 = some m.cls := findClass_of_methodNamed Bd.named
  have hnm := (name_of_methodNamed Bd.named Bd.method).1
  have X0 : Stand p l e (Room.mk 1 0 0 14) s m #[(.ref sa442), (.int (-1)), (.int 58)] below meth c s₁ [] 0 0 := Stand.of_body Bd
  have e0 : s₁.heap = h0 := by rw [← hh, Bd.state]; rfl
  have N0 := Fr.nil n0
  have pre0 : own_P p e below s₁ m 0 #[.val (.ref sa442), .val (.int (-1)), .val (.int 58)] [] s₁ #[(.ref sa442), (.int (-1)), (.int 58)] 3 := fun t k => castTop (by first | (simp [entryFrame, mkF, argsToLocals, Value.category, maxLocals]; done) | rfl) k
  have KK0 : Keep h0 h0 [] := Keep.refl _ _
  obtain ⟨_, _, ⟨z1, L451, z7, n451⟩, -, z0, ⟨Lc451, z2, l451, y451, z451⟩, z3⟩ := Jvm.LawKit.callS X0 hx (y := own_m4) hown (mvT hZ (own_W hw 121 rfl)) (mvT hZ (own_W hw 122 rfl)) (mvT hZ (own_W hw 6 rfl)) (mvT hZ (own_W hw 123 rfl)) (by decide) (backOf (W := 0) (rm76 l Z a0 hw [] h0 n0 p1 A K cs sa442 EN OL0) hZ (own_W hw 123 rfl) (own_W hw 6 rfl) (by decide) (by decide)) (g := (mkF m 3 #[.val (.ref sa442), .val (.int (-1)), .val (.int 58)] [(.int 58), (.int (-1)), (.ref sa442)])) rfl (by rw [hml]; rfl) (argsL := [(.ref sa442), (.int (-1)), (.int 58)]) (rest := []) (lenOf own_pd14 rfl) rfl (by show 2 * 0 + _ ≤ _; exact Nat.le_of_eq rfl) (hb hby yr_3) (fun _ _ => ⟨rfl, e0, (by decide : 0 + 0 ≤ _), (by decide : 0 + 0 ≤ _)⟩)
  dsimp only [Pt.U, Pt.locs, Pt.cells, Pt.slots] at z0 l451 y451 z451 z3 z2
  replace z0 := own_sub z0 l451 y451 z451
  obtain ⟨rfl, z4, z5⟩ := z2
  have z6 := Fr.app N0 z4
  obtain ⟨fs, hr, hrun, hended, hW, hsame⟩ := z0.leave (v := some (.int (-1))) (fun h => by rw [Bd.returns] at h; cases h)
  refine ⟨_, _, pre0 _ ?_, hrun, hended, _, _, rfl, ?_, ⟨_, rfl⟩, hW, hsame.mono (by decide) (by decide)⟩
  · show own_Y p e below s₁ m 0 #[.val (.ref sa442), .val (.int (-1)), .val (.int 58)] [] _
    refine XS.aloadN X0.here hx rfl (hb hby yr_0) rfl rfl ?_
    refine XS.iloadN X0.here hx rfl (hb hby yr_1) rfl ?_
    refine XS.iloadN X0.here hx rfl (hb hby yr_2) rfl ?_
    refine z3 _ ?_
    show own_Y p e below z1 m 6 #[.val (.ref sa442), .val (.int (-1)), .val (.int 58)] [(.int 0)] _
    refine XS.ifYes z0.here hx rfl (pc0 := 6) (pc' := 15) rfl (hb hby yr_6) rfl ((if0 _ _).trans (teq (by decide : (0 : Int32) = (0 : Int32))).1) (by decide) (by decide) ?_
    show own_Y p e below z1 m 15 #[.val (.ref sa442), .val (.int (-1)), .val (.int 58)] [] _
    refine XS.iconst z0.here hx rfl (hb hby yr_15) ?_
    exact retI z0 hx Bd.returns (hb hby yr_16) hr
  · show PQ (some (.int (-1))) h0 n0 _ z1.heap _
    rw [z5]
    exact ⟨rfl, z6, rfl⟩
theorem rm77 (l : Launch) (Z : State) (a0 : Array Value) (hw : ∀ d ∈ tables_1, d.before a0 Z = true) (ws : List Jvm.Cond) (h0 : Heap) (n0 : Nat) (p1 : Int32) (A : Nat → Addr) (K : Nat → ClassId) (cs : Int32)  (sa442 : Addr) (EN : own_St Z A K cs) (OL0 : Old Z n0 h0) :
    own_MF l Z own_m6 prog_40_method_9_code 7 (some .int) ws (Room.mk 0 0 0 0) #[(.ref sa442), (.int (-1)), (.int 2), (.int 0), (.int 59)] h0 (PQ (some (.int (-1))) h0 n0) := by
  refine MetFree.of_bodySF (plainFor_of_name own_pn6) hisR ?_
  intro p e s m args below meth c s₁ Bd hml0 hP hK
  obtain ⟨rfl, hZ, hh⟩ := hP
  have hx := Bd.exec
  have hby := Bd.bytes
  have hml : c.maxLocals = 7 := hml0
  have hown : s.vm.findClass y_s1 = some m.cls := findClass_of_methodNamed Bd.named
  have hnm := (name_of_methodNamed Bd.named Bd.method).1
  have X0 : Stand p l e (Room.mk 0 0 0 0) s m #[(.ref sa442), (.int (-1)), (.int 2), (.int 0), (.int 59)] below meth c s₁ [] 0 0 := Stand.of_body Bd
  have e0 : s₁.heap = h0 := by rw [← hh, Bd.state]; rfl
  have N0 := Fr.nil n0
  have pre0 : own_P p e below s₁ m 0 #[.val (.ref sa442), .val (.int (-1)), .val (.int 2), .val (.int 0), .val (.int 59), .unset, .unset] [] s₁ #[(.ref sa442), (.int (-1)), (.int 2), (.int 0), (.int 59)] 7 := fun t k => castTop (by first | (simp [entryFrame, mkF, argsToLocals, Value.category, maxLocals]; done) | rfl) k
  have KK0 : Keep h0 h0 [] := Keep.refl _ _
  obtain ⟨fs, hr, hrun, hended, hW, hsame⟩ := X0.leave (v := some (.int (-1))) (fun h => by rw [Bd.returns] at h; cases h)
  refine ⟨_, _, pre0 _ ?_, hrun, hended, _, _, rfl, ?_, ⟨_, rfl⟩, hW, hsame.mono (by decide) (by decide)⟩
  · show own_Y p e below s₁ m 0 #[.val (.ref sa442), .val (.int (-1)), .val (.int 2), .val (.int 0), .val (.int 59), .unset, .unset] [] _
    refine XS.iloadN X0.here hx rfl (hb hby yn_0) rfl ?_
    refine XS.ifYes X0.here hx rfl (pc0 := 1) (pc' := 14) rfl (hb hby yn_1) rfl ((if0 _ _).trans (tlt (by decide : (-1 : Int32) < (0 : Int32))).1) (by decide) (by decide) ?_
    show own_Y p e below s₁ m 14 #[.val (.ref sa442), .val (.int (-1)), .val (.int 2), .val (.int 0), .val (.int 59), .unset, .unset] [] _
    refine XS.iconst X0.here hx rfl (hb hby yn_14) ?_
    exact retI X0 hx Bd.returns (hb hby yn_15) hr
  · show PQ (some (.int (-1))) h0 n0 _ s₁.heap _
    rw [e0]
    exact ⟨rfl, N0, rfl⟩
theorem rm78 (l : Launch) (Z : State) (a0 : Array Value) (hw : ∀ d ∈ tables_1, d.before a0 Z = true) (ws : List Jvm.Cond) (h0 : Heap) (n0 : Nat) (p1 : Int32) (A : Nat → Addr) (K : Nat → ClassId) (cs : Int32)  (sa442 : Addr) (EN : own_St Z A K cs) (OL0 : Old Z n0 h0) :
    own_MF l Z own_m6 prog_40_method_9_code 7 (some .int) ws (Room.mk 0 0 0 0) #[(.ref sa442), (.int (-1)), (.int 2), (.int 0), (.int 60)] h0 (PQ (some (.int (-1))) h0 n0) := by
  refine MetFree.of_bodySF (plainFor_of_name own_pn6) hisR ?_
  intro p e s m args below meth c s₁ Bd hml0 hP hK
  obtain ⟨rfl, hZ, hh⟩ := hP
  have hx := Bd.exec
  have hby := Bd.bytes
  have hml : c.maxLocals = 7 := hml0
  have hown : s.vm.findClass y_s1 = some m.cls := findClass_of_methodNamed Bd.named
  have hnm := (name_of_methodNamed Bd.named Bd.method).1
  have X0 : Stand p l e (Room.mk 0 0 0 0) s m #[(.ref sa442), (.int (-1)), (.int 2), (.int 0), (.int 60)] below meth c s₁ [] 0 0 := Stand.of_body Bd
  have e0 : s₁.heap = h0 := by rw [← hh, Bd.state]; rfl
  have N0 := Fr.nil n0
  have pre0 : own_P p e below s₁ m 0 #[.val (.ref sa442), .val (.int (-1)), .val (.int 2), .val (.int 0), .val (.int 60), .unset, .unset] [] s₁ #[(.ref sa442), (.int (-1)), (.int 2), (.int 0), (.int 60)] 7 := fun t k => castTop (by first | (simp [entryFrame, mkF, argsToLocals, Value.category, maxLocals]; done) | rfl) k
  have KK0 : Keep h0 h0 [] := Keep.refl _ _
  obtain ⟨fs, hr, hrun, hended, hW, hsame⟩ := X0.leave (v := some (.int (-1))) (fun h => by rw [Bd.returns] at h; cases h)
  refine ⟨_, _, pre0 _ ?_, hrun, hended, _, _, rfl, ?_, ⟨_, rfl⟩, hW, hsame.mono (by decide) (by decide)⟩
  · show own_Y p e below s₁ m 0 #[.val (.ref sa442), .val (.int (-1)), .val (.int 2), .val (.int 0), .val (.int 60), .unset, .unset] [] _
    refine XS.iloadN X0.here hx rfl (hb hby yn_0) rfl ?_
    refine XS.ifYes X0.here hx rfl (pc0 := 1) (pc' := 14) rfl (hb hby yn_1) rfl ((if0 _ _).trans (tlt (by decide : (-1 : Int32) < (0 : Int32))).1) (by decide) (by decide) ?_
    show own_Y p e below s₁ m 14 #[.val (.ref sa442), .val (.int (-1)), .val (.int 2), .val (.int 0), .val (.int 60), .unset, .unset] [] _
    refine XS.iconst X0.here hx rfl (hb hby yn_14) ?_
    exact retI X0 hx Bd.returns (hb hby yn_15) hr
  · show PQ (some (.int (-1))) h0 n0 _ s₁.heap _
    rw [e0]
    exact ⟨rfl, N0, rfl⟩
theorem rm79 (l : Launch) (Z : State) (a0 : Array Value) (hw : ∀ d ∈ tables_1, d.before a0 Z = true) (ws : List Jvm.Cond) (h0 : Heap) (n0 : Nat) (p1 : Int32) (A : Nat → Addr) (K : Nat → ClassId) (cs : Int32)  (sa442 : Addr) (EN : own_St Z A K cs) (OL0 : Old Z n0 h0) :
    own_MF l Z own_m4 prog_40_method_11_code 3 (some .boolean) ws (Room.mk 0 0 0 0) #[(.ref sa442), (.int (-1)), (.int 46)] h0 (PQ (some (.int 0)) h0 n0) := by
  refine MetFree.of_bodySF (plainFor_of_name own_pn6) hisR ?_
  intro p e s m args below meth c s₁ Bd hml0 hP hK
  obtain ⟨rfl, hZ, hh⟩ := hP
  have hx := Bd.exec
  have hby := Bd.bytes
  have hml : c.maxLocals = 3 := hml0
  have hown : s.vm.findClass y_s1 = some m.cls := findClass_of_methodNamed Bd.named
  have hnm := (name_of_methodNamed Bd.named Bd.method).1
  have X0 : Stand p l e (Room.mk 0 0 0 0) s m #[(.ref sa442), (.int (-1)), (.int 46)] below meth c s₁ [] 0 0 := Stand.of_body Bd
  have e0 : s₁.heap = h0 := by rw [← hh, Bd.state]; rfl
  have N0 := Fr.nil n0
  have pre0 : own_P p e below s₁ m 0 #[.val (.ref sa442), .val (.int (-1)), .val (.int 46)] [] s₁ #[(.ref sa442), (.int (-1)), (.int 46)] 3 := fun t k => castTop (by first | (simp [entryFrame, mkF, argsToLocals, Value.category, maxLocals]; done) | rfl) k
  have KK0 : Keep h0 h0 [] := Keep.refl _ _
  obtain ⟨fs, hr, hrun, hended, hW, hsame⟩ := X0.leave (v := some (.int 0)) (fun h => by rw [Bd.returns] at h; cases h)
  refine ⟨_, _, pre0 _ ?_, hrun, hended, _, _, rfl, ?_, ⟨_, rfl⟩, hW, hsame.mono (by decide) (by decide)⟩
  · show own_Y p e below s₁ m 0 #[.val (.ref sa442), .val (.int (-1)), .val (.int 46)] [] _
    refine XS.iloadN X0.here hx rfl (hb hby yi_0) rfl ?_
    refine XS.ifYes X0.here hx rfl (pc0 := 1) (pc' := 25) rfl (hb hby yi_1) rfl ((if0 _ _).trans (tlt (by decide : (-1 : Int32) < (0 : Int32))).1) (by decide) (by decide) ?_
    show own_Y p e below s₁ m 25 #[.val (.ref sa442), .val (.int (-1)), .val (.int 46)] [] _
    refine XS.iconst X0.here hx rfl (hb hby yi_25) ?_
    exact retN X0 hx (t := .boolean) Bd.returns (by simp) (hb hby yi_26) hr
  · show PQ (some (.int 0)) h0 n0 _ s₁.heap _
    rw [e0]
    exact ⟨rfl, N0, rfl⟩
theorem yt_0 : decode prog_40_method_19_code 0 = .ok (.aload_n 0, 1) := by decide +kernel
theorem yt_1 : decode prog_40_method_19_code 1 = .ok (.aload_n 0, 1) := by decide +kernel
theorem yt_2 : decode prog_40_method_19_code 2 = .ok (.aload_n 0, 1) := by decide +kernel
theorem yt_3 : decode prog_40_method_19_code 3 = .ok (.iload_n 1, 1) := by decide +kernel
theorem yt_4 : decode prog_40_method_19_code 4 = .ok (.iconst 2, 1) := by decide +kernel
theorem yt_5 : decode prog_40_method_19_code 5 = .ok (.iconst 0, 1) := by decide +kernel
theorem yt_6 : decode prog_40_method_19_code 6 = .ok (.bipush 23, 2) := by decide +kernel
theorem yt_8 : decode prog_40_method_19_code 8 = .ok (.invokestatic 180, 3) := by decide +kernel
theorem yt_11 : decode prog_40_method_19_code 11 = .ok (.bipush 58, 2) := by decide +kernel
theorem yt_13 : decode prog_40_method_19_code 13 = .ok (.invokestatic 187, 3) := by decide +kernel
theorem yt_16 : decode prog_40_method_19_code 16 = .ok (.iconst 2, 1) := by decide +kernel
theorem yt_17 : decode prog_40_method_19_code 17 = .ok (.iconst 0, 1) := by decide +kernel
theorem yt_18 : decode prog_40_method_19_code 18 = .ok (.bipush 59, 2) := by decide +kernel
theorem yt_20 : decode prog_40_method_19_code 20 = .ok (.invokestatic 180, 3) := by decide +kernel
theorem yt_23 : decode prog_40_method_19_code 23 = .ok (.istore 4, 2) := by decide +kernel
theorem yt_25 : decode prog_40_method_19_code 25 = .ok (.iload_n 2, 1) := by decide +kernel
theorem yt_26 : decode prog_40_method_19_code 26 = .ok (.ifCond .ne 17, 3) := by decide +kernel
theorem yt_43 : decode prog_40_method_19_code 43 = .ok (.aload_n 0, 1) := by decide +kernel
theorem yt_44 : decode prog_40_method_19_code 44 = .ok (.aload_n 0, 1) := by decide +kernel
theorem yt_45 : decode prog_40_method_19_code 45 = .ok (.iload 4, 2) := by decide +kernel
theorem yt_47 : decode prog_40_method_19_code 47 = .ok (.bipush 58, 2) := by decide +kernel
theorem yt_49 : decode prog_40_method_19_code 49 = .ok (.invokestatic 187, 3) := by decide +kernel
theorem yt_52 : decode prog_40_method_19_code 52 = .ok (.iconst 2, 1) := by decide +kernel
theorem yt_53 : decode prog_40_method_19_code 53 = .ok (.iconst 0, 1) := by decide +kernel
theorem yt_54 : decode prog_40_method_19_code 54 = .ok (.bipush 60, 2) := by decide +kernel
theorem yt_56 : decode prog_40_method_19_code 56 = .ok (.invokestatic 180, 3) := by decide +kernel
theorem yt_59 : decode prog_40_method_19_code 59 = .ok (.istore 4, 2) := by decide +kernel
theorem yt_61 : decode prog_40_method_19_code 61 = .ok (.iload_n 3, 1) := by decide +kernel
theorem yt_62 : decode prog_40_method_19_code 62 = .ok (.ifCond .eq 14, 3) := by decide +kernel
theorem yt_65 : decode prog_40_method_19_code 65 = .ok (.aload_n 0, 1) := by decide +kernel
theorem yt_66 : decode prog_40_method_19_code 66 = .ok (.iload 4, 2) := by decide +kernel
theorem yt_68 : decode prog_40_method_19_code 68 = .ok (.bipush 46, 2) := by decide +kernel
theorem yt_70 : decode prog_40_method_19_code 70 = .ok (.invokestatic 176, 3) := by decide +kernel
theorem yt_73 : decode prog_40_method_19_code 73 = .ok (.ifCond .ne 6, 3) := by decide +kernel
theorem yt_76 : decode prog_40_method_19_code 76 = .ok (.iload 4, 2) := by decide +kernel
theorem yt_78 : decode prog_40_method_19_code 78 = .ok (.ireturn, 1) := by decide +kernel
theorem rm73 (l : Launch) (Z : State) (a0 : Array Value) (hw : ∀ d ∈ tables_1, d.before a0 Z = true) (ws : List Jvm.Cond) (h0 : Heap) (n0 : Nat) (p1 : Int32) (A : Nat → Addr) (K : Nat → ClassId) (cs : Int32)  (sa442 : Addr) (EN : own_St Z A K cs) (OL0 : Old Z n0 h0) :
    own_MF l Z own_m14 prog_40_method_19_code 6 (some .int) ws (Room.mk 2 0 0 29) #[(.ref sa442), (.int (-1)), (.int 1), (.int 1)] h0 (PQ (some (.int (-1))) h0 n0) := by
  refine MetFree.of_bodySF (plainFor_of_name own_pn6) hisR ?_
  intro p e s m args below meth c s₁ Bd hml0 hP hK
  obtain ⟨rfl, hZ, hh⟩ := hP
  have hx := Bd.exec
  have hby := Bd.bytes
  have hml : c.maxLocals = 6 := hml0
  have hown : s.vm.findClass y_s1 = some m.cls := findClass_of_methodNamed Bd.named
  have hnm := (name_of_methodNamed Bd.named Bd.method).1
  have X0 : Stand p l e (Room.mk 2 0 0 29) s m #[(.ref sa442), (.int (-1)), (.int 1), (.int 1)] below meth c s₁ [] 0 0 := Stand.of_body Bd
  have e0 : s₁.heap = h0 := by rw [← hh, Bd.state]; rfl
  have N0 := Fr.nil n0
  have pre0 : own_P p e below s₁ m 0 #[.val (.ref sa442), .val (.int (-1)), .val (.int 1), .val (.int 1), .unset, .unset] [] s₁ #[(.ref sa442), (.int (-1)), (.int 1), (.int 1)] 6 := fun t k => castTop (by first | (simp [entryFrame, mkF, argsToLocals, Value.category, maxLocals]; done) | rfl) k
  have KK0 : Keep h0 h0 [] := Keep.refl _ _
  obtain ⟨_, _, ⟨zl, L450, z16, n450⟩, -, z5, ⟨Lc450, z7, l450, y450, z450⟩, z8⟩ := Jvm.LawKit.callS X0 hx (y := own_m6) hown (mvT hZ (own_W hw 145 rfl)) (mvT hZ (own_W hw 146 rfl)) (mvT hZ (own_W hw 6 rfl)) (mvT hZ (own_W hw 147 rfl)) (by decide) (backOf (W := 2) (rm74 l Z a0 hw [] h0 n0 p1 A K cs sa442 EN OL0) hZ (own_W hw 147 rfl) (own_W hw 6 rfl) (by decide) (by decide)) (g := (mkF m 8 #[.val (.ref sa442), .val (.int (-1)), .val (.int 1), .val (.int 1), .unset, .unset] [(.int 23), (.int 0), (.int 2), (.int (-1)), (.ref sa442), (.ref sa442), (.ref sa442)])) rfl (by rw [hml]; rfl) (argsL := [(.ref sa442), (.int (-1)), (.int 2), (.int 0), (.int 23)]) (rest := [(.ref sa442), (.ref sa442)]) (lenOf own_pd18 rfl) rfl (by show 2 * 0 + _ ≤ _; exact Nat.le_of_eq rfl) (hb hby yt_8) (fun _ _ => ⟨rfl, e0, (by decide : 0 + 0 ≤ _), (by decide : 0 + 0 ≤ _)⟩)
  dsimp only [Pt.U, Pt.locs, Pt.cells, Pt.slots] at z5 l450 y450 z450 z8 z7
  replace z5 := own_sub z5 l450 y450 z450
  obtain ⟨rfl, zm, zn⟩ := z7
  have zo := Fr.app N0 zm
  obtain ⟨_, _, ⟨zp, L452, z17, n452⟩, -, z2, ⟨Lc452, z9, l452, y452, z452⟩, za⟩ := Jvm.LawKit.callS z5 hx (y := own_m10) hown (mvT hZ (own_W hw 148 rfl)) (mvT hZ (own_W hw 149 rfl)) (mvT hZ (own_W hw 6 rfl)) (mvT hZ (own_W hw 150 rfl)) (by decide) (backOf (W := 1) (rm75 l Z a0 hw [] h0 n0 p1 A K cs sa442 EN OL0) hZ (own_W hw 150 rfl) (own_W hw 6 rfl) (by decide) (by decide)) (g := (mkF m 13 #[.val (.ref sa442), .val (.int (-1)), .val (.int 1), .val (.int 1), .unset, .unset] [(.int 58), (.int (-1)), (.ref sa442), (.ref sa442)])) rfl (by rw [hml]; rfl) (argsL := [(.ref sa442), (.int (-1)), (.int 58)]) (rest := [(.ref sa442)]) (lenOf own_pd19 rfl) rfl (by show 2 * 0 + _ ≤ _; exact Nat.le_of_eq rfl) (hb hby yt_13) (fun _ _ => ⟨rfl, zn, (by decide : 0 + 0 ≤ _), (by decide : 0 + 0 ≤ _)⟩)
  dsimp only [Pt.U, Pt.locs, Pt.cells, Pt.slots] at z2 l452 y452 z452 za z9
  replace z2 := own_sub z2 l452 y452 z452
  obtain ⟨rfl, zq, zr⟩ := z9
  have zs := Fr.app zo zq
  obtain ⟨_, _, ⟨zb, L453, z18, n453⟩, -, z0, ⟨Lc453, zc, l453, y453, z453⟩, zd⟩ := Jvm.LawKit.callS z2 hx (y := own_m6) hown (mvT hZ (own_W hw 145 rfl)) (mvT hZ (own_W hw 146 rfl)) (mvT hZ (own_W hw 6 rfl)) (mvT hZ (own_W hw 147 rfl)) (by decide) (backOf (W := 0) (rm77 l Z a0 hw [] h0 n0 p1 A K cs sa442 EN OL0) hZ (own_W hw 147 rfl) (own_W hw 6 rfl) (by decide) (by decide)) (g := (mkF m 20 #[.val (.ref sa442), .val (.int (-1)), .val (.int 1), .val (.int 1), .unset, .unset] [(.int 59), (.int 0), (.int 2), (.int (-1)), (.ref sa442)])) rfl (by rw [hml]; rfl) (argsL := [(.ref sa442), (.int (-1)), (.int 2), (.int 0), (.int 59)]) (rest := []) (lenOf own_pd18 rfl) rfl (by show 2 * 0 + _ ≤ _; exact Nat.le_of_eq rfl) (hb hby yt_20) (fun _ _ => ⟨rfl, zr, (by decide : 0 + 0 ≤ _), (by decide : 0 + 0 ≤ _)⟩)
  dsimp only [Pt.U, Pt.locs, Pt.cells, Pt.slots] at z0 l453 y453 z453 zd zc
  replace z0 := own_sub z0 l453 y453 z453
  obtain ⟨rfl, zt, zu⟩ := zc
  have zv := Fr.app zs zt
  obtain ⟨_, _, ⟨zw, L454, z19, n454⟩, -, z3, ⟨Lc454, ze, l454, y454, z454⟩, zf⟩ := Jvm.LawKit.callS z0 hx (y := own_m10) hown (mvT hZ (own_W hw 148 rfl)) (mvT hZ (own_W hw 149 rfl)) (mvT hZ (own_W hw 6 rfl)) (mvT hZ (own_W hw 150 rfl)) (by decide) (backOf (W := 1) (rm75 l Z a0 hw [] h0 n0 p1 A K cs sa442 EN OL0) hZ (own_W hw 150 rfl) (own_W hw 6 rfl) (by decide) (by decide)) (g := (mkF m 49 #[.val (.ref sa442), .val (.int (-1)), .val (.int 1), .val (.int 1), .val (.int (-1)), .unset] [(.int 58), (.int (-1)), (.ref sa442), (.ref sa442)])) rfl (by rw [hml]; rfl) (argsL := [(.ref sa442), (.int (-1)), (.int 58)]) (rest := [(.ref sa442)]) (lenOf own_pd19 rfl) rfl (by show 2 * 0 + _ ≤ _; exact Nat.le_of_eq rfl) (hb hby yt_49) (fun _ _ => ⟨rfl, zu, (by decide : 0 + 0 ≤ _), (by decide : 0 + 0 ≤ _)⟩)
  dsimp only [Pt.U, Pt.locs, Pt.cells, Pt.slots] at z3 l454 y454 z454 zf ze
  replace z3 := own_sub z3 l454 y454 z454
  obtain ⟨rfl, zx, zy⟩ := ze
  have zz := Fr.app zv zx
  obtain ⟨_, _, ⟨zg, L455, z1a, n455⟩, -, z1, ⟨Lc455, zh, l455, y455, z455⟩, zi⟩ := Jvm.LawKit.callS z3 hx (y := own_m6) hown (mvT hZ (own_W hw 145 rfl)) (mvT hZ (own_W hw 146 rfl)) (mvT hZ (own_W hw 6 rfl)) (mvT hZ (own_W hw 147 rfl)) (by decide) (backOf (W := 0) (rm78 l Z a0 hw [] h0 n0 p1 A K cs sa442 EN OL0) hZ (own_W hw 147 rfl) (own_W hw 6 rfl) (by decide) (by decide)) (g := (mkF m 56 #[.val (.ref sa442), .val (.int (-1)), .val (.int 1), .val (.int 1), .val (.int (-1)), .unset] [(.int 60), (.int 0), (.int 2), (.int (-1)), (.ref sa442)])) rfl (by rw [hml]; rfl) (argsL := [(.ref sa442), (.int (-1)), (.int 2), (.int 0), (.int 60)]) (rest := []) (lenOf own_pd18 rfl) rfl (by show 2 * 0 + _ ≤ _; exact Nat.le_of_eq rfl) (hb hby yt_56) (fun _ _ => ⟨rfl, zy, (by decide : 0 + 0 ≤ _), (by decide : 0 + 0 ≤ _)⟩)
  dsimp only [Pt.U, Pt.locs, Pt.cells, Pt.slots] at z1 l455 y455 z455 zi zh
  replace z1 := own_sub z1 l455 y455 z455
  obtain ⟨rfl, z10, z11⟩ := zh
  have z12 := Fr.app zz z10
  obtain ⟨_, _, ⟨z6, L456, z1b, n456⟩, -, z4, ⟨Lc456, zj, l456, y456, z456⟩, zk⟩ := Jvm.LawKit.callS z1 hx (y := own_m4) hown (mvT hZ (own_W hw 121 rfl)) (mvT hZ (own_W hw 122 rfl)) (mvT hZ (own_W hw 6 rfl)) (mvT hZ (own_W hw 123 rfl)) (by decide) (backOf (W := 0) (rm79 l Z a0 hw [] h0 n0 p1 A K cs sa442 EN OL0) hZ (own_W hw 123 rfl) (own_W hw 6 rfl) (by decide) (by decide)) (g := (mkF m 70 #[.val (.ref sa442), .val (.int (-1)), .val (.int 1), .val (.int 1), .val (.int (-1)), .unset] [(.int 46), (.int (-1)), (.ref sa442)])) rfl (by rw [hml]; rfl) (argsL := [(.ref sa442), (.int (-1)), (.int 46)]) (rest := []) (lenOf own_pd14 rfl) rfl (by show 2 * 0 + _ ≤ _; exact Nat.le_of_eq rfl) (hb hby yt_70) (fun _ _ => ⟨rfl, z11, (by decide : 0 + 0 ≤ _), (by decide : 0 + 0 ≤ _)⟩)
  dsimp only [Pt.U, Pt.locs, Pt.cells, Pt.slots] at z4 l456 y456 z456 zk zj
  replace z4 := own_sub z4 l456 y456 z456
  obtain ⟨rfl, z13, z14⟩ := zj
  have z15 := Fr.app z12 z13
  obtain ⟨fs, hr, hrun, hended, hW, hsame⟩ := z4.leave (v := some (.int (-1))) (fun h => by rw [Bd.returns] at h; cases h)
  refine ⟨_, _, pre0 _ ?_, hrun, hended, _, _, rfl, ?_, ⟨_, rfl⟩, hW, hsame.mono (by decide) (by decide)⟩
  · show own_Y p e below s₁ m 0 #[.val (.ref sa442), .val (.int (-1)), .val (.int 1), .val (.int 1), .unset, .unset] [] _
    refine XS.aloadN X0.here hx rfl (hb hby yt_0) rfl rfl ?_
    refine XS.aloadN X0.here hx rfl (hb hby yt_1) rfl rfl ?_
    refine XS.aloadN X0.here hx rfl (hb hby yt_2) rfl rfl ?_
    refine XS.iloadN X0.here hx rfl (hb hby yt_3) rfl ?_
    refine XS.iconst X0.here hx rfl (hb hby yt_4) ?_
    refine XS.iconst X0.here hx rfl (hb hby yt_5) ?_
    refine XS.bipush X0.here hx rfl (hb hby yt_6) ?_
    refine z8 _ ?_
    show own_Y p e below zl m 11 #[.val (.ref sa442), .val (.int (-1)), .val (.int 1), .val (.int 1), .unset, .unset] [(.int (-1)), (.ref sa442), (.ref sa442)] _
    refine XS.bipush z5.here hx rfl (hb hby yt_11) ?_
    refine za _ ?_
    show own_Y p e below zp m 16 #[.val (.ref sa442), .val (.int (-1)), .val (.int 1), .val (.int 1), .unset, .unset] [(.int (-1)), (.ref sa442)] _
    refine XS.iconst z2.here hx rfl (hb hby yt_16) ?_
    refine XS.iconst z2.here hx rfl (hb hby yt_17) ?_
    refine XS.bipush z2.here hx rfl (hb hby yt_18) ?_
    refine zd _ ?_
    show own_Y p e below zb m 23 #[.val (.ref sa442), .val (.int (-1)), .val (.int 1), .val (.int 1), .unset, .unset] [(.int (-1))] _
    refine XS.istore z0.here hx rfl (hb hby yt_23) rfl (l' := #[.val (.ref sa442), .val (.int (-1)), .val (.int 1), .val (.int 1), .val (.int (-1)), .unset]) rfl ?_
    refine XS.iloadN z0.here hx rfl (hb hby yt_25) rfl ?_
    refine XS.ifYes z0.here hx rfl (pc0 := 26) (pc' := 43) rfl (hb hby yt_26) rfl ((if0 _ _).trans (feq (by decide : ¬ ((1 : Int32) = (0 : Int32)))).2) (by decide) (by decide) ?_
    show own_Y p e below zb m 43 #[.val (.ref sa442), .val (.int (-1)), .val (.int 1), .val (.int 1), .val (.int (-1)), .unset] [] _
    refine XS.aloadN z0.here hx rfl (hb hby yt_43) rfl rfl ?_
    refine XS.aloadN z0.here hx rfl (hb hby yt_44) rfl rfl ?_
    refine XS.iload z0.here hx rfl (hb hby yt_45) rfl ?_
    refine XS.bipush z0.here hx rfl (hb hby yt_47) ?_
    refine zf _ ?_
    show own_Y p e below zw m 52 #[.val (.ref sa442), .val (.int (-1)), .val (.int 1), .val (.int 1), .val (.int (-1)), .unset] [(.int (-1)), (.ref sa442)] _
    refine XS.iconst z3.here hx rfl (hb hby yt_52) ?_
    refine XS.iconst z3.here hx rfl (hb hby yt_53) ?_
    refine XS.bipush z3.here hx rfl (hb hby yt_54) ?_
    refine zi _ ?_
    show own_Y p e below zg m 59 #[.val (.ref sa442), .val (.int (-1)), .val (.int 1), .val (.int 1), .val (.int (-1)), .unset] [(.int (-1))] _
    refine XS.istore z1.here hx rfl (hb hby yt_59) rfl (l' := #[.val (.ref sa442), .val (.int (-1)), .val (.int 1), .val (.int 1), .val (.int (-1)), .unset]) rfl ?_
    refine XS.iloadN z1.here hx rfl (hb hby yt_61) rfl ?_
    refine XS.ifNo z1.here hx rfl (hb hby yt_62) rfl ((if0 _ _).trans (feq (by decide : ¬ ((1 : Int32) = (0 : Int32)))).1) ?_
    show own_Y p e below zg m 65 #[.val (.ref sa442), .val (.int (-1)), .val (.int 1), .val (.int 1), .val (.int (-1)), .unset] [] _
    refine XS.aloadN z1.here hx rfl (hb hby yt_65) rfl rfl ?_
    refine XS.iload z1.here hx rfl (hb hby yt_66) rfl ?_
    refine XS.bipush z1.here hx rfl (hb hby yt_68) ?_
    refine zk _ ?_
    show own_Y p e below z6 m 73 #[.val (.ref sa442), .val (.int (-1)), .val (.int 1), .val (.int 1), .val (.int (-1)), .unset] [(.int 0)] _
    refine XS.ifNo z4.here hx rfl (hb hby yt_73) rfl ((if0 _ _).trans (teq (by decide : (0 : Int32) = (0 : Int32))).2) ?_
    show own_Y p e below z6 m 76 #[.val (.ref sa442), .val (.int (-1)), .val (.int 1), .val (.int 1), .val (.int (-1)), .unset] [] _
    refine XS.iload z4.here hx rfl (hb hby yt_76) rfl ?_
    exact retI z4 hx Bd.returns (hb hby yt_78) hr
  · show PQ (some (.int (-1))) h0 n0 _ z6.heap _
    rw [z14]
    exact ⟨rfl, z15, rfl⟩
theorem ye_339 : decode prog_40_method_7_code 339 = .ok (.aload_n 1, 1) := by decide +kernel
theorem ye_340 : decode prog_40_method_7_code 340 = .ok (.aload_n 1, 1) := by decide +kernel
theorem ye_341 : decode prog_40_method_7_code 341 = .ok (.invokestatic 158, 3) := by decide +kernel
theorem ye_344 : decode prog_40_method_7_code 344 = .ok (.iconst 1, 1) := by decide +kernel
theorem ye_345 : decode prog_40_method_7_code 345 = .ok (.iconst 1, 1) := by decide +kernel
theorem ye_346 : decode prog_40_method_7_code 346 = .ok (.invokestatic 161, 3) := by decide +kernel
theorem ye_349 : decode prog_40_method_7_code 349 = .ok (.iload_n 2, 1) := by decide +kernel
theorem ye_350 : decode prog_40_method_7_code 350 = .ok (.if_icmp .ne 7, 3) := by decide +kernel
theorem ye_357 : decode prog_40_method_7_code 357 = .ok (.iconst 0, 1) := by decide +kernel
theorem ye_358 : decode prog_40_method_7_code 358 = .ok (.goto 68, 3) := by decide +kernel
theorem rm69 (l : Launch) (Z : State) (a0 : Array Value) (hw : ∀ d ∈ tables_1, d.before a0 Z = true) (ws : List Jvm.Cond) (h0 : Heap) (n0 : Nat) (p1 : Int32) (A : Nat → Addr) (K : Nat → ClassId) (cs : Int32) (ta : Addr) (tj : Int32)  (sb442 : Addr) (sa442 : Addr) (kc442 : ClassId) (EN : own_St Z A K cs) (gE : Exa Z Z.heap ta y_s1) (gF : Fld Z Z.heap ta y_s3 "ordinal" "I" (.int tj)) (gj : tj = (22 : Int32)) (OL0 : Old Z n0 h0) (z5 : Exa Z h0 sa442 y_s2) (z7 : Fld Z h0 sa442 y_s2 "value" "[B" (.ref sb442)) (z8 : Arv Z h0 sb442 kc442 .byte (2 : Int32) [(.int 48), (.int 48)] (.int 0)) (z9 : Fld Z h0 sa442 y_s2 "coder" "B" (.int 0)) :
    own_MF l Z own_m0 prog_40_method_7_code 3 (some .boolean) ws (Room.mk 6 0 0 86) #[(.ref ta), (.ref sa442)] h0 (PQ (some (.int 0)) h0 n0) := by
  refine MetFree.of_bodySF (plainFor_of_name own_pn6) hisR ?_
  intro p e s m args below meth c s₁ Bd hml0 hP hK
  obtain ⟨rfl, hZ, hh⟩ := hP
  have hx := Bd.exec
  have hby := Bd.bytes
  have hml : c.maxLocals = 3 := hml0
  have hown : s.vm.findClass y_s1 = some m.cls := findClass_of_methodNamed Bd.named
  have hnm := (name_of_methodNamed Bd.named Bd.method).1
  have X0 : Stand p l e (Room.mk 6 0 0 86) s m #[(.ref ta), (.ref sa442)] below meth c s₁ [] 0 0 := Stand.of_body Bd
  have e0 : s₁.heap = h0 := by rw [← hh, Bd.state]; rfl
  have N0 := Fr.nil n0
  have pre0 : own_P p e below s₁ m 0 #[.val (.ref ta), .val (.ref sa442), .unset] [] s₁ #[(.ref ta), (.ref sa442)] 3 := fun t k => castTop (by first | (simp [entryFrame, mkF, argsToLocals, Value.category, maxLocals]; done) | rfl) k
  have KK0 : Keep h0 h0 [] := Keep.refl _ _
  obtain ⟨cq443, kq443, zk, z10, zl⟩ := isOf hZ e0 z5
  obtain ⟨_, _, ⟨za, L443, z11, n443⟩, -, z1, ⟨Lc443, zb, l443, y443, z443⟩, zc⟩ := X0.virtualBack hx (y := own_m1) (z := own_m1) hown (mvT hZ (own_W hw 21 rfl)) (mvT hZ (own_W hw 22 rfl)) (notFace_of_selects (args := #[]) (mvT hZ (own_W hw 24 rfl))) (mvT hZ (own_W hw 24 rfl)) (mvT hZ (own_W hw 23 rfl)) (by decide) (backOf (W := 0) (rm2 l Z a0 hw [] h0 n0 p1 A K cs sb442 sa442 kc442 EN OL0 z7 z8 z5 z9) hZ (own_W hw 25 rfl) (own_W hw 9 rfl) (by decide) (by decide)) zk zl (g := (mkF m 1 #[.val (.ref ta), .val (.ref sa442), .unset] [(.ref sa442)])) rfl (by rw [hml]; rfl) (Steps.refl _) (argsL := []) (rest := []) (lenOf own_pd2 rfl) rfl (by show 2 * 0 + _ ≤ _; exact Nat.le_of_eq rfl) (hb hby ye_1) (fun _ _ => ⟨rfl, e0, (by decide : 0 + 0 ≤ _), (by decide : 0 + 0 ≤ _)⟩)
  dsimp only [Pt.U, Pt.locs, Pt.cells, Pt.slots] at z1 l443 y443 z443 zc zb
  replace z1 := own_sub z1 l443 y443 z443
  obtain ⟨rfl, zm, zd⟩ := zb
  have zn := Fr.app N0 zm
  obtain ⟨cq444, kq444, zo, z12, zp⟩ := isOf hZ zd (gE.ext OL0.2)
  obtain ⟨_, _, ⟨z4, L444, z13, n444⟩, -, z2, ⟨Lc444, ze, l444, y444, z444⟩, zf⟩ := z1.virtualBackUp hx (x := own_m8) (y := own_m7) (owner := y_s3) hown (mvT hZ (own_W hw 34 rfl)) (mvT hZ (own_W hw 35 rfl)) (mvT hZ (own_W hw 36 rfl)) (by decide) (mvT hZ (own_W hw 38 rfl)) (mvT hZ (own_W hw 37 rfl)) (backOf (W := 0) (rm4 l Z a0 hw [] h0 n0 p1 A K cs ta tj EN gE gF OL0) hZ (own_W hw 40 rfl) (own_W hw 39 rfl) (by decide) (by decide)) zo zp (g := (mkF m 12 #[.val (.ref ta), .val (.ref sa442), .val (.int 2)] [(.ref ta)])) rfl (by rw [hml]; rfl) (Steps.refl _) (argsL := []) (rest := []) (lenOf own_pd2 rfl) rfl (by show 2 * 0 + _ ≤ _; exact Nat.le_of_eq rfl) (hb hby ye_12) (fun _ _ => ⟨rfl, zd, (by decide : 0 + 0 ≤ _), (by decide : 0 + 0 ≤ _)⟩)
  dsimp only [Pt.U, Pt.locs, Pt.cells, Pt.slots] at z2 l444 y444 z444 zf ze
  replace z2 := own_sub z2 l444 y444 z444
  obtain ⟨rfl, zq, zr⟩ := ze
  have zs := Fr.app zn zq
  have ts445 : ∀ t, Steps p.tables e below (z4.setTop (mkF m 339 #[.val (.ref ta), .val (.ref sa442), .val (.int 2)] [])) t → Steps p.tables e below (z4.setTop (mkF m 15 #[.val (.ref ta), .val (.ref sa442), .val (.int 2)] [(.int tj)])) t := by
    intro t k
    rcases gj with rfl <;> exact XS.tswIn z2.here hx rfl (pc0 := 15) (pc' := 339) rfl (hb hby ye_15) rfl (by decide) (o := 324) (by decide) (by decide) (by decide) k
  obtain ⟨_, _, ⟨zt, L449, z14, n449⟩, -, z3, ⟨Lc449, zg, l449, y449, z449⟩, zh⟩ := Jvm.LawKit.callS z2 hx (y := own_m28) hown (mvT hZ (own_W hw 189 rfl)) (mvT hZ (own_W hw 190 rfl)) (mvT hZ (own_W hw 6 rfl)) (mvT hZ (own_W hw 191 rfl)) (by decide) (backOf (W := 1) (rm70 l Z a0 hw [] h0 n0 p1 A K cs sb442 sa442 kc442 EN OL0 z5 z7 z8 z9) hZ (own_W hw 191 rfl) (own_W hw 6 rfl) (by decide) (by decide)) (g := (mkF m 341 #[.val (.ref ta), .val (.ref sa442), .val (.int 2)] [(.ref sa442), (.ref sa442)])) rfl (by rw [hml]; rfl) (argsL := [(.ref sa442)]) (rest := [(.ref sa442)]) (lenOf own_pd15 rfl) rfl (by show 2 * 0 + _ ≤ _; exact Nat.le_of_eq rfl) (hb hby ye_341) (fun _ _ => ⟨rfl, zr, (by decide : 0 + 0 ≤ _), (by decide : 0 + 0 ≤ _)⟩)
  dsimp only [Pt.U, Pt.locs, Pt.cells, Pt.slots] at z3 l449 y449 z449 zh zg
  replace z3 := own_sub z3 l449 y449 z449
  obtain ⟨rfl, zu, zv⟩ := zg
  have zw := Fr.app zs zu
  obtain ⟨_, _, ⟨z6, L457, z15, n457⟩, -, z0, ⟨Lc457, zi, l457, y457, z457⟩, zj⟩ := Jvm.LawKit.callS z3 hx (y := own_m14) hown (mvT hZ (own_W hw 142 rfl)) (mvT hZ (own_W hw 143 rfl)) (mvT hZ (own_W hw 6 rfl)) (mvT hZ (own_W hw 144 rfl)) (by decide) (backOf (W := 0) (rm73 l Z a0 hw [] h0 n0 p1 A K cs sa442 EN OL0) hZ (own_W hw 144 rfl) (own_W hw 6 rfl) (by decide) (by decide)) (g := (mkF m 346 #[.val (.ref ta), .val (.ref sa442), .val (.int 2)] [(.int 1), (.int 1), (.int (-1)), (.ref sa442)])) rfl (by rw [hml]; rfl) (argsL := [(.ref sa442), (.int (-1)), (.int 1), (.int 1)]) (rest := []) (lenOf own_pd20 rfl) rfl (by show 2 * 0 + _ ≤ _; exact Nat.le_of_eq rfl) (hb hby ye_346) (fun _ _ => ⟨rfl, zv, (by decide : 0 + 0 ≤ _), (by decide : 0 + 0 ≤ _)⟩)
  dsimp only [Pt.U, Pt.locs, Pt.cells, Pt.slots] at z0 l457 y457 z457 zj zi
  replace z0 := own_sub z0 l457 y457 z457
  obtain ⟨rfl, zx, zy⟩ := zi
  have zz := Fr.app zw zx
  obtain ⟨fs, hr, hrun, hended, hW, hsame⟩ := z0.leave (v := some (.int 0)) (fun h => by rw [Bd.returns] at h; cases h)
  refine ⟨_, _, pre0 _ ?_, hrun, hended, _, _, rfl, ?_, ⟨_, rfl⟩, hW, hsame.mono (by decide) (by decide)⟩
  · show own_Y p e below s₁ m 0 #[.val (.ref ta), .val (.ref sa442), .unset] [] _
    refine XS.aloadN X0.here hx rfl (hb hby ye_0) rfl rfl ?_
    refine zc.trans ?_
    show own_Y p e below za m 4 #[.val (.ref ta), .val (.ref sa442), .unset] [(.int 2)] _
    refine XS.istoreN z1.here hx rfl (hb hby ye_4) rfl (l' := #[.val (.ref ta), .val (.ref sa442), .val (.int 2)]) rfl ?_
    refine XS.iloadN z1.here hx rfl (hb hby ye_5) rfl ?_
    refine XS.ifYes z1.here hx rfl (pc0 := 6) (pc' := 11) rfl (hb hby ye_6) rfl ((if0 _ _).trans (feq (by decide : ¬ ((2 : Int32) = (0 : Int32)))).2) (by decide) (by decide) ?_
    show own_Y p e below za m 11 #[.val (.ref ta), .val (.ref sa442), .val (.int 2)] [] _
    refine XS.aloadN z1.here hx rfl (hb hby ye_11) rfl rfl ?_
    refine zf.trans ?_
    show own_Y p e below z4 m 15 #[.val (.ref ta), .val (.ref sa442), .val (.int 2)] [(.int tj)] _
    refine ts445 _ ?_
    show own_Y p e below z4 m 339 #[.val (.ref ta), .val (.ref sa442), .val (.int 2)] [] _
    refine XS.aloadN z2.here hx rfl (hb hby ye_339) rfl rfl ?_
    refine XS.aloadN z2.here hx rfl (hb hby ye_340) rfl rfl ?_
    refine zh _ ?_
    show own_Y p e below zt m 344 #[.val (.ref ta), .val (.ref sa442), .val (.int 2)] [(.int (-1)), (.ref sa442)] _
    refine XS.iconst z3.here hx rfl (hb hby ye_344) ?_
    refine XS.iconst z3.here hx rfl (hb hby ye_345) ?_
    refine zj _ ?_
    show own_Y p e below z6 m 349 #[.val (.ref ta), .val (.ref sa442), .val (.int 2)] [(.int (-1))] _
    refine XS.iloadN z0.here hx rfl (hb hby ye_349) rfl ?_
    refine XS.icmpYes z0.here hx rfl (pc0 := 350) (pc' := 357) rfl (hb hby ye_350) rfl (feq (by decide : ¬ ((-1 : Int32) = (2 : Int32)))).2 (by decide) (by decide) ?_
    show own_Y p e below z6 m 357 #[.val (.ref ta), .val (.ref sa442), .val (.int 2)] [] _
    refine XS.iconst z0.here hx rfl (hb hby ye_357) ?_
    refine XS.goto z0.here hx rfl (pc0 := 358) (pc' := 426) rfl (hb hby ye_358) (by decide) (by decide) ?_
    exact retN z0 hx (t := .boolean) Bd.returns (by simp) (hb hby ye_426) hr
  · show PQ (some (.int 0)) h0 n0 _ z6.heap _
    rw [zy]
    exact ⟨rfl, zz, rfl⟩
theorem yn_16 : decode prog_40_method_9_code 16 = .ok (.iconst 0, 1) := by decide +kernel
theorem yn_17 : decode prog_40_method_9_code 17 = .ok (.istore 5, 2) := by decide +kernel
theorem yn_19 : decode prog_40_method_9_code 19 = .ok (.iload_n 1, 1) := by decide +kernel
theorem yn_20 : decode prog_40_method_9_code 20 = .ok (.istore 6, 2) := by decide +kernel
theorem yn_22 : decode prog_40_method_9_code 22 = .ok (.iload 6, 2) := by decide +kernel
theorem yn_24 : decode prog_40_method_9_code 24 = .ok (.iload_n 1, 1) := by decide +kernel
theorem yn_25 : decode prog_40_method_9_code 25 = .ok (.iload_n 2, 1) := by decide +kernel
theorem yn_26 : decode prog_40_method_9_code 26 = .ok (.iadd, 1) := by decide +kernel
theorem yn_27 : decode prog_40_method_9_code 27 = .ok (.if_icmp .ge 40, 3) := by decide +kernel
theorem yn_30 : decode prog_40_method_9_code 30 = .ok (.aload_n 0, 1) := by decide +kernel
theorem yn_31 : decode prog_40_method_9_code 31 = .ok (.iload 6, 2) := by decide +kernel
theorem yn_33 : decode prog_40_method_9_code 33 = .ok (.invokevirtual 168, 3) := by decide +kernel
theorem yn_36 : decode prog_40_method_9_code 36 = .ok (.invokestatic 172, 3) := by decide +kernel
theorem yn_39 : decode prog_40_method_9_code 39 = .ok (.ifCond .ne 5, 3) := by decide +kernel
theorem yn_44 : decode prog_40_method_9_code 44 = .ok (.iload 5, 2) := by decide +kernel
theorem yn_46 : decode prog_40_method_9_code 46 = .ok (.bipush 10, 2) := by decide +kernel
theorem yn_48 : decode prog_40_method_9_code 48 = .ok (.imul, 1) := by decide +kernel
theorem yn_49 : decode prog_40_method_9_code 49 = .ok (.aload_n 0, 1) := by decide +kernel
theorem yn_50 : decode prog_40_method_9_code 50 = .ok (.iload 6, 2) := by decide +kernel
theorem yn_52 : decode prog_40_method_9_code 52 = .ok (.invokevirtual 168, 3) := by decide +kernel
theorem yn_55 : decode prog_40_method_9_code 55 = .ok (.iadd, 1) := by decide +kernel
theorem yn_56 : decode prog_40_method_9_code 56 = .ok (.bipush 48, 2) := by decide +kernel
theorem yn_58 : decode prog_40_method_9_code 58 = .ok (.isub, 1) := by decide +kernel
theorem yn_59 : decode prog_40_method_9_code 59 = .ok (.istore 5, 2) := by decide +kernel
theorem yn_61 : decode prog_40_method_9_code 61 = .ok (.iinc 6 1, 3) := by decide +kernel
theorem yn_64 : decode prog_40_method_9_code 64 = .ok (.goto (-42), 3) := by decide +kernel
theorem yn_67 : decode prog_40_method_9_code 67 = .ok (.iload 5, 2) := by decide +kernel
theorem yn_69 : decode prog_40_method_9_code 69 = .ok (.iload_n 3, 1) := by decide +kernel
theorem yn_70 : decode prog_40_method_9_code 70 = .ok (.if_icmp .lt 16, 3) := by decide +kernel
theorem yn_73 : decode prog_40_method_9_code 73 = .ok (.iload 5, 2) := by decide +kernel
theorem yn_75 : decode prog_40_method_9_code 75 = .ok (.iload 4, 2) := by decide +kernel
theorem yn_77 : decode prog_40_method_9_code 77 = .ok (.if_icmp .gt 9, 3) := by decide +kernel
theorem yn_80 : decode prog_40_method_9_code 80 = .ok (.iload_n 1, 1) := by decide +kernel
theorem yn_81 : decode prog_40_method_9_code 81 = .ok (.iload_n 2, 1) := by decide +kernel
theorem yn_82 : decode prog_40_method_9_code 82 = .ok (.iadd, 1) := by decide +kernel
theorem yn_83 : decode prog_40_method_9_code 83 = .ok (.goto 4, 3) := by decide +kernel
theorem yn_87 : decode prog_40_method_9_code 87 = .ok (.ireturn, 1) := by decide +kernel
theorem rm82 (l : Launch) (Z : State) (a0 : Array Value) (hw : ∀ d ∈ tables_1, d.before a0 Z = true) (ws : List Jvm.Cond) (h0 : Heap) (n0 : Nat) (p1 : Int32) (A : Nat → Addr) (K : Nat → ClassId) (cs : Int32)  (sb462 : Addr) (sa462 : Addr) (kc462 : ClassId) (EN : own_St Z A K cs) (OL0 : Old Z n0 h0) (z3 : Exa Z h0 sa462 y_s2) (z8 : Fld Z h0 sa462 y_s2 "value" "[B" (.ref sb462)) (z9 : Arv Z h0 sb462 kc462 .byte (2 : Int32) [(.int 48), (.int 48)] (.int 0)) (za : Fld Z h0 sa462 y_s2 "coder" "B" (.int 0)) :
    own_MF l Z own_m6 prog_40_method_9_code 7 (some .int) ws (Room.mk 4 0 0 54) #[(.ref sa462), (.int 0), (.int 2), (.int 0), (.int 23)] h0 (PQ (some (.int 2)) h0 n0) := by
  refine MetFree.of_bodySF (plainFor_of_name own_pn6) hisR ?_
  intro p e s m args below meth c s₁ Bd hml0 hP hK
  obtain ⟨rfl, hZ, hh⟩ := hP
  have hx := Bd.exec
  have hby := Bd.bytes
  have hml : c.maxLocals = 7 := hml0
  have hown : s.vm.findClass y_s1 = some m.cls := findClass_of_methodNamed Bd.named
  have hnm := (name_of_methodNamed Bd.named Bd.method).1
  have X0 : Stand p l e (Room.mk 4 0 0 54) s m #[(.ref sa462), (.int 0), (.int 2), (.int 0), (.int 23)] below meth c s₁ [] 0 0 := Stand.of_body Bd
  have e0 : s₁.heap = h0 := by rw [← hh, Bd.state]; rfl
  have N0 := Fr.nil n0
  have pre0 : own_P p e below s₁ m 0 #[.val (.ref sa462), .val (.int 0), .val (.int 2), .val (.int 0), .val (.int 23), .unset, .unset] [] s₁ #[(.ref sa462), (.int 0), (.int 2), (.int 0), (.int 23)] 7 := fun t k => castTop (by first | (simp [entryFrame, mkF, argsToLocals, Value.category, maxLocals]; done) | rfl) k
  have KK0 : Keep h0 h0 [] := Keep.refl _ _
  obtain ⟨cq466, kq466, zy, z1r, zz⟩ := isOf hZ e0 z3
  obtain ⟨_, _, ⟨zb, L466, z1s, n466⟩, -, z2, ⟨Lc466, zg, l466, y466, z466⟩, zh⟩ := X0.virtualBack hx (y := own_m1) (z := own_m1) hown (mvT hZ (own_W hw 21 rfl)) (mvT hZ (own_W hw 22 rfl)) (notFace_of_selects (args := #[]) (mvT hZ (own_W hw 24 rfl))) (mvT hZ (own_W hw 24 rfl)) (mvT hZ (own_W hw 23 rfl)) (by decide) (backOf (W := 1) (rm2 l Z a0 hw [] h0 n0 p1 A K cs sb462 sa462 kc462 EN OL0 z8 z9 z3 za) hZ (own_W hw 25 rfl) (own_W hw 9 rfl) (by decide) (by decide)) zy zz (g := (mkF m 8 #[.val (.ref sa462), .val (.int 0), .val (.int 2), .val (.int 0), .val (.int 23), .unset, .unset] [(.ref sa462), (.int 2)])) rfl (by rw [hml]; rfl) (Steps.refl _) (argsL := []) (rest := [(.int 2)]) (lenOf own_pd2 rfl) rfl (by show 2 * 0 + _ ≤ _; exact Nat.le_of_eq rfl) (hb hby yn_8) (fun _ _ => ⟨rfl, e0, (by decide : 0 + 0 ≤ _), (by decide : 0 + 0 ≤ _)⟩)
  dsimp only [Pt.U, Pt.locs, Pt.cells, Pt.slots] at z2 l466 y466 z466 zh zg
  replace z2 := own_sub z2 l466 y466 z466
  obtain ⟨rfl, z10, zi⟩ := zg
  have z11 := Fr.app N0 z10
  obtain ⟨cq467, kq467, z12, z1t, z13⟩ := isOf hZ zi z3
  obtain ⟨_, _, ⟨z14, L467, z1u, n467⟩, -, zc, ⟨Lc467, zj, l467, y467, z467⟩, zk⟩ := z2.virtualBack hx (y := own_m3) (z := own_m3) hown (mvT hZ (own_W hw 62 rfl)) (mvT hZ (own_W hw 63 rfl)) (notFace_of_selects (args := #[]) (mvT hZ (own_W hw 65 rfl))) (mvT hZ (own_W hw 65 rfl)) (mvT hZ (own_W hw 64 rfl)) (by decide) (backOf (W := 0) (rm10 l Z a0 hw [] h0 n0 p1 A K cs sb462 sa462 kc462 EN OL0 z3 za z8 z9) hZ (own_W hw 66 rfl) (own_W hw 9 rfl) (by decide) (by decide)) z12 z13 (g := (mkF m 33 #[.val (.ref sa462), .val (.int 0), .val (.int 2), .val (.int 0), .val (.int 23), .val (.int 0), .val (.int 0)] [(.int 0), (.ref sa462)])) rfl (by rw [hml]; rfl) (Steps.refl _) (argsL := [(.int 0)]) (rest := []) (lenOf own_pd10 rfl) rfl (by show 2 * 0 + _ ≤ _; exact Nat.le_of_eq rfl) (hb hby yn_33) (fun _ _ => ⟨rfl, zi, (by decide : 0 + 0 ≤ _), (by decide : 0 + 0 ≤ _)⟩)
  dsimp only [Pt.U, Pt.locs, Pt.cells, Pt.slots] at zc l467 y467 z467 zk zj
  replace zc := own_sub zc l467 y467 z467
  obtain ⟨rfl, z15, z16⟩ := zj
  have z17 := Fr.app z11 z15
  obtain ⟨_, _, ⟨ze, L468, z1v, n468⟩, -, z4, ⟨Lc468, zl, l468, y468, z468⟩, zm⟩ := Jvm.LawKit.callS zc hx (y := own_m21) hown (mvT hZ (own_W hw 84 rfl)) (mvT hZ (own_W hw 85 rfl)) (mvT hZ (own_W hw 6 rfl)) (mvT hZ (own_W hw 86 rfl)) (by decide) (backOf (W := 0) (rm16 l Z a0 hw [] h0 n0 p1 A K cs EN OL0) hZ (own_W hw 86 rfl) (own_W hw 6 rfl) (by decide) (by decide)) (g := (mkF m 36 #[.val (.ref sa462), .val (.int 0), .val (.int 2), .val (.int 0), .val (.int 23), .val (.int 0), .val (.int 0)] [(.int 48)])) rfl (by rw [hml]; rfl) (argsL := [(.int 48)]) (rest := []) (lenOf own_pd11 rfl) rfl (by show 2 * 0 + _ ≤ _; exact Nat.le_of_eq rfl) (hb hby yn_36) (fun _ _ => ⟨rfl, z16, (by decide : 0 + 0 ≤ _), (by decide : 0 + 0 ≤ _)⟩)
  dsimp only [Pt.U, Pt.locs, Pt.cells, Pt.slots] at z4 l468 y468 z468 zm zl
  replace z4 := own_sub z4 l468 y468 z468
  obtain ⟨rfl, z18, zn⟩ := zl
  have z19 := Fr.app z17 z18
  obtain ⟨cq469, kq469, z1a, z1w, z1b⟩ := isOf hZ zn z3
  obtain ⟨_, _, ⟨z7, L469, z1x, n469⟩, -, z1, ⟨Lc469, zo, l469, y469, z469⟩, zp⟩ := z4.virtualBack hx (y := own_m3) (z := own_m3) hown (mvT hZ (own_W hw 62 rfl)) (mvT hZ (own_W hw 63 rfl)) (notFace_of_selects (args := #[]) (mvT hZ (own_W hw 65 rfl))) (mvT hZ (own_W hw 65 rfl)) (mvT hZ (own_W hw 64 rfl)) (by decide) (backOf (W := 1) (rm10 l Z a0 hw [] h0 n0 p1 A K cs sb462 sa462 kc462 EN OL0 z3 za z8 z9) hZ (own_W hw 66 rfl) (own_W hw 9 rfl) (by decide) (by decide)) z1a z1b (g := (mkF m 52 #[.val (.ref sa462), .val (.int 0), .val (.int 2), .val (.int 0), .val (.int 23), .val (.int 0), .val (.int 0)] [(.int 0), (.ref sa462), (.int 0)])) rfl (by rw [hml]; rfl) (Steps.refl _) (argsL := [(.int 0)]) (rest := [(.int 0)]) (lenOf own_pd10 rfl) rfl (by show 2 * 0 + _ ≤ _; exact Nat.le_of_eq rfl) (hb hby yn_52) (fun _ _ => ⟨rfl, zn, (by decide : 0 + 0 ≤ _), (by decide : 0 + 0 ≤ _)⟩)
  dsimp only [Pt.U, Pt.locs, Pt.cells, Pt.slots] at z1 l469 y469 z469 zp zo
  replace z1 := own_sub z1 l469 y469 z469
  obtain ⟨rfl, z1c, zq⟩ := zo
  have z1d := Fr.app z19 z1c
  obtain ⟨cq470, kq470, z1e, z1y, z1f⟩ := isOf hZ zq z3
  obtain ⟨_, _, ⟨z1g, L470, z1z, n470⟩, -, zd, ⟨Lc470, zr, l470, y470, z470⟩, zs⟩ := z1.virtualBack hx (y := own_m3) (z := own_m3) hown (mvT hZ (own_W hw 62 rfl)) (mvT hZ (own_W hw 63 rfl)) (notFace_of_selects (args := #[]) (mvT hZ (own_W hw 65 rfl))) (mvT hZ (own_W hw 65 rfl)) (mvT hZ (own_W hw 64 rfl)) (by decide) (backOf (W := 0) (rm17 l Z a0 hw [] h0 n0 p1 A K cs sb462 sa462 kc462 EN OL0 z3 za z8 z9) hZ (own_W hw 66 rfl) (own_W hw 9 rfl) (by decide) (by decide)) z1e z1f (g := (mkF m 33 #[.val (.ref sa462), .val (.int 0), .val (.int 2), .val (.int 0), .val (.int 23), .val (.int 0), .val (.int 1)] [(.int 1), (.ref sa462)])) rfl (by rw [hml]; rfl) (Steps.refl _) (argsL := [(.int 1)]) (rest := []) (lenOf own_pd10 rfl) rfl (by show 2 * 0 + _ ≤ _; exact Nat.le_of_eq rfl) (hb hby yn_33) (fun _ _ => ⟨rfl, zq, (by decide : 0 + 0 ≤ _), (by decide : 0 + 0 ≤ _)⟩)
  dsimp only [Pt.U, Pt.locs, Pt.cells, Pt.slots] at zd l470 y470 z470 zs zr
  replace zd := own_sub zd l470 y470 z470
  obtain ⟨rfl, z1h, z1i⟩ := zr
  have z1j := Fr.app z1d z1h
  obtain ⟨_, _, ⟨zf, L471, z20, n471⟩, -, z5, ⟨Lc471, zt, l471, y471, z471⟩, zu⟩ := Jvm.LawKit.callS zd hx (y := own_m21) hown (mvT hZ (own_W hw 84 rfl)) (mvT hZ (own_W hw 85 rfl)) (mvT hZ (own_W hw 6 rfl)) (mvT hZ (own_W hw 86 rfl)) (by decide) (backOf (W := 0) (rm16 l Z a0 hw [] h0 n0 p1 A K cs EN OL0) hZ (own_W hw 86 rfl) (own_W hw 6 rfl) (by decide) (by decide)) (g := (mkF m 36 #[.val (.ref sa462), .val (.int 0), .val (.int 2), .val (.int 0), .val (.int 23), .val (.int 0), .val (.int 1)] [(.int 48)])) rfl (by rw [hml]; rfl) (argsL := [(.int 48)]) (rest := []) (lenOf own_pd11 rfl) rfl (by show 2 * 0 + _ ≤ _; exact Nat.le_of_eq rfl) (hb hby yn_36) (fun _ _ => ⟨rfl, z1i, (by decide : 0 + 0 ≤ _), (by decide : 0 + 0 ≤ _)⟩)
  dsimp only [Pt.U, Pt.locs, Pt.cells, Pt.slots] at z5 l471 y471 z471 zu zt
  replace z5 := own_sub z5 l471 y471 z471
  obtain ⟨rfl, z1k, zv⟩ := zt
  have z1l := Fr.app z1j z1k
  obtain ⟨cq472, kq472, z1m, z21, z1n⟩ := isOf hZ zv z3
  obtain ⟨_, _, ⟨z6, L472, z22, n472⟩, -, z0, ⟨Lc472, zw, l472, y472, z472⟩, zx⟩ := z5.virtualBack hx (y := own_m3) (z := own_m3) hown (mvT hZ (own_W hw 62 rfl)) (mvT hZ (own_W hw 63 rfl)) (notFace_of_selects (args := #[]) (mvT hZ (own_W hw 65 rfl))) (mvT hZ (own_W hw 65 rfl)) (mvT hZ (own_W hw 64 rfl)) (by decide) (backOf (W := 1) (rm17 l Z a0 hw [] h0 n0 p1 A K cs sb462 sa462 kc462 EN OL0 z3 za z8 z9) hZ (own_W hw 66 rfl) (own_W hw 9 rfl) (by decide) (by decide)) z1m z1n (g := (mkF m 52 #[.val (.ref sa462), .val (.int 0), .val (.int 2), .val (.int 0), .val (.int 23), .val (.int 0), .val (.int 1)] [(.int 1), (.ref sa462), (.int 0)])) rfl (by rw [hml]; rfl) (Steps.refl _) (argsL := [(.int 1)]) (rest := [(.int 0)]) (lenOf own_pd10 rfl) rfl (by show 2 * 0 + _ ≤ _; exact Nat.le_of_eq rfl) (hb hby yn_52) (fun _ _ => ⟨rfl, zv, (by decide : 0 + 0 ≤ _), (by decide : 0 + 0 ≤ _)⟩)
  dsimp only [Pt.U, Pt.locs, Pt.cells, Pt.slots] at z0 l472 y472 z472 zx zw
  replace z0 := own_sub z0 l472 y472 z472
  obtain ⟨rfl, z1o, z1p⟩ := zw
  have z1q := Fr.app z1l z1o
  obtain ⟨fs, hr, hrun, hended, hW, hsame⟩ := z0.leave (v := some (.int 2)) (fun h => by rw [Bd.returns] at h; cases h)
  refine ⟨_, _, pre0 _ ?_, hrun, hended, _, _, rfl, ?_, ⟨_, rfl⟩, hW, hsame.mono (by decide) (by decide)⟩
  · show own_Y p e below s₁ m 0 #[.val (.ref sa462), .val (.int 0), .val (.int 2), .val (.int 0), .val (.int 23), .unset, .unset] [] _
    refine XS.iloadN X0.here hx rfl (hb hby yn_0) rfl ?_
    refine XS.ifNo X0.here hx rfl (hb hby yn_1) rfl ((if0 _ _).trans (flt (by decide : ¬ ((0 : Int32) < (0 : Int32)))).1) ?_
    show own_Y p e below s₁ m 4 #[.val (.ref sa462), .val (.int 0), .val (.int 2), .val (.int 0), .val (.int 23), .unset, .unset] [] _
    refine XS.iloadN X0.here hx rfl (hb hby yn_4) rfl ?_
    refine XS.iloadN X0.here hx rfl (hb hby yn_5) rfl ?_
    refine XS.iadd X0.here hx rfl (hb hby yn_6) rfl ?_
    show own_Y p e below s₁ m 7 #[.val (.ref sa462), .val (.int 0), .val (.int 2), .val (.int 0), .val (.int 23), .unset, .unset] [(.int 2)] _
    refine XS.aloadN X0.here hx rfl (hb hby yn_7) rfl rfl ?_
    refine zh.trans ?_
    show own_Y p e below zb m 11 #[.val (.ref sa462), .val (.int 0), .val (.int 2), .val (.int 0), .val (.int 23), .unset, .unset] [(.int 2), (.int 2)] _
    refine XS.icmpYes z2.here hx rfl (pc0 := 11) (pc' := 16) rfl (hb hby yn_11) rfl (flt (by decide : ¬ ((2 : Int32) < (2 : Int32)))).2.2.2 (by decide) (by decide) ?_
    show own_Y p e below zb m 16 #[.val (.ref sa462), .val (.int 0), .val (.int 2), .val (.int 0), .val (.int 23), .unset, .unset] [] _
    refine XS.iconst z2.here hx rfl (hb hby yn_16) ?_
    refine XS.istore z2.here hx rfl (hb hby yn_17) rfl (l' := #[.val (.ref sa462), .val (.int 0), .val (.int 2), .val (.int 0), .val (.int 23), .val (.int 0), .unset]) rfl ?_
    refine XS.iloadN z2.here hx rfl (hb hby yn_19) rfl ?_
    refine XS.istore z2.here hx rfl (hb hby yn_20) rfl (l' := #[.val (.ref sa462), .val (.int 0), .val (.int 2), .val (.int 0), .val (.int 23), .val (.int 0), .val (.int 0)]) rfl ?_
    refine XS.iload z2.here hx rfl (hb hby yn_22) rfl ?_
    refine XS.iloadN z2.here hx rfl (hb hby yn_24) rfl ?_
    refine XS.iloadN z2.here hx rfl (hb hby yn_25) rfl ?_
    refine XS.iadd z2.here hx rfl (hb hby yn_26) rfl ?_
    show own_Y p e below zb m 27 #[.val (.ref sa462), .val (.int 0), .val (.int 2), .val (.int 0), .val (.int 23), .val (.int 0), .val (.int 0)] [(.int 2), (.int 0)] _
    refine XS.icmpNo z2.here hx rfl (hb hby yn_27) rfl (tlt (by decide : (0 : Int32) < (2 : Int32))).2.1 ?_
    show own_Y p e below zb m 30 #[.val (.ref sa462), .val (.int 0), .val (.int 2), .val (.int 0), .val (.int 23), .val (.int 0), .val (.int 0)] [] _
    refine XS.aloadN z2.here hx rfl (hb hby yn_30) rfl rfl ?_
    refine XS.iload z2.here hx rfl (hb hby yn_31) rfl ?_
    refine zk.trans ?_
    show own_Y p e below z14 m 36 #[.val (.ref sa462), .val (.int 0), .val (.int 2), .val (.int 0), .val (.int 23), .val (.int 0), .val (.int 0)] [(.int 48)] _
    refine zm _ ?_
    show own_Y p e below ze m 39 #[.val (.ref sa462), .val (.int 0), .val (.int 2), .val (.int 0), .val (.int 23), .val (.int 0), .val (.int 0)] [(.int 1)] _
    refine XS.ifYes z4.here hx rfl (pc0 := 39) (pc' := 44) rfl (hb hby yn_39) rfl ((if0 _ _).trans (feq (by decide : ¬ ((1 : Int32) = (0 : Int32)))).2) (by decide) (by decide) ?_
    show own_Y p e below ze m 44 #[.val (.ref sa462), .val (.int 0), .val (.int 2), .val (.int 0), .val (.int 23), .val (.int 0), .val (.int 0)] [] _
    refine XS.iload z4.here hx rfl (hb hby yn_44) rfl ?_
    refine XS.bipush z4.here hx rfl (hb hby yn_46) ?_
    refine XS.imul z4.here hx rfl (hb hby yn_48) rfl ?_
    show own_Y p e below ze m 49 #[.val (.ref sa462), .val (.int 0), .val (.int 2), .val (.int 0), .val (.int 23), .val (.int 0), .val (.int 0)] [(.int 0)] _
    refine XS.aloadN z4.here hx rfl (hb hby yn_49) rfl rfl ?_
    refine XS.iload z4.here hx rfl (hb hby yn_50) rfl ?_
    refine zp.trans ?_
    show own_Y p e below z7 m 55 #[.val (.ref sa462), .val (.int 0), .val (.int 2), .val (.int 0), .val (.int 23), .val (.int 0), .val (.int 0)] [(.int 48), (.int 0)] _
    refine XS.iadd z1.here hx rfl (hb hby yn_55) rfl ?_
    show own_Y p e below z7 m 56 #[.val (.ref sa462), .val (.int 0), .val (.int 2), .val (.int 0), .val (.int 23), .val (.int 0), .val (.int 0)] [(.int 48)] _
    refine XS.bipush z1.here hx rfl (hb hby yn_56) ?_
    refine XS.isub z1.here hx rfl (hb hby yn_58) rfl ?_
    show own_Y p e below z7 m 59 #[.val (.ref sa462), .val (.int 0), .val (.int 2), .val (.int 0), .val (.int 23), .val (.int 0), .val (.int 0)] [(.int 0)] _
    refine XS.istore z1.here hx rfl (hb hby yn_59) rfl (l' := #[.val (.ref sa462), .val (.int 0), .val (.int 2), .val (.int 0), .val (.int 23), .val (.int 0), .val (.int 0)]) rfl ?_
    refine XS.iinc z1.here hx rfl (hb hby yn_61) rfl (l' := #[.val (.ref sa462), .val (.int 0), .val (.int 2), .val (.int 0), .val (.int 23), .val (.int 0), .val (.int 1)]) rfl ?_
    show own_Y p e below z7 m 64 #[.val (.ref sa462), .val (.int 0), .val (.int 2), .val (.int 0), .val (.int 23), .val (.int 0), .val (.int 1)] [] _
    refine XS.goto z1.here hx rfl (pc0 := 64) (pc' := 22) rfl (hb hby yn_64) (by decide) (by decide) ?_
    refine XS.iload z1.here hx rfl (hb hby yn_22) rfl ?_
    refine XS.iloadN z1.here hx rfl (hb hby yn_24) rfl ?_
    refine XS.iloadN z1.here hx rfl (hb hby yn_25) rfl ?_
    refine XS.iadd z1.here hx rfl (hb hby yn_26) rfl ?_
    show own_Y p e below z7 m 27 #[.val (.ref sa462), .val (.int 0), .val (.int 2), .val (.int 0), .val (.int 23), .val (.int 0), .val (.int 1)] [(.int 2), (.int 1)] _
    refine XS.icmpNo z1.here hx rfl (hb hby yn_27) rfl (tlt (by decide : (1 : Int32) < (2 : Int32))).2.1 ?_
    show own_Y p e below z7 m 30 #[.val (.ref sa462), .val (.int 0), .val (.int 2), .val (.int 0), .val (.int 23), .val (.int 0), .val (.int 1)] [] _
    refine XS.aloadN z1.here hx rfl (hb hby yn_30) rfl rfl ?_
    refine XS.iload z1.here hx rfl (hb hby yn_31) rfl ?_
    refine zs.trans ?_
    show own_Y p e below z1g m 36 #[.val (.ref sa462), .val (.int 0), .val (.int 2), .val (.int 0), .val (.int 23), .val (.int 0), .val (.int 1)] [(.int 48)] _
    refine zu _ ?_
    show own_Y p e below zf m 39 #[.val (.ref sa462), .val (.int 0), .val (.int 2), .val (.int 0), .val (.int 23), .val (.int 0), .val (.int 1)] [(.int 1)] _
    refine XS.ifYes z5.here hx rfl (pc0 := 39) (pc' := 44) rfl (hb hby yn_39) rfl ((if0 _ _).trans (feq (by decide : ¬ ((1 : Int32) = (0 : Int32)))).2) (by decide) (by decide) ?_
    show own_Y p e below zf m 44 #[.val (.ref sa462), .val (.int 0), .val (.int 2), .val (.int 0), .val (.int 23), .val (.int 0), .val (.int 1)] [] _
    refine XS.iload z5.here hx rfl (hb hby yn_44) rfl ?_
    refine XS.bipush z5.here hx rfl (hb hby yn_46) ?_
    refine XS.imul z5.here hx rfl (hb hby yn_48) rfl ?_
    show own_Y p e below zf m 49 #[.val (.ref sa462), .val (.int 0), .val (.int 2), .val (.int 0), .val (.int 23), .val (.int 0), .val (.int 1)] [(.int 0)] _
    refine XS.aloadN z5.here hx rfl (hb hby yn_49) rfl rfl ?_
    refine XS.iload z5.here hx rfl (hb hby yn_50) rfl ?_
    refine zx.trans ?_
    show own_Y p e below z6 m 55 #[.val (.ref sa462), .val (.int 0), .val (.int 2), .val (.int 0), .val (.int 23), .val (.int 0), .val (.int 1)] [(.int 48), (.int 0)] _
    refine XS.iadd z0.here hx rfl (hb hby yn_55) rfl ?_
    show own_Y p e below z6 m 56 #[.val (.ref sa462), .val (.int 0), .val (.int 2), .val (.int 0), .val (.int 23), .val (.int 0), .val (.int 1)] [(.int 48)] _
    refine XS.bipush z0.here hx rfl (hb hby yn_56) ?_
    refine XS.isub z0.here hx rfl (hb hby yn_58) rfl ?_
    show own_Y p e below z6 m 59 #[.val (.ref sa462), .val (.int 0), .val (.int 2), .val (.int 0), .val (.int 23), .val (.int 0), .val (.int 1)] [(.int 0)] _
    refine XS.istore z0.here hx rfl (hb hby yn_59) rfl (l' := #[.val (.ref sa462), .val (.int 0), .val (.int 2), .val (.int 0), .val (.int 23), .val (.int 0), .val (.int 1)]) rfl ?_
    refine XS.iinc z0.here hx rfl (hb hby yn_61) rfl (l' := #[.val (.ref sa462), .val (.int 0), .val (.int 2), .val (.int 0), .val (.int 23), .val (.int 0), .val (.int 2)]) rfl ?_
    show own_Y p e below z6 m 64 #[.val (.ref sa462), .val (.int 0), .val (.int 2), .val (.int 0), .val (.int 23), .val (.int 0), .val (.int 2)] [] _
    refine XS.goto z0.here hx rfl (pc0 := 64) (pc' := 22) rfl (hb hby yn_64) (by decide) (by decide) ?_
    refine XS.iload z0.here hx rfl (hb hby yn_22) rfl ?_
    refine XS.iloadN z0.here hx rfl (hb hby yn_24) rfl ?_
    refine XS.iloadN z0.here hx rfl (hb hby yn_25) rfl ?_
    refine XS.iadd z0.here hx rfl (hb hby yn_26) rfl ?_
    show own_Y p e below z6 m 27 #[.val (.ref sa462), .val (.int 0), .val (.int 2), .val (.int 0), .val (.int 23), .val (.int 0), .val (.int 2)] [(.int 2), (.int 2)] _
    refine XS.icmpYes z0.here hx rfl (pc0 := 27) (pc' := 67) rfl (hb hby yn_27) rfl (flt (by decide : ¬ ((2 : Int32) < (2 : Int32)))).2.1 (by decide) (by decide) ?_
    show own_Y p e below z6 m 67 #[.val (.ref sa462), .val (.int 0), .val (.int 2), .val (.int 0), .val (.int 23), .val (.int 0), .val (.int 2)] [] _
    refine XS.iload z0.here hx rfl (hb hby yn_67) rfl ?_
    refine XS.iloadN z0.here hx rfl (hb hby yn_69) rfl ?_
    refine XS.icmpNo z0.here hx rfl (hb hby yn_70) rfl (flt (by decide : ¬ ((0 : Int32) < (0 : Int32)))).1 ?_
    show own_Y p e below z6 m 73 #[.val (.ref sa462), .val (.int 0), .val (.int 2), .val (.int 0), .val (.int 23), .val (.int 0), .val (.int 2)] [] _
    refine XS.iload z0.here hx rfl (hb hby yn_73) rfl ?_
    refine XS.iload z0.here hx rfl (hb hby yn_75) rfl ?_
    refine XS.icmpNo z0.here hx rfl (hb hby yn_77) rfl (flt (by decide : ¬ ((23 : Int32) < (0 : Int32)))).2.2.1 ?_
    show own_Y p e below z6 m 80 #[.val (.ref sa462), .val (.int 0), .val (.int 2), .val (.int 0), .val (.int 23), .val (.int 0), .val (.int 2)] [] _
    refine XS.iloadN z0.here hx rfl (hb hby yn_80) rfl ?_
    refine XS.iloadN z0.here hx rfl (hb hby yn_81) rfl ?_
    refine XS.iadd z0.here hx rfl (hb hby yn_82) rfl ?_
    show own_Y p e below z6 m 83 #[.val (.ref sa462), .val (.int 0), .val (.int 2), .val (.int 0), .val (.int 23), .val (.int 0), .val (.int 2)] [(.int 2)] _
    refine XS.goto z0.here hx rfl (pc0 := 83) (pc' := 87) rfl (hb hby yn_83) (by decide) (by decide) ?_
    exact retI z0 hx Bd.returns (hb hby yn_87) hr
  · show PQ (some (.int 2)) h0 n0 _ z6.heap _
    rw [z1p]
    exact ⟨rfl, z1q, rfl⟩
theorem rm84 (l : Launch) (Z : State) (a0 : Array Value) (hw : ∀ d ∈ tables_1, d.before a0 Z = true) (ws : List Jvm.Cond) (h0 : Heap) (n0 : Nat) (p1 : Int32) (A : Nat → Addr) (K : Nat → ClassId) (cs : Int32)  (sb462 : Addr) (sa462 : Addr) (kc462 : ClassId) (EN : own_St Z A K cs) (OL0 : Old Z n0 h0) (z2 : Exa Z h0 sa462 y_s2) (z5 : Fld Z h0 sa462 y_s2 "value" "[B" (.ref sb462)) (z6 : Arv Z h0 sb462 kc462 .byte (2 : Int32) [(.int 48), (.int 48)] (.int 0)) (z7 : Fld Z h0 sa462 y_s2 "coder" "B" (.int 0)) :
    own_MF l Z own_m4 prog_40_method_11_code 3 (some .boolean) ws (Room.mk 2 0 0 26) #[(.ref sa462), (.int 2), (.int 58)] h0 (PQ (some (.int 0)) h0 n0) := by
  refine MetFree.of_bodySF (plainFor_of_name own_pn6) hisR ?_
  intro p e s m args below meth c s₁ Bd hml0 hP hK
  obtain ⟨rfl, hZ, hh⟩ := hP
  have hx := Bd.exec
  have hby := Bd.bytes
  have hml : c.maxLocals = 3 := hml0
  have hown : s.vm.findClass y_s1 = some m.cls := findClass_of_methodNamed Bd.named
  have hnm := (name_of_methodNamed Bd.named Bd.method).1
  have X0 : Stand p l e (Room.mk 2 0 0 26) s m #[(.ref sa462), (.int 2), (.int 58)] below meth c s₁ [] 0 0 := Stand.of_body Bd
  have e0 : s₁.heap = h0 := by rw [← hh, Bd.state]; rfl
  have N0 := Fr.nil n0
  have pre0 : own_P p e below s₁ m 0 #[.val (.ref sa462), .val (.int 2), .val (.int 58)] [] s₁ #[(.ref sa462), (.int 2), (.int 58)] 3 := fun t k => castTop (by first | (simp [entryFrame, mkF, argsToLocals, Value.category, maxLocals]; done) | rfl) k
  have KK0 : Keep h0 h0 [] := Keep.refl _ _
  obtain ⟨cq474, kq474, z8, zd, z9⟩ := isOf hZ e0 z2
  obtain ⟨_, _, ⟨z1, L474, ze, n474⟩, -, z0, ⟨Lc474, z3, l474, y474, z474⟩, z4⟩ := X0.virtualBack hx (y := own_m1) (z := own_m1) hown (mvT hZ (own_W hw 21 rfl)) (mvT hZ (own_W hw 22 rfl)) (notFace_of_selects (args := #[]) (mvT hZ (own_W hw 24 rfl))) (mvT hZ (own_W hw 24 rfl)) (mvT hZ (own_W hw 23 rfl)) (by decide) (backOf (W := 1) (rm2 l Z a0 hw [] h0 n0 p1 A K cs sb462 sa462 kc462 EN OL0 z5 z6 z2 z7) hZ (own_W hw 25 rfl) (own_W hw 9 rfl) (by decide) (by decide)) z8 z9 (g := (mkF m 6 #[.val (.ref sa462), .val (.int 2), .val (.int 58)] [(.ref sa462), (.int 2)])) rfl (by rw [hml]; rfl) (Steps.refl _) (argsL := []) (rest := [(.int 2)]) (lenOf own_pd2 rfl) rfl (by show 2 * 0 + _ ≤ _; exact Nat.le_of_eq rfl) (hb hby yi_6) (fun _ _ => ⟨rfl, e0, (by decide : 0 + 0 ≤ _), (by decide : 0 + 0 ≤ _)⟩)
  dsimp only [Pt.U, Pt.locs, Pt.cells, Pt.slots] at z0 l474 y474 z474 z4 z3
  replace z0 := own_sub z0 l474 y474 z474
  obtain ⟨rfl, za, zb⟩ := z3
  have zc := Fr.app N0 za
  obtain ⟨fs, hr, hrun, hended, hW, hsame⟩ := z0.leave (v := some (.int 0)) (fun h => by rw [Bd.returns] at h; cases h)
  refine ⟨_, _, pre0 _ ?_, hrun, hended, _, _, rfl, ?_, ⟨_, rfl⟩, hW, hsame.mono (by decide) (by decide)⟩
  · show own_Y p e below s₁ m 0 #[.val (.ref sa462), .val (.int 2), .val (.int 58)] [] _
    refine XS.iloadN X0.here hx rfl (hb hby yi_0) rfl ?_
    refine XS.ifNo X0.here hx rfl (hb hby yi_1) rfl ((if0 _ _).trans (flt (by decide : ¬ ((2 : Int32) < (0 : Int32)))).1) ?_
    show own_Y p e below s₁ m 4 #[.val (.ref sa462), .val (.int 2), .val (.int 58)] [] _
    refine XS.iloadN X0.here hx rfl (hb hby yi_4) rfl ?_
    refine XS.aloadN X0.here hx rfl (hb hby yi_5) rfl rfl ?_
    refine z4.trans ?_
    show own_Y p e below z1 m 9 #[.val (.ref sa462), .val (.int 2), .val (.int 58)] [(.int 2), (.int 2)] _
    refine XS.icmpYes z0.here hx rfl (pc0 := 9) (pc' := 25) rfl (hb hby yi_9) rfl (flt (by decide : ¬ ((2 : Int32) < (2 : Int32)))).2.1 (by decide) (by decide) ?_
    show own_Y p e below z1 m 25 #[.val (.ref sa462), .val (.int 2), .val (.int 58)] [] _
    refine XS.iconst z0.here hx rfl (hb hby yi_25) ?_
    exact retN z0 hx (t := .boolean) Bd.returns (by simp) (hb hby yi_26) hr
  · show PQ (some (.int 0)) h0 n0 _ z1.heap _
    rw [zb]
    exact ⟨rfl, zc, rfl⟩
theorem rm83 (l : Launch) (Z : State) (a0 : Array Value) (hw : ∀ d ∈ tables_1, d.before a0 Z = true) (ws : List Jvm.Cond) (h0 : Heap) (n0 : Nat) (p1 : Int32) (A : Nat → Addr) (K : Nat → ClassId) (cs : Int32)  (sb462 : Addr) (sa462 : Addr) (kc462 : ClassId) (EN : own_St Z A K cs) (OL0 : Old Z n0 h0) (z4 : Exa Z h0 sa462 y_s2) (z5 : Fld Z h0 sa462 y_s2 "value" "[B" (.ref sb462)) (z6 : Arv Z h0 sb462 kc462 .byte (2 : Int32) [(.int 48), (.int 48)] (.int 0)) (z7 : Fld Z h0 sa462 y_s2 "coder" "B" (.int 0)) :
    own_MF l Z own_m10 prog_40_method_10_code 3 (some .int) ws (Room.mk 3 0 0 40) #[(.ref sa462), (.int 2), (.int 58)] h0 (PQ (some (.int (-1))) h0 n0) := by
  refine MetFree.of_bodySF (plainFor_of_name own_pn6) hisR ?_
  intro p e s m args below meth c s₁ Bd hml0 hP hK
  obtain ⟨rfl, hZ, hh⟩ := hP
  have hx := Bd.exec
  have hby := Bd.bytes
  have hml : c.maxLocals = 3 := hml0
  have hown : s.vm.findClass y_s1 = some m.cls := findClass_of_methodNamed Bd.named
  have hnm := (name_of_methodNamed Bd.named Bd.method).1
  have X0 : Stand p l e (Room.mk 3 0 0 40) s m #[(.ref sa462), (.int 2), (.int 58)] below meth c s₁ [] 0 0 := Stand.of_body Bd
  have e0 : s₁.heap = h0 := by rw [← hh, Bd.state]; rfl
  have N0 := Fr.nil n0
  have pre0 : own_P p e below s₁ m 0 #[.val (.ref sa462), .val (.int 2), .val (.int 58)] [] s₁ #[(.ref sa462), (.int 2), (.int 58)] 3 := fun t k => castTop (by first | (simp [entryFrame, mkF, argsToLocals, Value.category, maxLocals]; done) | rfl) k
  have KK0 : Keep h0 h0 [] := Keep.refl _ _
  obtain ⟨_, _, ⟨z1, L475, zb, n475⟩, -, z0, ⟨Lc475, z2, l475, y475, z475⟩, z3⟩ := Jvm.LawKit.callS X0 hx (y := own_m4) hown (mvT hZ (own_W hw 121 rfl)) (mvT hZ (own_W hw 122 rfl)) (mvT hZ (own_W hw 6 rfl)) (mvT hZ (own_W hw 123 rfl)) (by decide) (backOf (W := 0) (rm84 l Z a0 hw [] h0 n0 p1 A K cs sb462 sa462 kc462 EN OL0 z4 z5 z6 z7) hZ (own_W hw 123 rfl) (own_W hw 6 rfl) (by decide) (by decide)) (g := (mkF m 3 #[.val (.ref sa462), .val (.int 2), .val (.int 58)] [(.int 58), (.int 2), (.ref sa462)])) rfl (by rw [hml]; rfl) (argsL := [(.ref sa462), (.int 2), (.int 58)]) (rest := []) (lenOf own_pd14 rfl) rfl (by show 2 * 0 + _ ≤ _; exact Nat.le_of_eq rfl) (hb hby yr_3) (fun _ _ => ⟨rfl, e0, (by decide : 0 + 0 ≤ _), (by decide : 0 + 0 ≤ _)⟩)
  dsimp only [Pt.U, Pt.locs, Pt.cells, Pt.slots] at z0 l475 y475 z475 z3 z2
  replace z0 := own_sub z0 l475 y475 z475
  obtain ⟨rfl, z8, z9⟩ := z2
  have za := Fr.app N0 z8
  obtain ⟨fs, hr, hrun, hended, hW, hsame⟩ := z0.leave (v := some (.int (-1))) (fun h => by rw [Bd.returns] at h; cases h)
  refine ⟨_, _, pre0 _ ?_, hrun, hended, _, _, rfl, ?_, ⟨_, rfl⟩, hW, hsame.mono (by decide) (by decide)⟩
  · show own_Y p e below s₁ m 0 #[.val (.ref sa462), .val (.int 2), .val (.int 58)] [] _
    refine XS.aloadN X0.here hx rfl (hb hby yr_0) rfl rfl ?_
    refine XS.iloadN X0.here hx rfl (hb hby yr_1) rfl ?_
    refine XS.iloadN X0.here hx rfl (hb hby yr_2) rfl ?_
    refine z3 _ ?_
    show own_Y p e below z1 m 6 #[.val (.ref sa462), .val (.int 2), .val (.int 58)] [(.int 0)] _
    refine XS.ifYes z0.here hx rfl (pc0 := 6) (pc' := 15) rfl (hb hby yr_6) rfl ((if0 _ _).trans (teq (by decide : (0 : Int32) = (0 : Int32))).1) (by decide) (by decide) ?_
    show own_Y p e below z1 m 15 #[.val (.ref sa462), .val (.int 2), .val (.int 58)] [] _
    refine XS.iconst z0.here hx rfl (hb hby yr_15) ?_
    exact retI z0 hx Bd.returns (hb hby yr_16) hr
  · show PQ (some (.int (-1))) h0 n0 _ z1.heap _
    rw [z9]
    exact ⟨rfl, za, rfl⟩
theorem rm81 (l : Launch) (Z : State) (a0 : Array Value) (hw : ∀ d ∈ tables_1, d.before a0 Z = true) (ws : List Jvm.Cond) (h0 : Heap) (n0 : Nat) (p1 : Int32) (A : Nat → Addr) (K : Nat → ClassId) (cs : Int32)  (sb462 : Addr) (sa462 : Addr) (kc462 : ClassId) (EN : own_St Z A K cs) (OL0 : Old Z n0 h0) (z7 : Exa Z h0 sa462 y_s2) (z8 : Fld Z h0 sa462 y_s2 "value" "[B" (.ref sb462)) (z9 : Arv Z h0 sb462 kc462 .byte (2 : Int32) [(.int 48), (.int 48)] (.int 0)) (za : Fld Z h0 sa462 y_s2 "coder" "B" (.int 0)) :
    own_MF l Z own_m14 prog_40_method_19_code 6 (some .int) ws (Room.mk 5 0 0 74) #[(.ref sa462), (.int 0), (.int 1), (.int 1)] h0 (PQ (some (.int (-1))) h0 n0) := by
  refine MetFree.of_bodySF (plainFor_of_name own_pn6) hisR ?_
  intro p e s m args below meth c s₁ Bd hml0 hP hK
  obtain ⟨rfl, hZ, hh⟩ := hP
  have hx := Bd.exec
  have hby := Bd.bytes
  have hml : c.maxLocals = 6 := hml0
  have hown : s.vm.findClass y_s1 = some m.cls := findClass_of_methodNamed Bd.named
  have hnm := (name_of_methodNamed Bd.named Bd.method).1
  have X0 : Stand p l e (Room.mk 5 0 0 74) s m #[(.ref sa462), (.int 0), (.int 1), (.int 1)] below meth c s₁ [] 0 0 := Stand.of_body Bd
  have e0 : s₁.heap = h0 := by rw [← hh, Bd.state]; rfl
  have N0 := Fr.nil n0
  have pre0 : own_P p e below s₁ m 0 #[.val (.ref sa462), .val (.int 0), .val (.int 1), .val (.int 1), .unset, .unset] [] s₁ #[(.ref sa462), (.int 0), (.int 1), (.int 1)] 6 := fun t k => castTop (by first | (simp [entryFrame, mkF, argsToLocals, Value.category, maxLocals]; done) | rfl) k
  have KK0 : Keep h0 h0 [] := Keep.refl _ _
  obtain ⟨_, _, ⟨zp, L473, z1a, n473⟩, -, z5, ⟨Lc473, zb, l473, y473, z473⟩, zc⟩ := Jvm.LawKit.callS X0 hx (y := own_m6) hown (mvT hZ (own_W hw 145 rfl)) (mvT hZ (own_W hw 146 rfl)) (mvT hZ (own_W hw 6 rfl)) (mvT hZ (own_W hw 147 rfl)) (by decide) (backOf (W := 2) (rm82 l Z a0 hw [] h0 n0 p1 A K cs sb462 sa462 kc462 EN OL0 z7 z8 z9 za) hZ (own_W hw 147 rfl) (own_W hw 6 rfl) (by decide) (by decide)) (g := (mkF m 8 #[.val (.ref sa462), .val (.int 0), .val (.int 1), .val (.int 1), .unset, .unset] [(.int 23), (.int 0), (.int 2), (.int 0), (.ref sa462), (.ref sa462), (.ref sa462)])) rfl (by rw [hml]; rfl) (argsL := [(.ref sa462), (.int 0), (.int 2), (.int 0), (.int 23)]) (rest := [(.ref sa462), (.ref sa462)]) (lenOf own_pd18 rfl) rfl (by show 2 * 0 + _ ≤ _; exact Nat.le_of_eq rfl) (hb hby yt_8) (fun _ _ => ⟨rfl, e0, (by decide : 0 + 0 ≤ _), (by decide : 0 + 0 ≤ _)⟩)
  dsimp only [Pt.U, Pt.locs, Pt.cells, Pt.slots] at z5 l473 y473 z473 zc zb
  replace z5 := own_sub z5 l473 y473 z473
  obtain ⟨rfl, zq, zr⟩ := zb
  have zs := Fr.app N0 zq
  obtain ⟨_, _, ⟨zt, L476, z1b, n476⟩, -, z2, ⟨Lc476, zd, l476, y476, z476⟩, ze⟩ := Jvm.LawKit.callS z5 hx (y := own_m10) hown (mvT hZ (own_W hw 148 rfl)) (mvT hZ (own_W hw 149 rfl)) (mvT hZ (own_W hw 6 rfl)) (mvT hZ (own_W hw 150 rfl)) (by decide) (backOf (W := 1) (rm83 l Z a0 hw [] h0 n0 p1 A K cs sb462 sa462 kc462 EN OL0 z7 z8 z9 za) hZ (own_W hw 150 rfl) (own_W hw 6 rfl) (by decide) (by decide)) (g := (mkF m 13 #[.val (.ref sa462), .val (.int 0), .val (.int 1), .val (.int 1), .unset, .unset] [(.int 58), (.int 2), (.ref sa462), (.ref sa462)])) rfl (by rw [hml]; rfl) (argsL := [(.ref sa462), (.int 2), (.int 58)]) (rest := [(.ref sa462)]) (lenOf own_pd19 rfl) rfl (by show 2 * 0 + _ ≤ _; exact Nat.le_of_eq rfl) (hb hby yt_13) (fun _ _ => ⟨rfl, zr, (by decide : 0 + 0 ≤ _), (by decide : 0 + 0 ≤ _)⟩)
  dsimp only [Pt.U, Pt.locs, Pt.cells, Pt.slots] at z2 l476 y476 z476 ze zd
  replace z2 := own_sub z2 l476 y476 z476
  obtain ⟨rfl, zu, zv⟩ := zd
  have zw := Fr.app zs zu
  obtain ⟨_, _, ⟨zf, L477, z1c, n477⟩, -, z0, ⟨Lc477, zg, l477, y477, z477⟩, zh⟩ := Jvm.LawKit.callS z2 hx (y := own_m6) hown (mvT hZ (own_W hw 145 rfl)) (mvT hZ (own_W hw 146 rfl)) (mvT hZ (own_W hw 6 rfl)) (mvT hZ (own_W hw 147 rfl)) (by decide) (backOf (W := 0) (rm77 l Z a0 hw [] h0 n0 p1 A K cs sa462 EN OL0) hZ (own_W hw 147 rfl) (own_W hw 6 rfl) (by decide) (by decide)) (g := (mkF m 20 #[.val (.ref sa462), .val (.int 0), .val (.int 1), .val (.int 1), .unset, .unset] [(.int 59), (.int 0), (.int 2), (.int (-1)), (.ref sa462)])) rfl (by rw [hml]; rfl) (argsL := [(.ref sa462), (.int (-1)), (.int 2), (.int 0), (.int 59)]) (rest := []) (lenOf own_pd18 rfl) rfl (by show 2 * 0 + _ ≤ _; exact Nat.le_of_eq rfl) (hb hby yt_20) (fun _ _ => ⟨rfl, zv, (by decide : 0 + 0 ≤ _), (by decide : 0 + 0 ≤ _)⟩)
  dsimp only [Pt.U, Pt.locs, Pt.cells, Pt.slots] at z0 l477 y477 z477 zh zg
  replace z0 := own_sub z0 l477 y477 z477
  obtain ⟨rfl, zx, zy⟩ := zg
  have zz := Fr.app zw zx
  obtain ⟨_, _, ⟨z10, L478, z1d, n478⟩, -, z3, ⟨Lc478, zi, l478, y478, z478⟩, zj⟩ := Jvm.LawKit.callS z0 hx (y := own_m10) hown (mvT hZ (own_W hw 148 rfl)) (mvT hZ (own_W hw 149 rfl)) (mvT hZ (own_W hw 6 rfl)) (mvT hZ (own_W hw 150 rfl)) (by decide) (backOf (W := 1) (rm75 l Z a0 hw [] h0 n0 p1 A K cs sa462 EN OL0) hZ (own_W hw 150 rfl) (own_W hw 6 rfl) (by decide) (by decide)) (g := (mkF m 49 #[.val (.ref sa462), .val (.int 0), .val (.int 1), .val (.int 1), .val (.int (-1)), .unset] [(.int 58), (.int (-1)), (.ref sa462), (.ref sa462)])) rfl (by rw [hml]; rfl) (argsL := [(.ref sa462), (.int (-1)), (.int 58)]) (rest := [(.ref sa462)]) (lenOf own_pd19 rfl) rfl (by show 2 * 0 + _ ≤ _; exact Nat.le_of_eq rfl) (hb hby yt_49) (fun _ _ => ⟨rfl, zy, (by decide : 0 + 0 ≤ _), (by decide : 0 + 0 ≤ _)⟩)
  dsimp only [Pt.U, Pt.locs, Pt.cells, Pt.slots] at z3 l478 y478 z478 zj zi
  replace z3 := own_sub z3 l478 y478 z478
  obtain ⟨rfl, z11, z12⟩ := zi
  have z13 := Fr.app zz z11
  obtain ⟨_, _, ⟨zk, L479, z1e, n479⟩, -, z1, ⟨Lc479, zl, l479, y479, z479⟩, zm⟩ := Jvm.LawKit.callS z3 hx (y := own_m6) hown (mvT hZ (own_W hw 145 rfl)) (mvT hZ (own_W hw 146 rfl)) (mvT hZ (own_W hw 6 rfl)) (mvT hZ (own_W hw 147 rfl)) (by decide) (backOf (W := 0) (rm78 l Z a0 hw [] h0 n0 p1 A K cs sa462 EN OL0) hZ (own_W hw 147 rfl) (own_W hw 6 rfl) (by decide) (by decide)) (g := (mkF m 56 #[.val (.ref sa462), .val (.int 0), .val (.int 1), .val (.int 1), .val (.int (-1)), .unset] [(.int 60), (.int 0), (.int 2), (.int (-1)), (.ref sa462)])) rfl (by rw [hml]; rfl) (argsL := [(.ref sa462), (.int (-1)), (.int 2), (.int 0), (.int 60)]) (rest := []) (lenOf own_pd18 rfl) rfl (by show 2 * 0 + _ ≤ _; exact Nat.le_of_eq rfl) (hb hby yt_56) (fun _ _ => ⟨rfl, z12, (by decide : 0 + 0 ≤ _), (by decide : 0 + 0 ≤ _)⟩)
  dsimp only [Pt.U, Pt.locs, Pt.cells, Pt.slots] at z1 l479 y479 z479 zm zl
  replace z1 := own_sub z1 l479 y479 z479
  obtain ⟨rfl, z14, z15⟩ := zl
  have z16 := Fr.app z13 z14
  obtain ⟨_, _, ⟨z6, L480, z1f, n480⟩, -, z4, ⟨Lc480, zn, l480, y480, z480⟩, zo⟩ := Jvm.LawKit.callS z1 hx (y := own_m4) hown (mvT hZ (own_W hw 121 rfl)) (mvT hZ (own_W hw 122 rfl)) (mvT hZ (own_W hw 6 rfl)) (mvT hZ (own_W hw 123 rfl)) (by decide) (backOf (W := 0) (rm79 l Z a0 hw [] h0 n0 p1 A K cs sa462 EN OL0) hZ (own_W hw 123 rfl) (own_W hw 6 rfl) (by decide) (by decide)) (g := (mkF m 70 #[.val (.ref sa462), .val (.int 0), .val (.int 1), .val (.int 1), .val (.int (-1)), .unset] [(.int 46), (.int (-1)), (.ref sa462)])) rfl (by rw [hml]; rfl) (argsL := [(.ref sa462), (.int (-1)), (.int 46)]) (rest := []) (lenOf own_pd14 rfl) rfl (by show 2 * 0 + _ ≤ _; exact Nat.le_of_eq rfl) (hb hby yt_70) (fun _ _ => ⟨rfl, z15, (by decide : 0 + 0 ≤ _), (by decide : 0 + 0 ≤ _)⟩)
  dsimp only [Pt.U, Pt.locs, Pt.cells, Pt.slots] at z4 l480 y480 z480 zo zn
  replace z4 := own_sub z4 l480 y480 z480
  obtain ⟨rfl, z17, z18⟩ := zn
  have z19 := Fr.app z16 z17
  obtain ⟨fs, hr, hrun, hended, hW, hsame⟩ := z4.leave (v := some (.int (-1))) (fun h => by rw [Bd.returns] at h; cases h)
  refine ⟨_, _, pre0 _ ?_, hrun, hended, _, _, rfl, ?_, ⟨_, rfl⟩, hW, hsame.mono (by decide) (by decide)⟩
  · show own_Y p e below s₁ m 0 #[.val (.ref sa462), .val (.int 0), .val (.int 1), .val (.int 1), .unset, .unset] [] _
    refine XS.aloadN X0.here hx rfl (hb hby yt_0) rfl rfl ?_
    refine XS.aloadN X0.here hx rfl (hb hby yt_1) rfl rfl ?_
    refine XS.aloadN X0.here hx rfl (hb hby yt_2) rfl rfl ?_
    refine XS.iloadN X0.here hx rfl (hb hby yt_3) rfl ?_
    refine XS.iconst X0.here hx rfl (hb hby yt_4) ?_
    refine XS.iconst X0.here hx rfl (hb hby yt_5) ?_
    refine XS.bipush X0.here hx rfl (hb hby yt_6) ?_
    refine zc _ ?_
    show own_Y p e below zp m 11 #[.val (.ref sa462), .val (.int 0), .val (.int 1), .val (.int 1), .unset, .unset] [(.int 2), (.ref sa462), (.ref sa462)] _
    refine XS.bipush z5.here hx rfl (hb hby yt_11) ?_
    refine ze _ ?_
    show own_Y p e below zt m 16 #[.val (.ref sa462), .val (.int 0), .val (.int 1), .val (.int 1), .unset, .unset] [(.int (-1)), (.ref sa462)] _
    refine XS.iconst z2.here hx rfl (hb hby yt_16) ?_
    refine XS.iconst z2.here hx rfl (hb hby yt_17) ?_
    refine XS.bipush z2.here hx rfl (hb hby yt_18) ?_
    refine zh _ ?_
    show own_Y p e below zf m 23 #[.val (.ref sa462), .val (.int 0), .val (.int 1), .val (.int 1), .unset, .unset] [(.int (-1))] _
    refine XS.istore z0.here hx rfl (hb hby yt_23) rfl (l' := #[.val (.ref sa462), .val (.int 0), .val (.int 1), .val (.int 1), .val (.int (-1)), .unset]) rfl ?_
    refine XS.iloadN z0.here hx rfl (hb hby yt_25) rfl ?_
    refine XS.ifYes z0.here hx rfl (pc0 := 26) (pc' := 43) rfl (hb hby yt_26) rfl ((if0 _ _).trans (feq (by decide : ¬ ((1 : Int32) = (0 : Int32)))).2) (by decide) (by decide) ?_
    show own_Y p e below zf m 43 #[.val (.ref sa462), .val (.int 0), .val (.int 1), .val (.int 1), .val (.int (-1)), .unset] [] _
    refine XS.aloadN z0.here hx rfl (hb hby yt_43) rfl rfl ?_
    refine XS.aloadN z0.here hx rfl (hb hby yt_44) rfl rfl ?_
    refine XS.iload z0.here hx rfl (hb hby yt_45) rfl ?_
    refine XS.bipush z0.here hx rfl (hb hby yt_47) ?_
    refine zj _ ?_
    show own_Y p e below z10 m 52 #[.val (.ref sa462), .val (.int 0), .val (.int 1), .val (.int 1), .val (.int (-1)), .unset] [(.int (-1)), (.ref sa462)] _
    refine XS.iconst z3.here hx rfl (hb hby yt_52) ?_
    refine XS.iconst z3.here hx rfl (hb hby yt_53) ?_
    refine XS.bipush z3.here hx rfl (hb hby yt_54) ?_
    refine zm _ ?_
    show own_Y p e below zk m 59 #[.val (.ref sa462), .val (.int 0), .val (.int 1), .val (.int 1), .val (.int (-1)), .unset] [(.int (-1))] _
    refine XS.istore z1.here hx rfl (hb hby yt_59) rfl (l' := #[.val (.ref sa462), .val (.int 0), .val (.int 1), .val (.int 1), .val (.int (-1)), .unset]) rfl ?_
    refine XS.iloadN z1.here hx rfl (hb hby yt_61) rfl ?_
    refine XS.ifNo z1.here hx rfl (hb hby yt_62) rfl ((if0 _ _).trans (feq (by decide : ¬ ((1 : Int32) = (0 : Int32)))).1) ?_
    show own_Y p e below zk m 65 #[.val (.ref sa462), .val (.int 0), .val (.int 1), .val (.int 1), .val (.int (-1)), .unset] [] _
    refine XS.aloadN z1.here hx rfl (hb hby yt_65) rfl rfl ?_
    refine XS.iload z1.here hx rfl (hb hby yt_66) rfl ?_
    refine XS.bipush z1.here hx rfl (hb hby yt_68) ?_
    refine zo _ ?_
    show own_Y p e below z6 m 73 #[.val (.ref sa462), .val (.int 0), .val (.int 1), .val (.int 1), .val (.int (-1)), .unset] [(.int 0)] _
    refine XS.ifNo z4.here hx rfl (hb hby yt_73) rfl ((if0 _ _).trans (teq (by decide : (0 : Int32) = (0 : Int32))).2) ?_
    show own_Y p e below z6 m 76 #[.val (.ref sa462), .val (.int 0), .val (.int 1), .val (.int 1), .val (.int (-1)), .unset] [] _
    refine XS.iload z4.here hx rfl (hb hby yt_76) rfl ?_
    exact retI z4 hx Bd.returns (hb hby yt_78) hr
  · show PQ (some (.int (-1))) h0 n0 _ z6.heap _
    rw [z18]
    exact ⟨rfl, z19, rfl⟩
theorem ye_361 : decode prog_40_method_7_code 361 = .ok (.aload_n 1, 1) := by decide +kernel
theorem ye_362 : decode prog_40_method_7_code 362 = .ok (.iconst 0, 1) := by decide +kernel
theorem ye_363 : decode prog_40_method_7_code 363 = .ok (.iconst 1, 1) := by decide +kernel
theorem ye_364 : decode prog_40_method_7_code 364 = .ok (.iconst 1, 1) := by decide +kernel
theorem ye_365 : decode prog_40_method_7_code 365 = .ok (.invokestatic 161, 3) := by decide +kernel
theorem ye_368 : decode prog_40_method_7_code 368 = .ok (.iload_n 2, 1) := by decide +kernel
theorem ye_369 : decode prog_40_method_7_code 369 = .ok (.if_icmp .ne 7, 3) := by decide +kernel
theorem ye_376 : decode prog_40_method_7_code 376 = .ok (.iconst 0, 1) := by decide +kernel
theorem ye_377 : decode prog_40_method_7_code 377 = .ok (.goto 49, 3) := by decide +kernel
theorem rm80 (l : Launch) (Z : State) (a0 : Array Value) (hw : ∀ d ∈ tables_1, d.before a0 Z = true) (ws : List Jvm.Cond) (h0 : Heap) (n0 : Nat) (p1 : Int32) (A : Nat → Addr) (K : Nat → ClassId) (cs : Int32) (ta : Addr) (tj : Int32)  (sb462 : Addr) (sa462 : Addr) (kc462 : ClassId) (EN : own_St Z A K cs) (gE : Exa Z Z.heap ta y_s1) (gF : Fld Z Z.heap ta y_s3 "ordinal" "I" (.int tj)) (gj : tj = (23 : Int32)) (OL0 : Old Z n0 h0) (z4 : Exa Z h0 sa462 y_s2) (z6 : Fld Z h0 sa462 y_s2 "value" "[B" (.ref sb462)) (z7 : Arv Z h0 sb462 kc462 .byte (2 : Int32) [(.int 48), (.int 48)] (.int 0)) (z8 : Fld Z h0 sa462 y_s2 "coder" "B" (.int 0)) :
    own_MF l Z own_m0 prog_40_method_7_code 3 (some .boolean) ws (Room.mk 6 0 0 91) #[(.ref ta), (.ref sa462)] h0 (PQ (some (.int 0)) h0 n0) := by
  refine MetFree.of_bodySF (plainFor_of_name own_pn6) hisR ?_
  intro p e s m args below meth c s₁ Bd hml0 hP hK
  obtain ⟨rfl, hZ, hh⟩ := hP
  have hx := Bd.exec
  have hby := Bd.bytes
  have hml : c.maxLocals = 3 := hml0
  have hown : s.vm.findClass y_s1 = some m.cls := findClass_of_methodNamed Bd.named
  have hnm := (name_of_methodNamed Bd.named Bd.method).1
  have X0 : Stand p l e (Room.mk 6 0 0 91) s m #[(.ref ta), (.ref sa462)] below meth c s₁ [] 0 0 := Stand.of_body Bd
  have e0 : s₁.heap = h0 := by rw [← hh, Bd.state]; rfl
  have N0 := Fr.nil n0
  have pre0 : own_P p e below s₁ m 0 #[.val (.ref ta), .val (.ref sa462), .unset] [] s₁ #[(.ref ta), (.ref sa462)] 3 := fun t k => castTop (by first | (simp [entryFrame, mkF, argsToLocals, Value.category, maxLocals]; done) | rfl) k
  have KK0 : Keep h0 h0 [] := Keep.refl _ _
  obtain ⟨cq463, kq463, zh, zt, zi⟩ := isOf hZ e0 z4
  obtain ⟨_, _, ⟨z9, L463, zu, n463⟩, -, z2, ⟨Lc463, za, l463, y463, z463⟩, zb⟩ := X0.virtualBack hx (y := own_m1) (z := own_m1) hown (mvT hZ (own_W hw 21 rfl)) (mvT hZ (own_W hw 22 rfl)) (notFace_of_selects (args := #[]) (mvT hZ (own_W hw 24 rfl))) (mvT hZ (own_W hw 24 rfl)) (mvT hZ (own_W hw 23 rfl)) (by decide) (backOf (W := 0) (rm2 l Z a0 hw [] h0 n0 p1 A K cs sb462 sa462 kc462 EN OL0 z6 z7 z4 z8) hZ (own_W hw 25 rfl) (own_W hw 9 rfl) (by decide) (by decide)) zh zi (g := (mkF m 1 #[.val (.ref ta), .val (.ref sa462), .unset] [(.ref sa462)])) rfl (by rw [hml]; rfl) (Steps.refl _) (argsL := []) (rest := []) (lenOf own_pd2 rfl) rfl (by show 2 * 0 + _ ≤ _; exact Nat.le_of_eq rfl) (hb hby ye_1) (fun _ _ => ⟨rfl, e0, (by decide : 0 + 0 ≤ _), (by decide : 0 + 0 ≤ _)⟩)
  dsimp only [Pt.U, Pt.locs, Pt.cells, Pt.slots] at z2 l463 y463 z463 zb za
  replace z2 := own_sub z2 l463 y463 z463
  obtain ⟨rfl, zj, zc⟩ := za
  have zk := Fr.app N0 zj
  obtain ⟨cq464, kq464, zl, zv, zm⟩ := isOf hZ zc (gE.ext OL0.2)
  obtain ⟨_, _, ⟨z3, L464, zw, n464⟩, -, z0, ⟨Lc464, zd, l464, y464, z464⟩, ze⟩ := z2.virtualBackUp hx (x := own_m8) (y := own_m7) (owner := y_s3) hown (mvT hZ (own_W hw 34 rfl)) (mvT hZ (own_W hw 35 rfl)) (mvT hZ (own_W hw 36 rfl)) (by decide) (mvT hZ (own_W hw 38 rfl)) (mvT hZ (own_W hw 37 rfl)) (backOf (W := 0) (rm4 l Z a0 hw [] h0 n0 p1 A K cs ta tj EN gE gF OL0) hZ (own_W hw 40 rfl) (own_W hw 39 rfl) (by decide) (by decide)) zl zm (g := (mkF m 12 #[.val (.ref ta), .val (.ref sa462), .val (.int 2)] [(.ref ta)])) rfl (by rw [hml]; rfl) (Steps.refl _) (argsL := []) (rest := []) (lenOf own_pd2 rfl) rfl (by show 2 * 0 + _ ≤ _; exact Nat.le_of_eq rfl) (hb hby ye_12) (fun _ _ => ⟨rfl, zc, (by decide : 0 + 0 ≤ _), (by decide : 0 + 0 ≤ _)⟩)
  dsimp only [Pt.U, Pt.locs, Pt.cells, Pt.slots] at z0 l464 y464 z464 ze zd
  replace z0 := own_sub z0 l464 y464 z464
  obtain ⟨rfl, zn, zo⟩ := zd
  have zp := Fr.app zk zn
  have ts465 : ∀ t, Steps p.tables e below (z3.setTop (mkF m 361 #[.val (.ref ta), .val (.ref sa462), .val (.int 2)] [])) t → Steps p.tables e below (z3.setTop (mkF m 15 #[.val (.ref ta), .val (.ref sa462), .val (.int 2)] [(.int tj)])) t := by
    intro t k
    rcases gj with rfl <;> exact XS.tswIn z0.here hx rfl (pc0 := 15) (pc' := 361) rfl (hb hby ye_15) rfl (by decide) (o := 346) (by decide) (by decide) (by decide) k
  obtain ⟨_, _, ⟨z5, L481, zx, n481⟩, -, z1, ⟨Lc481, zf, l481, y481, z481⟩, zg⟩ := Jvm.LawKit.callS z0 hx (y := own_m14) hown (mvT hZ (own_W hw 142 rfl)) (mvT hZ (own_W hw 143 rfl)) (mvT hZ (own_W hw 6 rfl)) (mvT hZ (own_W hw 144 rfl)) (by decide) (backOf (W := 0) (rm81 l Z a0 hw [] h0 n0 p1 A K cs sb462 sa462 kc462 EN OL0 z4 z6 z7 z8) hZ (own_W hw 144 rfl) (own_W hw 6 rfl) (by decide) (by decide)) (g := (mkF m 365 #[.val (.ref ta), .val (.ref sa462), .val (.int 2)] [(.int 1), (.int 1), (.int 0), (.ref sa462)])) rfl (by rw [hml]; rfl) (argsL := [(.ref sa462), (.int 0), (.int 1), (.int 1)]) (rest := []) (lenOf own_pd20 rfl) rfl (by show 2 * 0 + _ ≤ _; exact Nat.le_of_eq rfl) (hb hby ye_365) (fun _ _ => ⟨rfl, zo, (by decide : 0 + 0 ≤ _), (by decide : 0 + 0 ≤ _)⟩)
  dsimp only [Pt.U, Pt.locs, Pt.cells, Pt.slots] at z1 l481 y481 z481 zg zf
  replace z1 := own_sub z1 l481 y481 z481
  obtain ⟨rfl, zq, zr⟩ := zf
  have zs := Fr.app zp zq
  obtain ⟨fs, hr, hrun, hended, hW, hsame⟩ := z1.leave (v := some (.int 0)) (fun h => by rw [Bd.returns] at h; cases h)
  refine ⟨_, _, pre0 _ ?_, hrun, hended, _, _, rfl, ?_, ⟨_, rfl⟩, hW, hsame.mono (by decide) (by decide)⟩
  · show own_Y p e below s₁ m 0 #[.val (.ref ta), .val (.ref sa462), .unset] [] _
    refine XS.aloadN X0.here hx rfl (hb hby ye_0) rfl rfl ?_
    refine zb.trans ?_
    show own_Y p e below z9 m 4 #[.val (.ref ta), .val (.ref sa462), .unset] [(.int 2)] _
    refine XS.istoreN z2.here hx rfl (hb hby ye_4) rfl (l' := #[.val (.ref ta), .val (.ref sa462), .val (.int 2)]) rfl ?_
    refine XS.iloadN z2.here hx rfl (hb hby ye_5) rfl ?_
    refine XS.ifYes z2.here hx rfl (pc0 := 6) (pc' := 11) rfl (hb hby ye_6) rfl ((if0 _ _).trans (feq (by decide : ¬ ((2 : Int32) = (0 : Int32)))).2) (by decide) (by decide) ?_
    show own_Y p e below z9 m 11 #[.val (.ref ta), .val (.ref sa462), .val (.int 2)] [] _
    refine XS.aloadN z2.here hx rfl (hb hby ye_11) rfl rfl ?_
    refine ze.trans ?_
    show own_Y p e below z3 m 15 #[.val (.ref ta), .val (.ref sa462), .val (.int 2)] [(.int tj)] _
    refine ts465 _ ?_
    show own_Y p e below z3 m 361 #[.val (.ref ta), .val (.ref sa462), .val (.int 2)] [] _
    refine XS.aloadN z0.here hx rfl (hb hby ye_361) rfl rfl ?_
    refine XS.iconst z0.here hx rfl (hb hby ye_362) ?_
    refine XS.iconst z0.here hx rfl (hb hby ye_363) ?_
    refine XS.iconst z0.here hx rfl (hb hby ye_364) ?_
    refine zg _ ?_
    show own_Y p e below z5 m 368 #[.val (.ref ta), .val (.ref sa462), .val (.int 2)] [(.int (-1))] _
    refine XS.iloadN z1.here hx rfl (hb hby ye_368) rfl ?_
    refine XS.icmpYes z1.here hx rfl (pc0 := 369) (pc' := 376) rfl (hb hby ye_369) rfl (feq (by decide : ¬ ((-1 : Int32) = (2 : Int32)))).2 (by decide) (by decide) ?_
    show own_Y p e below z5 m 376 #[.val (.ref ta), .val (.ref sa462), .val (.int 2)] [] _
    refine XS.iconst z1.here hx rfl (hb hby ye_376) ?_
    refine XS.goto z1.here hx rfl (pc0 := 377) (pc' := 426) rfl (hb hby ye_377) (by decide) (by decide) ?_
    exact retN z1 hx (t := .boolean) Bd.returns (by simp) (hb hby ye_426) hr
  · show PQ (some (.int 0)) h0 n0 _ z5.heap _
    rw [zr]
    exact ⟨rfl, zs, rfl⟩
theorem yt_29 : decode prog_40_method_19_code 29 = .ok (.aload_n 0, 1) := by decide +kernel
theorem yt_30 : decode prog_40_method_19_code 30 = .ok (.iload 4, 2) := by decide +kernel
theorem yt_32 : decode prog_40_method_19_code 32 = .ok (.bipush 58, 2) := by decide +kernel
theorem yt_34 : decode prog_40_method_19_code 34 = .ok (.invokestatic 176, 3) := by decide +kernel
theorem yt_37 : decode prog_40_method_19_code 37 = .ok (.ifCond .ne 6, 3) := by decide +kernel
theorem yt_40 : decode prog_40_method_19_code 40 = .ok (.iload 4, 2) := by decide +kernel
theorem yt_42 : decode prog_40_method_19_code 42 = .ok (.ireturn, 1) := by decide +kernel
theorem rm86 (l : Launch) (Z : State) (a0 : Array Value) (hw : ∀ d ∈ tables_1, d.before a0 Z = true) (ws : List Jvm.Cond) (h0 : Heap) (n0 : Nat) (p1 : Int32) (A : Nat → Addr) (K : Nat → ClassId) (cs : Int32)  (sb486 : Addr) (sa486 : Addr) (kc486 : ClassId) (EN : own_St Z A K cs) (OL0 : Old Z n0 h0) (z5 : Exa Z h0 sa486 y_s2) (z6 : Fld Z h0 sa486 y_s2 "value" "[B" (.ref sb486)) (z7 : Arv Z h0 sb486 kc486 .byte (2 : Int32) [(.int 48), (.int 48)] (.int 0)) (z8 : Fld Z h0 sa486 y_s2 "coder" "B" (.int 0)) :
    own_MF l Z own_m14 prog_40_method_19_code 6 (some .int) ws (Room.mk 5 0 0 74) #[(.ref sa486), (.int 0), (.int 0), (.int 0)] h0 (PQ (some (.int (-1))) h0 n0) := by
  refine MetFree.of_bodySF (plainFor_of_name own_pn6) hisR ?_
  intro p e s m args below meth c s₁ Bd hml0 hP hK
  obtain ⟨rfl, hZ, hh⟩ := hP
  have hx := Bd.exec
  have hby := Bd.bytes
  have hml : c.maxLocals = 6 := hml0
  have hown : s.vm.findClass y_s1 = some m.cls := findClass_of_methodNamed Bd.named
  have hnm := (name_of_methodNamed Bd.named Bd.method).1
  have X0 : Stand p l e (Room.mk 5 0 0 74) s m #[(.ref sa486), (.int 0), (.int 0), (.int 0)] below meth c s₁ [] 0 0 := Stand.of_body Bd
  have e0 : s₁.heap = h0 := by rw [← hh, Bd.state]; rfl
  have N0 := Fr.nil n0
  have pre0 : own_P p e below s₁ m 0 #[.val (.ref sa486), .val (.int 0), .val (.int 0), .val (.int 0), .unset, .unset] [] s₁ #[(.ref sa486), (.int 0), (.int 0), (.int 0)] 6 := fun t k => castTop (by first | (simp [entryFrame, mkF, argsToLocals, Value.category, maxLocals]; done) | rfl) k
  have KK0 : Keep h0 h0 [] := Keep.refl _ _
  obtain ⟨_, _, ⟨zi, L490, zw, n490⟩, -, z3, ⟨Lc490, z9, l490, y490, z490⟩, za⟩ := Jvm.LawKit.callS X0 hx (y := own_m6) hown (mvT hZ (own_W hw 145 rfl)) (mvT hZ (own_W hw 146 rfl)) (mvT hZ (own_W hw 6 rfl)) (mvT hZ (own_W hw 147 rfl)) (by decide) (backOf (W := 2) (rm82 l Z a0 hw [] h0 n0 p1 A K cs sb486 sa486 kc486 EN OL0 z5 z6 z7 z8) hZ (own_W hw 147 rfl) (own_W hw 6 rfl) (by decide) (by decide)) (g := (mkF m 8 #[.val (.ref sa486), .val (.int 0), .val (.int 0), .val (.int 0), .unset, .unset] [(.int 23), (.int 0), (.int 2), (.int 0), (.ref sa486), (.ref sa486), (.ref sa486)])) rfl (by rw [hml]; rfl) (argsL := [(.ref sa486), (.int 0), (.int 2), (.int 0), (.int 23)]) (rest := [(.ref sa486), (.ref sa486)]) (lenOf own_pd18 rfl) rfl (by show 2 * 0 + _ ≤ _; exact Nat.le_of_eq rfl) (hb hby yt_8) (fun _ _ => ⟨rfl, e0, (by decide : 0 + 0 ≤ _), (by decide : 0 + 0 ≤ _)⟩)
  dsimp only [Pt.U, Pt.locs, Pt.cells, Pt.slots] at z3 l490 y490 z490 za z9
  replace z3 := own_sub z3 l490 y490 z490
  obtain ⟨rfl, zj, zk⟩ := z9
  have zl := Fr.app N0 zj
  obtain ⟨_, _, ⟨zm, L491, zx, n491⟩, -, z1, ⟨Lc491, zb, l491, y491, z491⟩, zc⟩ := Jvm.LawKit.callS z3 hx (y := own_m10) hown (mvT hZ (own_W hw 148 rfl)) (mvT hZ (own_W hw 149 rfl)) (mvT hZ (own_W hw 6 rfl)) (mvT hZ (own_W hw 150 rfl)) (by decide) (backOf (W := 1) (rm83 l Z a0 hw [] h0 n0 p1 A K cs sb486 sa486 kc486 EN OL0 z5 z6 z7 z8) hZ (own_W hw 150 rfl) (own_W hw 6 rfl) (by decide) (by decide)) (g := (mkF m 13 #[.val (.ref sa486), .val (.int 0), .val (.int 0), .val (.int 0), .unset, .unset] [(.int 58), (.int 2), (.ref sa486), (.ref sa486)])) rfl (by rw [hml]; rfl) (argsL := [(.ref sa486), (.int 2), (.int 58)]) (rest := [(.ref sa486)]) (lenOf own_pd19 rfl) rfl (by show 2 * 0 + _ ≤ _; exact Nat.le_of_eq rfl) (hb hby yt_13) (fun _ _ => ⟨rfl, zk, (by decide : 0 + 0 ≤ _), (by decide : 0 + 0 ≤ _)⟩)
  dsimp only [Pt.U, Pt.locs, Pt.cells, Pt.slots] at z1 l491 y491 z491 zc zb
  replace z1 := own_sub z1 l491 y491 z491
  obtain ⟨rfl, zn, zo⟩ := zb
  have zp := Fr.app zl zn
  obtain ⟨_, _, ⟨zd, L492, zy, n492⟩, -, z0, ⟨Lc492, ze, l492, y492, z492⟩, zf⟩ := Jvm.LawKit.callS z1 hx (y := own_m6) hown (mvT hZ (own_W hw 145 rfl)) (mvT hZ (own_W hw 146 rfl)) (mvT hZ (own_W hw 6 rfl)) (mvT hZ (own_W hw 147 rfl)) (by decide) (backOf (W := 0) (rm77 l Z a0 hw [] h0 n0 p1 A K cs sa486 EN OL0) hZ (own_W hw 147 rfl) (own_W hw 6 rfl) (by decide) (by decide)) (g := (mkF m 20 #[.val (.ref sa486), .val (.int 0), .val (.int 0), .val (.int 0), .unset, .unset] [(.int 59), (.int 0), (.int 2), (.int (-1)), (.ref sa486)])) rfl (by rw [hml]; rfl) (argsL := [(.ref sa486), (.int (-1)), (.int 2), (.int 0), (.int 59)]) (rest := []) (lenOf own_pd18 rfl) rfl (by show 2 * 0 + _ ≤ _; exact Nat.le_of_eq rfl) (hb hby yt_20) (fun _ _ => ⟨rfl, zo, (by decide : 0 + 0 ≤ _), (by decide : 0 + 0 ≤ _)⟩)
  dsimp only [Pt.U, Pt.locs, Pt.cells, Pt.slots] at z0 l492 y492 z492 zf ze
  replace z0 := own_sub z0 l492 y492 z492
  obtain ⟨rfl, zq, zr⟩ := ze
  have zs := Fr.app zp zq
  obtain ⟨_, _, ⟨z4, L493, zz, n493⟩, -, z2, ⟨Lc493, zg, l493, y493, z493⟩, zh⟩ := Jvm.LawKit.callS z0 hx (y := own_m4) hown (mvT hZ (own_W hw 121 rfl)) (mvT hZ (own_W hw 122 rfl)) (mvT hZ (own_W hw 6 rfl)) (mvT hZ (own_W hw 123 rfl)) (by decide) (backOf (W := 0) (rm76 l Z a0 hw [] h0 n0 p1 A K cs sa486 EN OL0) hZ (own_W hw 123 rfl) (own_W hw 6 rfl) (by decide) (by decide)) (g := (mkF m 34 #[.val (.ref sa486), .val (.int 0), .val (.int 0), .val (.int 0), .val (.int (-1)), .unset] [(.int 58), (.int (-1)), (.ref sa486)])) rfl (by rw [hml]; rfl) (argsL := [(.ref sa486), (.int (-1)), (.int 58)]) (rest := []) (lenOf own_pd14 rfl) rfl (by show 2 * 0 + _ ≤ _; exact Nat.le_of_eq rfl) (hb hby yt_34) (fun _ _ => ⟨rfl, zr, (by decide : 0 + 0 ≤ _), (by decide : 0 + 0 ≤ _)⟩)
  dsimp only [Pt.U, Pt.locs, Pt.cells, Pt.slots] at z2 l493 y493 z493 zh zg
  replace z2 := own_sub z2 l493 y493 z493
  obtain ⟨rfl, zt, zu⟩ := zg
  have zv := Fr.app zs zt
  obtain ⟨fs, hr, hrun, hended, hW, hsame⟩ := z2.leave (v := some (.int (-1))) (fun h => by rw [Bd.returns] at h; cases h)
  refine ⟨_, _, pre0 _ ?_, hrun, hended, _, _, rfl, ?_, ⟨_, rfl⟩, hW, hsame.mono (by decide) (by decide)⟩
  · show own_Y p e below s₁ m 0 #[.val (.ref sa486), .val (.int 0), .val (.int 0), .val (.int 0), .unset, .unset] [] _
    refine XS.aloadN X0.here hx rfl (hb hby yt_0) rfl rfl ?_
    refine XS.aloadN X0.here hx rfl (hb hby yt_1) rfl rfl ?_
    refine XS.aloadN X0.here hx rfl (hb hby yt_2) rfl rfl ?_
    refine XS.iloadN X0.here hx rfl (hb hby yt_3) rfl ?_
    refine XS.iconst X0.here hx rfl (hb hby yt_4) ?_
    refine XS.iconst X0.here hx rfl (hb hby yt_5) ?_
    refine XS.bipush X0.here hx rfl (hb hby yt_6) ?_
    refine za _ ?_
    show own_Y p e below zi m 11 #[.val (.ref sa486), .val (.int 0), .val (.int 0), .val (.int 0), .unset, .unset] [(.int 2), (.ref sa486), (.ref sa486)] _
    refine XS.bipush z3.here hx rfl (hb hby yt_11) ?_
    refine zc _ ?_
    show own_Y p e below zm m 16 #[.val (.ref sa486), .val (.int 0), .val (.int 0), .val (.int 0), .unset, .unset] [(.int (-1)), (.ref sa486)] _
    refine XS.iconst z1.here hx rfl (hb hby yt_16) ?_
    refine XS.iconst z1.here hx rfl (hb hby yt_17) ?_
    refine XS.bipush z1.here hx rfl (hb hby yt_18) ?_
    refine zf _ ?_
    show own_Y p e below zd m 23 #[.val (.ref sa486), .val (.int 0), .val (.int 0), .val (.int 0), .unset, .unset] [(.int (-1))] _
    refine XS.istore z0.here hx rfl (hb hby yt_23) rfl (l' := #[.val (.ref sa486), .val (.int 0), .val (.int 0), .val (.int 0), .val (.int (-1)), .unset]) rfl ?_
    refine XS.iloadN z0.here hx rfl (hb hby yt_25) rfl ?_
    refine XS.ifNo z0.here hx rfl (hb hby yt_26) rfl ((if0 _ _).trans (teq (by decide : (0 : Int32) = (0 : Int32))).2) ?_
    show own_Y p e below zd m 29 #[.val (.ref sa486), .val (.int 0), .val (.int 0), .val (.int 0), .val (.int (-1)), .unset] [] _
    refine XS.aloadN z0.here hx rfl (hb hby yt_29) rfl rfl ?_
    refine XS.iload z0.here hx rfl (hb hby yt_30) rfl ?_
    refine XS.bipush z0.here hx rfl (hb hby yt_32) ?_
    refine zh _ ?_
    show own_Y p e below z4 m 37 #[.val (.ref sa486), .val (.int 0), .val (.int 0), .val (.int 0), .val (.int (-1)), .unset] [(.int 0)] _
    refine XS.ifNo z2.here hx rfl (hb hby yt_37) rfl ((if0 _ _).trans (teq (by decide : (0 : Int32) = (0 : Int32))).2) ?_
    show own_Y p e below z4 m 40 #[.val (.ref sa486), .val (.int 0), .val (.int 0), .val (.int 0), .val (.int (-1)), .unset] [] _
    refine XS.iload z2.here hx rfl (hb hby yt_40) rfl ?_
    exact retI z2 hx Bd.returns (hb hby yt_42) hr
  · show PQ (some (.int (-1))) h0 n0 _ z4.heap _
    rw [zu]
    exact ⟨rfl, zv, rfl⟩
theorem rm88 (l : Launch) (Z : State) (a0 : Array Value) (hw : ∀ d ∈ tables_1, d.before a0 Z = true) (ws : List Jvm.Cond) (h0 : Heap) (n0 : Nat) (p1 : Int32) (A : Nat → Addr) (K : Nat → ClassId) (cs : Int32)  (sa486 : Addr) (EN : own_St Z A K cs) (OL0 : Old Z n0 h0) :
    own_MF l Z own_m4 prog_40_method_11_code 3 (some .boolean) ws (Room.mk 0 0 0 0) #[(.ref sa486), (.int (-1)), (.int 90)] h0 (PQ (some (.int 0)) h0 n0) := by
  refine MetFree.of_bodySF (plainFor_of_name own_pn6) hisR ?_
  intro p e s m args below meth c s₁ Bd hml0 hP hK
  obtain ⟨rfl, hZ, hh⟩ := hP
  have hx := Bd.exec
  have hby := Bd.bytes
  have hml : c.maxLocals = 3 := hml0
  have hown : s.vm.findClass y_s1 = some m.cls := findClass_of_methodNamed Bd.named
  have hnm := (name_of_methodNamed Bd.named Bd.method).1
  have X0 : Stand p l e (Room.mk 0 0 0 0) s m #[(.ref sa486), (.int (-1)), (.int 90)] below meth c s₁ [] 0 0 := Stand.of_body Bd
  have e0 : s₁.heap = h0 := by rw [← hh, Bd.state]; rfl
  have N0 := Fr.nil n0
  have pre0 : own_P p e below s₁ m 0 #[.val (.ref sa486), .val (.int (-1)), .val (.int 90)] [] s₁ #[(.ref sa486), (.int (-1)), (.int 90)] 3 := fun t k => castTop (by first | (simp [entryFrame, mkF, argsToLocals, Value.category, maxLocals]; done) | rfl) k
  have KK0 : Keep h0 h0 [] := Keep.refl _ _
  obtain ⟨fs, hr, hrun, hended, hW, hsame⟩ := X0.leave (v := some (.int 0)) (fun h => by rw [Bd.returns] at h; cases h)
  refine ⟨_, _, pre0 _ ?_, hrun, hended, _, _, rfl, ?_, ⟨_, rfl⟩, hW, hsame.mono (by decide) (by decide)⟩
  · show own_Y p e below s₁ m 0 #[.val (.ref sa486), .val (.int (-1)), .val (.int 90)] [] _
    refine XS.iloadN X0.here hx rfl (hb hby yi_0) rfl ?_
    refine XS.ifYes X0.here hx rfl (pc0 := 1) (pc' := 25) rfl (hb hby yi_1) rfl ((if0 _ _).trans (tlt (by decide : (-1 : Int32) < (0 : Int32))).1) (by decide) (by decide) ?_
    show own_Y p e below s₁ m 25 #[.val (.ref sa486), .val (.int (-1)), .val (.int 90)] [] _
    refine XS.iconst X0.here hx rfl (hb hby yi_25) ?_
    exact retN X0 hx (t := .boolean) Bd.returns (by simp) (hb hby yi_26) hr
  · show PQ (some (.int 0)) h0 n0 _ s₁.heap _
    rw [e0]
    exact ⟨rfl, N0, rfl⟩
theorem rm89 (l : Launch) (Z : State) (a0 : Array Value) (hw : ∀ d ∈ tables_1, d.before a0 Z = true) (ws : List Jvm.Cond) (h0 : Heap) (n0 : Nat) (p1 : Int32) (A : Nat → Addr) (K : Nat → ClassId) (cs : Int32)  (sa486 : Addr) (EN : own_St Z A K cs) (OL0 : Old Z n0 h0) :
    own_MF l Z own_m4 prog_40_method_11_code 3 (some .boolean) ws (Room.mk 0 0 0 0) #[(.ref sa486), (.int (-1)), (.int 43)] h0 (PQ (some (.int 0)) h0 n0) := by
  refine MetFree.of_bodySF (plainFor_of_name own_pn6) hisR ?_
  intro p e s m args below meth c s₁ Bd hml0 hP hK
  obtain ⟨rfl, hZ, hh⟩ := hP
  have hx := Bd.exec
  have hby := Bd.bytes
  have hml : c.maxLocals = 3 := hml0
  have hown : s.vm.findClass y_s1 = some m.cls := findClass_of_methodNamed Bd.named
  have hnm := (name_of_methodNamed Bd.named Bd.method).1
  have X0 : Stand p l e (Room.mk 0 0 0 0) s m #[(.ref sa486), (.int (-1)), (.int 43)] below meth c s₁ [] 0 0 := Stand.of_body Bd
  have e0 : s₁.heap = h0 := by rw [← hh, Bd.state]; rfl
  have N0 := Fr.nil n0
  have pre0 : own_P p e below s₁ m 0 #[.val (.ref sa486), .val (.int (-1)), .val (.int 43)] [] s₁ #[(.ref sa486), (.int (-1)), (.int 43)] 3 := fun t k => castTop (by first | (simp [entryFrame, mkF, argsToLocals, Value.category, maxLocals]; done) | rfl) k
  have KK0 : Keep h0 h0 [] := Keep.refl _ _
  obtain ⟨fs, hr, hrun, hended, hW, hsame⟩ := X0.leave (v := some (.int 0)) (fun h => by rw [Bd.returns] at h; cases h)
  refine ⟨_, _, pre0 _ ?_, hrun, hended, _, _, rfl, ?_, ⟨_, rfl⟩, hW, hsame.mono (by decide) (by decide)⟩
  · show own_Y p e below s₁ m 0 #[.val (.ref sa486), .val (.int (-1)), .val (.int 43)] [] _
    refine XS.iloadN X0.here hx rfl (hb hby yi_0) rfl ?_
    refine XS.ifYes X0.here hx rfl (pc0 := 1) (pc' := 25) rfl (hb hby yi_1) rfl ((if0 _ _).trans (tlt (by decide : (-1 : Int32) < (0 : Int32))).1) (by decide) (by decide) ?_
    show own_Y p e below s₁ m 25 #[.val (.ref sa486), .val (.int (-1)), .val (.int 43)] [] _
    refine XS.iconst X0.here hx rfl (hb hby yi_25) ?_
    exact retN X0 hx (t := .boolean) Bd.returns (by simp) (hb hby yi_26) hr
  · show PQ (some (.int 0)) h0 n0 _ s₁.heap _
    rw [e0]
    exact ⟨rfl, N0, rfl⟩
theorem yu_0 : decode prog_40_method_20_code 0 = .ok (.aload_n 0, 1) := by decide +kernel
theorem yu_1 : decode prog_40_method_20_code 1 = .ok (.iload_n 1, 1) := by decide +kernel
theorem yu_2 : decode prog_40_method_20_code 2 = .ok (.bipush 90, 2) := by decide +kernel
theorem yu_4 : decode prog_40_method_20_code 4 = .ok (.invokestatic 176, 3) := by decide +kernel
theorem yu_7 : decode prog_40_method_20_code 7 = .ok (.ifCond .eq 7, 3) := by decide +kernel
theorem yu_14 : decode prog_40_method_20_code 14 = .ok (.aload_n 0, 1) := by decide +kernel
theorem yu_15 : decode prog_40_method_20_code 15 = .ok (.iload_n 1, 1) := by decide +kernel
theorem yu_16 : decode prog_40_method_20_code 16 = .ok (.bipush 43, 2) := by decide +kernel
theorem yu_18 : decode prog_40_method_20_code 18 = .ok (.invokestatic 176, 3) := by decide +kernel
theorem yu_21 : decode prog_40_method_20_code 21 = .ok (.ifCond .ne 15, 3) := by decide +kernel
theorem yu_24 : decode prog_40_method_20_code 24 = .ok (.aload_n 0, 1) := by decide +kernel
theorem yu_25 : decode prog_40_method_20_code 25 = .ok (.iload_n 1, 1) := by decide +kernel
theorem yu_26 : decode prog_40_method_20_code 26 = .ok (.bipush 45, 2) := by decide +kernel
theorem yu_28 : decode prog_40_method_20_code 28 = .ok (.invokestatic 176, 3) := by decide +kernel
theorem yu_31 : decode prog_40_method_20_code 31 = .ok (.ifCond .ne 5, 3) := by decide +kernel
theorem yu_34 : decode prog_40_method_20_code 34 = .ok (.iload_n 1, 1) := by decide +kernel
theorem yu_35 : decode prog_40_method_20_code 35 = .ok (.ireturn, 1) := by decide +kernel
theorem rm87 (l : Launch) (Z : State) (a0 : Array Value) (hw : ∀ d ∈ tables_1, d.before a0 Z = true) (ws : List Jvm.Cond) (h0 : Heap) (n0 : Nat) (p1 : Int32) (A : Nat → Addr) (K : Nat → ClassId) (cs : Int32)  (sa486 : Addr) (EN : own_St Z A K cs) (OL0 : Old Z n0 h0) :
    own_MF l Z own_m29 prog_40_method_20_code 3 (some .int) ws (Room.mk 1 0 0 14) #[(.ref sa486), (.int (-1))] h0 (PQ (some (.int (-1))) h0 n0) := by
  refine MetFree.of_bodySF (plainFor_of_name own_pn6) hisR ?_
  intro p e s m args below meth c s₁ Bd hml0 hP hK
  obtain ⟨rfl, hZ, hh⟩ := hP
  have hx := Bd.exec
  have hby := Bd.bytes
  have hml : c.maxLocals = 3 := hml0
  have hown : s.vm.findClass y_s1 = some m.cls := findClass_of_methodNamed Bd.named
  have hnm := (name_of_methodNamed Bd.named Bd.method).1
  have X0 : Stand p l e (Room.mk 1 0 0 14) s m #[(.ref sa486), (.int (-1))] below meth c s₁ [] 0 0 := Stand.of_body Bd
  have e0 : s₁.heap = h0 := by rw [← hh, Bd.state]; rfl
  have N0 := Fr.nil n0
  have pre0 : own_P p e below s₁ m 0 #[.val (.ref sa486), .val (.int (-1)), .unset] [] s₁ #[(.ref sa486), (.int (-1))] 3 := fun t k => castTop (by first | (simp [entryFrame, mkF, argsToLocals, Value.category, maxLocals]; done) | rfl) k
  have KK0 : Keep h0 h0 [] := Keep.refl _ _
  obtain ⟨_, _, ⟨z4, L495, zl, n495⟩, -, z0, ⟨Lc495, z5, l495, y495, z495⟩, z6⟩ := Jvm.LawKit.callS X0 hx (y := own_m4) hown (mvT hZ (own_W hw 121 rfl)) (mvT hZ (own_W hw 122 rfl)) (mvT hZ (own_W hw 6 rfl)) (mvT hZ (own_W hw 123 rfl)) (by decide) (backOf (W := 0) (rm88 l Z a0 hw [] h0 n0 p1 A K cs sa486 EN OL0) hZ (own_W hw 123 rfl) (own_W hw 6 rfl) (by decide) (by decide)) (g := (mkF m 4 #[.val (.ref sa486), .val (.int (-1)), .unset] [(.int 90), (.int (-1)), (.ref sa486)])) rfl (by rw [hml]; rfl) (argsL := [(.ref sa486), (.int (-1)), (.int 90)]) (rest := []) (lenOf own_pd14 rfl) rfl (by show 2 * 0 + _ ≤ _; exact Nat.le_of_eq rfl) (hb hby yu_4) (fun _ _ => ⟨rfl, e0, (by decide : 0 + 0 ≤ _), (by decide : 0 + 0 ≤ _)⟩)
  dsimp only [Pt.U, Pt.locs, Pt.cells, Pt.slots] at z0 l495 y495 z495 z6 z5
  replace z0 := own_sub z0 l495 y495 z495
  obtain ⟨rfl, zc, zd⟩ := z5
  have ze := Fr.app N0 zc
  obtain ⟨_, _, ⟨z7, L496, zm, n496⟩, -, z1, ⟨Lc496, z8, l496, y496, z496⟩, z9⟩ := Jvm.LawKit.callS z0 hx (y := own_m4) hown (mvT hZ (own_W hw 121 rfl)) (mvT hZ (own_W hw 122 rfl)) (mvT hZ (own_W hw 6 rfl)) (mvT hZ (own_W hw 123 rfl)) (by decide) (backOf (W := 0) (rm89 l Z a0 hw [] h0 n0 p1 A K cs sa486 EN OL0) hZ (own_W hw 123 rfl) (own_W hw 6 rfl) (by decide) (by decide)) (g := (mkF m 18 #[.val (.ref sa486), .val (.int (-1)), .unset] [(.int 43), (.int (-1)), (.ref sa486)])) rfl (by rw [hml]; rfl) (argsL := [(.ref sa486), (.int (-1)), (.int 43)]) (rest := []) (lenOf own_pd14 rfl) rfl (by show 2 * 0 + _ ≤ _; exact Nat.le_of_eq rfl) (hb hby yu_18) (fun _ _ => ⟨rfl, zd, (by decide : 0 + 0 ≤ _), (by decide : 0 + 0 ≤ _)⟩)
  dsimp only [Pt.U, Pt.locs, Pt.cells, Pt.slots] at z1 l496 y496 z496 z9 z8
  replace z1 := own_sub z1 l496 y496 z496
  obtain ⟨rfl, zf, zg⟩ := z8
  have zh := Fr.app ze zf
  obtain ⟨_, _, ⟨z3, L497, zn, n497⟩, -, z2, ⟨Lc497, za, l497, y497, z497⟩, zb⟩ := Jvm.LawKit.callS z1 hx (y := own_m4) hown (mvT hZ (own_W hw 121 rfl)) (mvT hZ (own_W hw 122 rfl)) (mvT hZ (own_W hw 6 rfl)) (mvT hZ (own_W hw 123 rfl)) (by decide) (backOf (W := 0) (rm72 l Z a0 hw [] h0 n0 p1 A K cs sa486 EN OL0) hZ (own_W hw 123 rfl) (own_W hw 6 rfl) (by decide) (by decide)) (g := (mkF m 28 #[.val (.ref sa486), .val (.int (-1)), .unset] [(.int 45), (.int (-1)), (.ref sa486)])) rfl (by rw [hml]; rfl) (argsL := [(.ref sa486), (.int (-1)), (.int 45)]) (rest := []) (lenOf own_pd14 rfl) rfl (by show 2 * 0 + _ ≤ _; exact Nat.le_of_eq rfl) (hb hby yu_28) (fun _ _ => ⟨rfl, zg, (by decide : 0 + 0 ≤ _), (by decide : 0 + 0 ≤ _)⟩)
  dsimp only [Pt.U, Pt.locs, Pt.cells, Pt.slots] at z2 l497 y497 z497 zb za
  replace z2 := own_sub z2 l497 y497 z497
  obtain ⟨rfl, zi, zj⟩ := za
  have zk := Fr.app zh zi
  obtain ⟨fs, hr, hrun, hended, hW, hsame⟩ := z2.leave (v := some (.int (-1))) (fun h => by rw [Bd.returns] at h; cases h)
  refine ⟨_, _, pre0 _ ?_, hrun, hended, _, _, rfl, ?_, ⟨_, rfl⟩, hW, hsame.mono (by decide) (by decide)⟩
  · show own_Y p e below s₁ m 0 #[.val (.ref sa486), .val (.int (-1)), .unset] [] _
    refine XS.aloadN X0.here hx rfl (hb hby yu_0) rfl rfl ?_
    refine XS.iloadN X0.here hx rfl (hb hby yu_1) rfl ?_
    refine XS.bipush X0.here hx rfl (hb hby yu_2) ?_
    refine z6 _ ?_
    show own_Y p e below z4 m 7 #[.val (.ref sa486), .val (.int (-1)), .unset] [(.int 0)] _
    refine XS.ifYes z0.here hx rfl (pc0 := 7) (pc' := 14) rfl (hb hby yu_7) rfl ((if0 _ _).trans (teq (by decide : (0 : Int32) = (0 : Int32))).1) (by decide) (by decide) ?_
    show own_Y p e below z4 m 14 #[.val (.ref sa486), .val (.int (-1)), .unset] [] _
    refine XS.aloadN z0.here hx rfl (hb hby yu_14) rfl rfl ?_
    refine XS.iloadN z0.here hx rfl (hb hby yu_15) rfl ?_
    refine XS.bipush z0.here hx rfl (hb hby yu_16) ?_
    refine z9 _ ?_
    show own_Y p e below z7 m 21 #[.val (.ref sa486), .val (.int (-1)), .unset] [(.int 0)] _
    refine XS.ifNo z1.here hx rfl (hb hby yu_21) rfl ((if0 _ _).trans (teq (by decide : (0 : Int32) = (0 : Int32))).2) ?_
    show own_Y p e below z7 m 24 #[.val (.ref sa486), .val (.int (-1)), .unset] [] _
    refine XS.aloadN z1.here hx rfl (hb hby yu_24) rfl rfl ?_
    refine XS.iloadN z1.here hx rfl (hb hby yu_25) rfl ?_
    refine XS.bipush z1.here hx rfl (hb hby yu_26) ?_
    refine zb _ ?_
    show own_Y p e below z3 m 31 #[.val (.ref sa486), .val (.int (-1)), .unset] [(.int 0)] _
    refine XS.ifNo z2.here hx rfl (hb hby yu_31) rfl ((if0 _ _).trans (teq (by decide : (0 : Int32) = (0 : Int32))).2) ?_
    show own_Y p e below z3 m 34 #[.val (.ref sa486), .val (.int (-1)), .unset] [] _
    refine XS.iloadN z2.here hx rfl (hb hby yu_34) rfl ?_
    exact retI z2 hx Bd.returns (hb hby yu_35) hr
  · show PQ (some (.int (-1))) h0 n0 _ z3.heap _
    rw [zj]
    exact ⟨rfl, zk, rfl⟩
theorem ye_380 : decode prog_40_method_7_code 380 = .ok (.aload_n 1, 1) := by decide +kernel
theorem ye_381 : decode prog_40_method_7_code 381 = .ok (.aload_n 1, 1) := by decide +kernel
theorem ye_382 : decode prog_40_method_7_code 382 = .ok (.iconst 0, 1) := by decide +kernel
theorem ye_383 : decode prog_40_method_7_code 383 = .ok (.iconst 0, 1) := by decide +kernel
theorem ye_384 : decode prog_40_method_7_code 384 = .ok (.iconst 0, 1) := by decide +kernel
theorem ye_385 : decode prog_40_method_7_code 385 = .ok (.invokestatic 161, 3) := by decide +kernel
theorem ye_388 : decode prog_40_method_7_code 388 = .ok (.invokestatic 165, 3) := by decide +kernel
theorem ye_391 : decode prog_40_method_7_code 391 = .ok (.iload_n 2, 1) := by decide +kernel
theorem ye_392 : decode prog_40_method_7_code 392 = .ok (.if_icmp .ne 7, 3) := by decide +kernel
theorem ye_399 : decode prog_40_method_7_code 399 = .ok (.iconst 0, 1) := by decide +kernel
theorem ye_400 : decode prog_40_method_7_code 400 = .ok (.goto 26, 3) := by decide +kernel
theorem rm85 (l : Launch) (Z : State) (a0 : Array Value) (hw : ∀ d ∈ tables_1, d.before a0 Z = true) (ws : List Jvm.Cond) (h0 : Heap) (n0 : Nat) (p1 : Int32) (A : Nat → Addr) (K : Nat → ClassId) (cs : Int32) (ta : Addr) (tj : Int32)  (sb486 : Addr) (sa486 : Addr) (kc486 : ClassId) (EN : own_St Z A K cs) (gE : Exa Z Z.heap ta y_s1) (gF : Fld Z Z.heap ta y_s3 "ordinal" "I" (.int tj)) (gj : tj = (24 : Int32)) (OL0 : Old Z n0 h0) (z5 : Exa Z h0 sa486 y_s2) (z7 : Fld Z h0 sa486 y_s2 "value" "[B" (.ref sb486)) (z8 : Arv Z h0 sb486 kc486 .byte (2 : Int32) [(.int 48), (.int 48)] (.int 0)) (z9 : Fld Z h0 sa486 y_s2 "coder" "B" (.int 0)) :
    own_MF l Z own_m0 prog_40_method_7_code 3 (some .boolean) ws (Room.mk 6 0 0 92) #[(.ref ta), (.ref sa486)] h0 (PQ (some (.int 0)) h0 n0) := by
  refine MetFree.of_bodySF (plainFor_of_name own_pn6) hisR ?_
  intro p e s m args below meth c s₁ Bd hml0 hP hK
  obtain ⟨rfl, hZ, hh⟩ := hP
  have hx := Bd.exec
  have hby := Bd.bytes
  have hml : c.maxLocals = 3 := hml0
  have hown : s.vm.findClass y_s1 = some m.cls := findClass_of_methodNamed Bd.named
  have hnm := (name_of_methodNamed Bd.named Bd.method).1
  have X0 : Stand p l e (Room.mk 6 0 0 92) s m #[(.ref ta), (.ref sa486)] below meth c s₁ [] 0 0 := Stand.of_body Bd
  have e0 : s₁.heap = h0 := by rw [← hh, Bd.state]; rfl
  have N0 := Fr.nil n0
  have pre0 : own_P p e below s₁ m 0 #[.val (.ref ta), .val (.ref sa486), .unset] [] s₁ #[(.ref ta), (.ref sa486)] 3 := fun t k => castTop (by first | (simp [entryFrame, mkF, argsToLocals, Value.category, maxLocals]; done) | rfl) k
  have KK0 : Keep h0 h0 [] := Keep.refl _ _
  obtain ⟨cq487, kq487, zk, z10, zl⟩ := isOf hZ e0 z5
  obtain ⟨_, _, ⟨za, L487, z11, n487⟩, -, z2, ⟨Lc487, zb, l487, y487, z487⟩, zc⟩ := X0.virtualBack hx (y := own_m1) (z := own_m1) hown (mvT hZ (own_W hw 21 rfl)) (mvT hZ (own_W hw 22 rfl)) (notFace_of_selects (args := #[]) (mvT hZ (own_W hw 24 rfl))) (mvT hZ (own_W hw 24 rfl)) (mvT hZ (own_W hw 23 rfl)) (by decide) (backOf (W := 0) (rm2 l Z a0 hw [] h0 n0 p1 A K cs sb486 sa486 kc486 EN OL0 z7 z8 z5 z9) hZ (own_W hw 25 rfl) (own_W hw 9 rfl) (by decide) (by decide)) zk zl (g := (mkF m 1 #[.val (.ref ta), .val (.ref sa486), .unset] [(.ref sa486)])) rfl (by rw [hml]; rfl) (Steps.refl _) (argsL := []) (rest := []) (lenOf own_pd2 rfl) rfl (by show 2 * 0 + _ ≤ _; exact Nat.le_of_eq rfl) (hb hby ye_1) (fun _ _ => ⟨rfl, e0, (by decide : 0 + 0 ≤ _), (by decide : 0 + 0 ≤ _)⟩)
  dsimp only [Pt.U, Pt.locs, Pt.cells, Pt.slots] at z2 l487 y487 z487 zc zb
  replace z2 := own_sub z2 l487 y487 z487
  obtain ⟨rfl, zm, zd⟩ := zb
  have zn := Fr.app N0 zm
  obtain ⟨cq488, kq488, zo, z12, zp⟩ := isOf hZ zd (gE.ext OL0.2)
  obtain ⟨_, _, ⟨z3, L488, z13, n488⟩, -, z0, ⟨Lc488, ze, l488, y488, z488⟩, zf⟩ := z2.virtualBackUp hx (x := own_m8) (y := own_m7) (owner := y_s3) hown (mvT hZ (own_W hw 34 rfl)) (mvT hZ (own_W hw 35 rfl)) (mvT hZ (own_W hw 36 rfl)) (by decide) (mvT hZ (own_W hw 38 rfl)) (mvT hZ (own_W hw 37 rfl)) (backOf (W := 0) (rm4 l Z a0 hw [] h0 n0 p1 A K cs ta tj EN gE gF OL0) hZ (own_W hw 40 rfl) (own_W hw 39 rfl) (by decide) (by decide)) zo zp (g := (mkF m 12 #[.val (.ref ta), .val (.ref sa486), .val (.int 2)] [(.ref ta)])) rfl (by rw [hml]; rfl) (Steps.refl _) (argsL := []) (rest := []) (lenOf own_pd2 rfl) rfl (by show 2 * 0 + _ ≤ _; exact Nat.le_of_eq rfl) (hb hby ye_12) (fun _ _ => ⟨rfl, zd, (by decide : 0 + 0 ≤ _), (by decide : 0 + 0 ≤ _)⟩)
  dsimp only [Pt.U, Pt.locs, Pt.cells, Pt.slots] at z0 l488 y488 z488 zf ze
  replace z0 := own_sub z0 l488 y488 z488
  obtain ⟨rfl, zq, zr⟩ := ze
  have zs := Fr.app zn zq
  have ts489 : ∀ t, Steps p.tables e below (z3.setTop (mkF m 380 #[.val (.ref ta), .val (.ref sa486), .val (.int 2)] [])) t → Steps p.tables e below (z3.setTop (mkF m 15 #[.val (.ref ta), .val (.ref sa486), .val (.int 2)] [(.int tj)])) t := by
    intro t k
    rcases gj with rfl <;> exact XS.tswIn z0.here hx rfl (pc0 := 15) (pc' := 380) rfl (hb hby ye_15) rfl (by decide) (o := 365) (by decide) (by decide) (by decide) k
  obtain ⟨_, _, ⟨zt, L494, z14, n494⟩, -, z4, ⟨Lc494, zg, l494, y494, z494⟩, zh⟩ := Jvm.LawKit.callS z0 hx (y := own_m14) hown (mvT hZ (own_W hw 142 rfl)) (mvT hZ (own_W hw 143 rfl)) (mvT hZ (own_W hw 6 rfl)) (mvT hZ (own_W hw 144 rfl)) (by decide) (backOf (W := 1) (rm86 l Z a0 hw [] h0 n0 p1 A K cs sb486 sa486 kc486 EN OL0 z5 z7 z8 z9) hZ (own_W hw 144 rfl) (own_W hw 6 rfl) (by decide) (by decide)) (g := (mkF m 385 #[.val (.ref ta), .val (.ref sa486), .val (.int 2)] [(.int 0), (.int 0), (.int 0), (.ref sa486), (.ref sa486)])) rfl (by rw [hml]; rfl) (argsL := [(.ref sa486), (.int 0), (.int 0), (.int 0)]) (rest := [(.ref sa486)]) (lenOf own_pd20 rfl) rfl (by show 2 * 0 + _ ≤ _; exact Nat.le_of_eq rfl) (hb hby ye_385) (fun _ _ => ⟨rfl, zr, (by decide : 0 + 0 ≤ _), (by decide : 0 + 0 ≤ _)⟩)
  dsimp only [Pt.U, Pt.locs, Pt.cells, Pt.slots] at z4 l494 y494 z494 zh zg
  replace z4 := own_sub z4 l494 y494 z494
  obtain ⟨rfl, zu, zv⟩ := zg
  have zw := Fr.app zs zu
  obtain ⟨_, _, ⟨z6, L498, z15, n498⟩, -, z1, ⟨Lc498, zi, l498, y498, z498⟩, zj⟩ := Jvm.LawKit.callS z4 hx (y := own_m29) hown (mvT hZ (own_W hw 151 rfl)) (mvT hZ (own_W hw 152 rfl)) (mvT hZ (own_W hw 6 rfl)) (mvT hZ (own_W hw 153 rfl)) (by decide) (backOf (W := 0) (rm87 l Z a0 hw [] h0 n0 p1 A K cs sa486 EN OL0) hZ (own_W hw 153 rfl) (own_W hw 6 rfl) (by decide) (by decide)) (g := (mkF m 388 #[.val (.ref ta), .val (.ref sa486), .val (.int 2)] [(.int (-1)), (.ref sa486)])) rfl (by rw [hml]; rfl) (argsL := [(.ref sa486), (.int (-1))]) (rest := []) (lenOf own_pd12 rfl) rfl (by show 2 * 0 + _ ≤ _; exact Nat.le_of_eq rfl) (hb hby ye_388) (fun _ _ => ⟨rfl, zv, (by decide : 0 + 0 ≤ _), (by decide : 0 + 0 ≤ _)⟩)
  dsimp only [Pt.U, Pt.locs, Pt.cells, Pt.slots] at z1 l498 y498 z498 zj zi
  replace z1 := own_sub z1 l498 y498 z498
  obtain ⟨rfl, zx, zy⟩ := zi
  have zz := Fr.app zw zx
  obtain ⟨fs, hr, hrun, hended, hW, hsame⟩ := z1.leave (v := some (.int 0)) (fun h => by rw [Bd.returns] at h; cases h)
  refine ⟨_, _, pre0 _ ?_, hrun, hended, _, _, rfl, ?_, ⟨_, rfl⟩, hW, hsame.mono (by decide) (by decide)⟩
  · show own_Y p e below s₁ m 0 #[.val (.ref ta), .val (.ref sa486), .unset] [] _
    refine XS.aloadN X0.here hx rfl (hb hby ye_0) rfl rfl ?_
    refine zc.trans ?_
    show own_Y p e below za m 4 #[.val (.ref ta), .val (.ref sa486), .unset] [(.int 2)] _
    refine XS.istoreN z2.here hx rfl (hb hby ye_4) rfl (l' := #[.val (.ref ta), .val (.ref sa486), .val (.int 2)]) rfl ?_
    refine XS.iloadN z2.here hx rfl (hb hby ye_5) rfl ?_
    refine XS.ifYes z2.here hx rfl (pc0 := 6) (pc' := 11) rfl (hb hby ye_6) rfl ((if0 _ _).trans (feq (by decide : ¬ ((2 : Int32) = (0 : Int32)))).2) (by decide) (by decide) ?_
    show own_Y p e below za m 11 #[.val (.ref ta), .val (.ref sa486), .val (.int 2)] [] _
    refine XS.aloadN z2.here hx rfl (hb hby ye_11) rfl rfl ?_
    refine zf.trans ?_
    show own_Y p e below z3 m 15 #[.val (.ref ta), .val (.ref sa486), .val (.int 2)] [(.int tj)] _
    refine ts489 _ ?_
    show own_Y p e below z3 m 380 #[.val (.ref ta), .val (.ref sa486), .val (.int 2)] [] _
    refine XS.aloadN z0.here hx rfl (hb hby ye_380) rfl rfl ?_
    refine XS.aloadN z0.here hx rfl (hb hby ye_381) rfl rfl ?_
    refine XS.iconst z0.here hx rfl (hb hby ye_382) ?_
    refine XS.iconst z0.here hx rfl (hb hby ye_383) ?_
    refine XS.iconst z0.here hx rfl (hb hby ye_384) ?_
    refine zh _ ?_
    show own_Y p e below zt m 388 #[.val (.ref ta), .val (.ref sa486), .val (.int 2)] [(.int (-1)), (.ref sa486)] _
    refine zj _ ?_
    show own_Y p e below z6 m 391 #[.val (.ref ta), .val (.ref sa486), .val (.int 2)] [(.int (-1))] _
    refine XS.iloadN z1.here hx rfl (hb hby ye_391) rfl ?_
    refine XS.icmpYes z1.here hx rfl (pc0 := 392) (pc' := 399) rfl (hb hby ye_392) rfl (feq (by decide : ¬ ((-1 : Int32) = (2 : Int32)))).2 (by decide) (by decide) ?_
    show own_Y p e below z6 m 399 #[.val (.ref ta), .val (.ref sa486), .val (.int 2)] [] _
    refine XS.iconst z1.here hx rfl (hb hby ye_399) ?_
    refine XS.goto z1.here hx rfl (pc0 := 400) (pc' := 426) rfl (hb hby ye_400) (by decide) (by decide) ?_
    exact retN z1 hx (t := .boolean) Bd.returns (by simp) (hb hby ye_426) hr
  · show PQ (some (.int 0)) h0 n0 _ z6.heap _
    rw [zy]
    exact ⟨rfl, zz, rfl⟩
theorem rm91 (l : Launch) (Z : State) (a0 : Array Value) (hw : ∀ d ∈ tables_1, d.before a0 Z = true) (ws : List Jvm.Cond) (h0 : Heap) (n0 : Nat) (p1 : Int32) (A : Nat → Addr) (K : Nat → ClassId) (cs : Int32)  (sa503 : Addr) (EN : own_St Z A K cs) (OL0 : Old Z n0 h0) :
    own_MF l Z own_m14 prog_40_method_19_code 6 (some .int) ws (Room.mk 2 0 0 29) #[(.ref sa503), (.int (-1)), (.int 0), (.int 1)] h0 (PQ (some (.int (-1))) h0 n0) := by
  refine MetFree.of_bodySF (plainFor_of_name own_pn6) hisR ?_
  intro p e s m args below meth c s₁ Bd hml0 hP hK
  obtain ⟨rfl, hZ, hh⟩ := hP
  have hx := Bd.exec
  have hby := Bd.bytes
  have hml : c.maxLocals = 6 := hml0
  have hown : s.vm.findClass y_s1 = some m.cls := findClass_of_methodNamed Bd.named
  have hnm := (name_of_methodNamed Bd.named Bd.method).1
  have X0 : Stand p l e (Room.mk 2 0 0 29) s m #[(.ref sa503), (.int (-1)), (.int 0), (.int 1)] below meth c s₁ [] 0 0 := Stand.of_body Bd
  have e0 : s₁.heap = h0 := by rw [← hh, Bd.state]; rfl
  have N0 := Fr.nil n0
  have pre0 : own_P p e below s₁ m 0 #[.val (.ref sa503), .val (.int (-1)), .val (.int 0), .val (.int 1), .unset, .unset] [] s₁ #[(.ref sa503), (.int (-1)), (.int 0), (.int 1)] 6 := fun t k => castTop (by first | (simp [entryFrame, mkF, argsToLocals, Value.category, maxLocals]; done) | rfl) k
  have KK0 : Keep h0 h0 [] := Keep.refl _ _
  obtain ⟨_, _, ⟨ze, L508, zs, n508⟩, -, z3, ⟨Lc508, z5, l508, y508, z508⟩, z6⟩ := Jvm.LawKit.callS X0 hx (y := own_m6) hown (mvT hZ (own_W hw 145 rfl)) (mvT hZ (own_W hw 146 rfl)) (mvT hZ (own_W hw 6 rfl)) (mvT hZ (own_W hw 147 rfl)) (by decide) (backOf (W := 2) (rm74 l Z a0 hw [] h0 n0 p1 A K cs sa503 EN OL0) hZ (own_W hw 147 rfl) (own_W hw 6 rfl) (by decide) (by decide)) (g := (mkF m 8 #[.val (.ref sa503), .val (.int (-1)), .val (.int 0), .val (.int 1), .unset, .unset] [(.int 23), (.int 0), (.int 2), (.int (-1)), (.ref sa503), (.ref sa503), (.ref sa503)])) rfl (by rw [hml]; rfl) (argsL := [(.ref sa503), (.int (-1)), (.int 2), (.int 0), (.int 23)]) (rest := [(.ref sa503), (.ref sa503)]) (lenOf own_pd18 rfl) rfl (by show 2 * 0 + _ ≤ _; exact Nat.le_of_eq rfl) (hb hby yt_8) (fun _ _ => ⟨rfl, e0, (by decide : 0 + 0 ≤ _), (by decide : 0 + 0 ≤ _)⟩)
  dsimp only [Pt.U, Pt.locs, Pt.cells, Pt.slots] at z3 l508 y508 z508 z6 z5
  replace z3 := own_sub z3 l508 y508 z508
  obtain ⟨rfl, zf, zg⟩ := z5
  have zh := Fr.app N0 zf
  obtain ⟨_, _, ⟨zi, L509, zt, n509⟩, -, z1, ⟨Lc509, z7, l509, y509, z509⟩, z8⟩ := Jvm.LawKit.callS z3 hx (y := own_m10) hown (mvT hZ (own_W hw 148 rfl)) (mvT hZ (own_W hw 149 rfl)) (mvT hZ (own_W hw 6 rfl)) (mvT hZ (own_W hw 150 rfl)) (by decide) (backOf (W := 1) (rm75 l Z a0 hw [] h0 n0 p1 A K cs sa503 EN OL0) hZ (own_W hw 150 rfl) (own_W hw 6 rfl) (by decide) (by decide)) (g := (mkF m 13 #[.val (.ref sa503), .val (.int (-1)), .val (.int 0), .val (.int 1), .unset, .unset] [(.int 58), (.int (-1)), (.ref sa503), (.ref sa503)])) rfl (by rw [hml]; rfl) (argsL := [(.ref sa503), (.int (-1)), (.int 58)]) (rest := [(.ref sa503)]) (lenOf own_pd19 rfl) rfl (by show 2 * 0 + _ ≤ _; exact Nat.le_of_eq rfl) (hb hby yt_13) (fun _ _ => ⟨rfl, zg, (by decide : 0 + 0 ≤ _), (by decide : 0 + 0 ≤ _)⟩)
  dsimp only [Pt.U, Pt.locs, Pt.cells, Pt.slots] at z1 l509 y509 z509 z8 z7
  replace z1 := own_sub z1 l509 y509 z509
  obtain ⟨rfl, zj, zk⟩ := z7
  have zl := Fr.app zh zj
  obtain ⟨_, _, ⟨z9, L510, zu, n510⟩, -, z0, ⟨Lc510, za, l510, y510, z510⟩, zb⟩ := Jvm.LawKit.callS z1 hx (y := own_m6) hown (mvT hZ (own_W hw 145 rfl)) (mvT hZ (own_W hw 146 rfl)) (mvT hZ (own_W hw 6 rfl)) (mvT hZ (own_W hw 147 rfl)) (by decide) (backOf (W := 0) (rm77 l Z a0 hw [] h0 n0 p1 A K cs sa503 EN OL0) hZ (own_W hw 147 rfl) (own_W hw 6 rfl) (by decide) (by decide)) (g := (mkF m 20 #[.val (.ref sa503), .val (.int (-1)), .val (.int 0), .val (.int 1), .unset, .unset] [(.int 59), (.int 0), (.int 2), (.int (-1)), (.ref sa503)])) rfl (by rw [hml]; rfl) (argsL := [(.ref sa503), (.int (-1)), (.int 2), (.int 0), (.int 59)]) (rest := []) (lenOf own_pd18 rfl) rfl (by show 2 * 0 + _ ≤ _; exact Nat.le_of_eq rfl) (hb hby yt_20) (fun _ _ => ⟨rfl, zk, (by decide : 0 + 0 ≤ _), (by decide : 0 + 0 ≤ _)⟩)
  dsimp only [Pt.U, Pt.locs, Pt.cells, Pt.slots] at z0 l510 y510 z510 zb za
  replace z0 := own_sub z0 l510 y510 z510
  obtain ⟨rfl, zm, zn⟩ := za
  have zo := Fr.app zl zm
  obtain ⟨_, _, ⟨z4, L511, zv, n511⟩, -, z2, ⟨Lc511, zc, l511, y511, z511⟩, zd⟩ := Jvm.LawKit.callS z0 hx (y := own_m4) hown (mvT hZ (own_W hw 121 rfl)) (mvT hZ (own_W hw 122 rfl)) (mvT hZ (own_W hw 6 rfl)) (mvT hZ (own_W hw 123 rfl)) (by decide) (backOf (W := 0) (rm76 l Z a0 hw [] h0 n0 p1 A K cs sa503 EN OL0) hZ (own_W hw 123 rfl) (own_W hw 6 rfl) (by decide) (by decide)) (g := (mkF m 34 #[.val (.ref sa503), .val (.int (-1)), .val (.int 0), .val (.int 1), .val (.int (-1)), .unset] [(.int 58), (.int (-1)), (.ref sa503)])) rfl (by rw [hml]; rfl) (argsL := [(.ref sa503), (.int (-1)), (.int 58)]) (rest := []) (lenOf own_pd14 rfl) rfl (by show 2 * 0 + _ ≤ _; exact Nat.le_of_eq rfl) (hb hby yt_34) (fun _ _ => ⟨rfl, zn, (by decide : 0 + 0 ≤ _), (by decide : 0 + 0 ≤ _)⟩)
  dsimp only [Pt.U, Pt.locs, Pt.cells, Pt.slots] at z2 l511 y511 z511 zd zc
  replace z2 := own_sub z2 l511 y511 z511
  obtain ⟨rfl, zp, zq⟩ := zc
  have zr := Fr.app zo zp
  obtain ⟨fs, hr, hrun, hended, hW, hsame⟩ := z2.leave (v := some (.int (-1))) (fun h => by rw [Bd.returns] at h; cases h)
  refine ⟨_, _, pre0 _ ?_, hrun, hended, _, _, rfl, ?_, ⟨_, rfl⟩, hW, hsame.mono (by decide) (by decide)⟩
  · show own_Y p e below s₁ m 0 #[.val (.ref sa503), .val (.int (-1)), .val (.int 0), .val (.int 1), .unset, .unset] [] _
    refine XS.aloadN X0.here hx rfl (hb hby yt_0) rfl rfl ?_
    refine XS.aloadN X0.here hx rfl (hb hby yt_1) rfl rfl ?_
    refine XS.aloadN X0.here hx rfl (hb hby yt_2) rfl rfl ?_
    refine XS.iloadN X0.here hx rfl (hb hby yt_3) rfl ?_
    refine XS.iconst X0.here hx rfl (hb hby yt_4) ?_
    refine XS.iconst X0.here hx rfl (hb hby yt_5) ?_
    refine XS.bipush X0.here hx rfl (hb hby yt_6) ?_
    refine z6 _ ?_
    show own_Y p e below ze m 11 #[.val (.ref sa503), .val (.int (-1)), .val (.int 0), .val (.int 1), .unset, .unset] [(.int (-1)), (.ref sa503), (.ref sa503)] _
    refine XS.bipush z3.here hx rfl (hb hby yt_11) ?_
    refine z8 _ ?_
    show own_Y p e below zi m 16 #[.val (.ref sa503), .val (.int (-1)), .val (.int 0), .val (.int 1), .unset, .unset] [(.int (-1)), (.ref sa503)] _
    refine XS.iconst z1.here hx rfl (hb hby yt_16) ?_
    refine XS.iconst z1.here hx rfl (hb hby yt_17) ?_
    refine XS.bipush z1.here hx rfl (hb hby yt_18) ?_
    refine zb _ ?_
    show own_Y p e below z9 m 23 #[.val (.ref sa503), .val (.int (-1)), .val (.int 0), .val (.int 1), .unset, .unset] [(.int (-1))] _
    refine XS.istore z0.here hx rfl (hb hby yt_23) rfl (l' := #[.val (.ref sa503), .val (.int (-1)), .val (.int 0), .val (.int 1), .val (.int (-1)), .unset]) rfl ?_
    refine XS.iloadN z0.here hx rfl (hb hby yt_25) rfl ?_
    refine XS.ifNo z0.here hx rfl (hb hby yt_26) rfl ((if0 _ _).trans (teq (by decide : (0 : Int32) = (0 : Int32))).2) ?_
    show own_Y p e below z9 m 29 #[.val (.ref sa503), .val (.int (-1)), .val (.int 0), .val (.int 1), .val (.int (-1)), .unset] [] _
    refine XS.aloadN z0.here hx rfl (hb hby yt_29) rfl rfl ?_
    refine XS.iload z0.here hx rfl (hb hby yt_30) rfl ?_
    refine XS.bipush z0.here hx rfl (hb hby yt_32) ?_
    refine zd _ ?_
    show own_Y p e below z4 m 37 #[.val (.ref sa503), .val (.int (-1)), .val (.int 0), .val (.int 1), .val (.int (-1)), .unset] [(.int 0)] _
    refine XS.ifNo z2.here hx rfl (hb hby yt_37) rfl ((if0 _ _).trans (teq (by decide : (0 : Int32) = (0 : Int32))).2) ?_
    show own_Y p e below z4 m 40 #[.val (.ref sa503), .val (.int (-1)), .val (.int 0), .val (.int 1), .val (.int (-1)), .unset] [] _
    refine XS.iload z2.here hx rfl (hb hby yt_40) rfl ?_
    exact retI z2 hx Bd.returns (hb hby yt_42) hr
  · show PQ (some (.int (-1))) h0 n0 _ z4.heap _
    rw [zq]
    exact ⟨rfl, zr, rfl⟩
theorem ye_403 : decode prog_40_method_7_code 403 = .ok (.aload_n 1, 1) := by decide +kernel
theorem ye_404 : decode prog_40_method_7_code 404 = .ok (.aload_n 1, 1) := by decide +kernel
theorem ye_405 : decode prog_40_method_7_code 405 = .ok (.aload_n 1, 1) := by decide +kernel
theorem ye_406 : decode prog_40_method_7_code 406 = .ok (.invokestatic 158, 3) := by decide +kernel
theorem ye_409 : decode prog_40_method_7_code 409 = .ok (.iconst 0, 1) := by decide +kernel
theorem ye_410 : decode prog_40_method_7_code 410 = .ok (.iconst 1, 1) := by decide +kernel
theorem ye_411 : decode prog_40_method_7_code 411 = .ok (.invokestatic 161, 3) := by decide +kernel
theorem ye_414 : decode prog_40_method_7_code 414 = .ok (.invokestatic 165, 3) := by decide +kernel
theorem ye_417 : decode prog_40_method_7_code 417 = .ok (.iload_n 2, 1) := by decide +kernel
theorem ye_418 : decode prog_40_method_7_code 418 = .ok (.if_icmp .ne 7, 3) := by decide +kernel
theorem ye_425 : decode prog_40_method_7_code 425 = .ok (.iconst 0, 1) := by decide +kernel
theorem rm90 (l : Launch) (Z : State) (a0 : Array Value) (hw : ∀ d ∈ tables_1, d.before a0 Z = true) (ws : List Jvm.Cond) (h0 : Heap) (n0 : Nat) (p1 : Int32) (A : Nat → Addr) (K : Nat → ClassId) (cs : Int32) (ta : Addr) (tj : Int32)  (sb503 : Addr) (sa503 : Addr) (kc503 : ClassId) (EN : own_St Z A K cs) (gE : Exa Z Z.heap ta y_s1) (gF : Fld Z Z.heap ta y_s3 "ordinal" "I" (.int tj)) (gj : tj = (25 : Int32)) (OL0 : Old Z n0 h0) (z6 : Exa Z h0 sa503 y_s2) (z8 : Fld Z h0 sa503 y_s2 "value" "[B" (.ref sb503)) (z9 : Arv Z h0 sb503 kc503 .byte (2 : Int32) [(.int 48), (.int 48)] (.int 0)) (za : Fld Z h0 sa503 y_s2 "coder" "B" (.int 0)) :
    own_MF l Z own_m0 prog_40_method_7_code 3 (some .boolean) ws (Room.mk 6 0 0 87) #[(.ref ta), (.ref sa503)] h0 (PQ (some (.int 0)) h0 n0) := by
  refine MetFree.of_bodySF (plainFor_of_name own_pn6) hisR ?_
  intro p e s m args below meth c s₁ Bd hml0 hP hK
  obtain ⟨rfl, hZ, hh⟩ := hP
  have hx := Bd.exec
  have hby := Bd.bytes
  have hml : c.maxLocals = 3 := hml0
  have hown : s.vm.findClass y_s1 = some m.cls := findClass_of_methodNamed Bd.named
  have hnm := (name_of_methodNamed Bd.named Bd.method).1
  have X0 : Stand p l e (Room.mk 6 0 0 87) s m #[(.ref ta), (.ref sa503)] below meth c s₁ [] 0 0 := Stand.of_body Bd
  have e0 : s₁.heap = h0 := by rw [← hh, Bd.state]; rfl
  have N0 := Fr.nil n0
  have pre0 : own_P p e below s₁ m 0 #[.val (.ref ta), .val (.ref sa503), .unset] [] s₁ #[(.ref ta), (.ref sa503)] 3 := fun t k => castTop (by first | (simp [entryFrame, mkF, argsToLocals, Value.category, maxLocals]; done) | rfl) k
  have KK0 : Keep h0 h0 [] := Keep.refl _ _
  obtain ⟨cq504, kq504, zn, z17, zo⟩ := isOf hZ e0 z6
  obtain ⟨_, _, ⟨zb, L504, z18, n504⟩, -, z0, ⟨Lc504, zc, l504, y504, z504⟩, zd⟩ := X0.virtualBack hx (y := own_m1) (z := own_m1) hown (mvT hZ (own_W hw 21 rfl)) (mvT hZ (own_W hw 22 rfl)) (notFace_of_selects (args := #[]) (mvT hZ (own_W hw 24 rfl))) (mvT hZ (own_W hw 24 rfl)) (mvT hZ (own_W hw 23 rfl)) (by decide) (backOf (W := 0) (rm2 l Z a0 hw [] h0 n0 p1 A K cs sb503 sa503 kc503 EN OL0 z8 z9 z6 za) hZ (own_W hw 25 rfl) (own_W hw 9 rfl) (by decide) (by decide)) zn zo (g := (mkF m 1 #[.val (.ref ta), .val (.ref sa503), .unset] [(.ref sa503)])) rfl (by rw [hml]; rfl) (Steps.refl _) (argsL := []) (rest := []) (lenOf own_pd2 rfl) rfl (by show 2 * 0 + _ ≤ _; exact Nat.le_of_eq rfl) (hb hby ye_1) (fun _ _ => ⟨rfl, e0, (by decide : 0 + 0 ≤ _), (by decide : 0 + 0 ≤ _)⟩)
  dsimp only [Pt.U, Pt.locs, Pt.cells, Pt.slots] at z0 l504 y504 z504 zd zc
  replace z0 := own_sub z0 l504 y504 z504
  obtain ⟨rfl, zp, ze⟩ := zc
  have zq := Fr.app N0 zp
  obtain ⟨cq505, kq505, zr, z19, zs⟩ := isOf hZ ze (gE.ext OL0.2)
  obtain ⟨_, _, ⟨z4, L505, z1a, n505⟩, -, z1, ⟨Lc505, zf, l505, y505, z505⟩, zg⟩ := z0.virtualBackUp hx (x := own_m8) (y := own_m7) (owner := y_s3) hown (mvT hZ (own_W hw 34 rfl)) (mvT hZ (own_W hw 35 rfl)) (mvT hZ (own_W hw 36 rfl)) (by decide) (mvT hZ (own_W hw 38 rfl)) (mvT hZ (own_W hw 37 rfl)) (backOf (W := 0) (rm4 l Z a0 hw [] h0 n0 p1 A K cs ta tj EN gE gF OL0) hZ (own_W hw 40 rfl) (own_W hw 39 rfl) (by decide) (by decide)) zr zs (g := (mkF m 12 #[.val (.ref ta), .val (.ref sa503), .val (.int 2)] [(.ref ta)])) rfl (by rw [hml]; rfl) (Steps.refl _) (argsL := []) (rest := []) (lenOf own_pd2 rfl) rfl (by show 2 * 0 + _ ≤ _; exact Nat.le_of_eq rfl) (hb hby ye_12) (fun _ _ => ⟨rfl, ze, (by decide : 0 + 0 ≤ _), (by decide : 0 + 0 ≤ _)⟩)
  dsimp only [Pt.U, Pt.locs, Pt.cells, Pt.slots] at z1 l505 y505 z505 zg zf
  replace z1 := own_sub z1 l505 y505 z505
  obtain ⟨rfl, zt, zu⟩ := zf
  have zv := Fr.app zq zt
  have ts506 : ∀ t, Steps p.tables e below (z4.setTop (mkF m 403 #[.val (.ref ta), .val (.ref sa503), .val (.int 2)] [])) t → Steps p.tables e below (z4.setTop (mkF m 15 #[.val (.ref ta), .val (.ref sa503), .val (.int 2)] [(.int tj)])) t := by
    intro t k
    rcases gj with rfl <;> exact XS.tswIn z1.here hx rfl (pc0 := 15) (pc' := 403) rfl (hb hby ye_15) rfl (by decide) (o := 388) (by decide) (by decide) (by decide) k
  obtain ⟨_, _, ⟨zw, L507, z1b, n507⟩, -, z3, ⟨Lc507, zh, l507, y507, z507⟩, zi⟩ := Jvm.LawKit.callS z1 hx (y := own_m28) hown (mvT hZ (own_W hw 189 rfl)) (mvT hZ (own_W hw 190 rfl)) (mvT hZ (own_W hw 6 rfl)) (mvT hZ (own_W hw 191 rfl)) (by decide) (backOf (W := 2) (rm70 l Z a0 hw [] h0 n0 p1 A K cs sb503 sa503 kc503 EN OL0 z6 z8 z9 za) hZ (own_W hw 191 rfl) (own_W hw 6 rfl) (by decide) (by decide)) (g := (mkF m 406 #[.val (.ref ta), .val (.ref sa503), .val (.int 2)] [(.ref sa503), (.ref sa503), (.ref sa503)])) rfl (by rw [hml]; rfl) (argsL := [(.ref sa503)]) (rest := [(.ref sa503), (.ref sa503)]) (lenOf own_pd15 rfl) rfl (by show 2 * 0 + _ ≤ _; exact Nat.le_of_eq rfl) (hb hby ye_406) (fun _ _ => ⟨rfl, zu, (by decide : 0 + 0 ≤ _), (by decide : 0 + 0 ≤ _)⟩)
  dsimp only [Pt.U, Pt.locs, Pt.cells, Pt.slots] at z3 l507 y507 z507 zi zh
  replace z3 := own_sub z3 l507 y507 z507
  obtain ⟨rfl, zx, zy⟩ := zh
  have zz := Fr.app zv zx
  obtain ⟨_, _, ⟨z10, L512, z1c, n512⟩, -, z5, ⟨Lc512, zj, l512, y512, z512⟩, zk⟩ := Jvm.LawKit.callS z3 hx (y := own_m14) hown (mvT hZ (own_W hw 142 rfl)) (mvT hZ (own_W hw 143 rfl)) (mvT hZ (own_W hw 6 rfl)) (mvT hZ (own_W hw 144 rfl)) (by decide) (backOf (W := 1) (rm91 l Z a0 hw [] h0 n0 p1 A K cs sa503 EN OL0) hZ (own_W hw 144 rfl) (own_W hw 6 rfl) (by decide) (by decide)) (g := (mkF m 411 #[.val (.ref ta), .val (.ref sa503), .val (.int 2)] [(.int 1), (.int 0), (.int (-1)), (.ref sa503), (.ref sa503)])) rfl (by rw [hml]; rfl) (argsL := [(.ref sa503), (.int (-1)), (.int 0), (.int 1)]) (rest := [(.ref sa503)]) (lenOf own_pd20 rfl) rfl (by show 2 * 0 + _ ≤ _; exact Nat.le_of_eq rfl) (hb hby ye_411) (fun _ _ => ⟨rfl, zy, (by decide : 0 + 0 ≤ _), (by decide : 0 + 0 ≤ _)⟩)
  dsimp only [Pt.U, Pt.locs, Pt.cells, Pt.slots] at z5 l512 y512 z512 zk zj
  replace z5 := own_sub z5 l512 y512 z512
  obtain ⟨rfl, z11, z12⟩ := zj
  have z13 := Fr.app zz z11
  obtain ⟨_, _, ⟨z7, L513, z1d, n513⟩, -, z2, ⟨Lc513, zl, l513, y513, z513⟩, zm⟩ := Jvm.LawKit.callS z5 hx (y := own_m29) hown (mvT hZ (own_W hw 151 rfl)) (mvT hZ (own_W hw 152 rfl)) (mvT hZ (own_W hw 6 rfl)) (mvT hZ (own_W hw 153 rfl)) (by decide) (backOf (W := 0) (rm87 l Z a0 hw [] h0 n0 p1 A K cs sa503 EN OL0) hZ (own_W hw 153 rfl) (own_W hw 6 rfl) (by decide) (by decide)) (g := (mkF m 414 #[.val (.ref ta), .val (.ref sa503), .val (.int 2)] [(.int (-1)), (.ref sa503)])) rfl (by rw [hml]; rfl) (argsL := [(.ref sa503), (.int (-1))]) (rest := []) (lenOf own_pd12 rfl) rfl (by show 2 * 0 + _ ≤ _; exact Nat.le_of_eq rfl) (hb hby ye_414) (fun _ _ => ⟨rfl, z12, (by decide : 0 + 0 ≤ _), (by decide : 0 + 0 ≤ _)⟩)
  dsimp only [Pt.U, Pt.locs, Pt.cells, Pt.slots] at z2 l513 y513 z513 zm zl
  replace z2 := own_sub z2 l513 y513 z513
  obtain ⟨rfl, z14, z15⟩ := zl
  have z16 := Fr.app z13 z14
  obtain ⟨fs, hr, hrun, hended, hW, hsame⟩ := z2.leave (v := some (.int 0)) (fun h => by rw [Bd.returns] at h; cases h)
  refine ⟨_, _, pre0 _ ?_, hrun, hended, _, _, rfl, ?_, ⟨_, rfl⟩, hW, hsame.mono (by decide) (by decide)⟩
  · show own_Y p e below s₁ m 0 #[.val (.ref ta), .val (.ref sa503), .unset] [] _
    refine XS.aloadN X0.here hx rfl (hb hby ye_0) rfl rfl ?_
    refine zd.trans ?_
    show own_Y p e below zb m 4 #[.val (.ref ta), .val (.ref sa503), .unset] [(.int 2)] _
    refine XS.istoreN z0.here hx rfl (hb hby ye_4) rfl (l' := #[.val (.ref ta), .val (.ref sa503), .val (.int 2)]) rfl ?_
    refine XS.iloadN z0.here hx rfl (hb hby ye_5) rfl ?_
    refine XS.ifYes z0.here hx rfl (pc0 := 6) (pc' := 11) rfl (hb hby ye_6) rfl ((if0 _ _).trans (feq (by decide : ¬ ((2 : Int32) = (0 : Int32)))).2) (by decide) (by decide) ?_
    show own_Y p e below zb m 11 #[.val (.ref ta), .val (.ref sa503), .val (.int 2)] [] _
    refine XS.aloadN z0.here hx rfl (hb hby ye_11) rfl rfl ?_
    refine zg.trans ?_
    show own_Y p e below z4 m 15 #[.val (.ref ta), .val (.ref sa503), .val (.int 2)] [(.int tj)] _
    refine ts506 _ ?_
    show own_Y p e below z4 m 403 #[.val (.ref ta), .val (.ref sa503), .val (.int 2)] [] _
    refine XS.aloadN z1.here hx rfl (hb hby ye_403) rfl rfl ?_
    refine XS.aloadN z1.here hx rfl (hb hby ye_404) rfl rfl ?_
    refine XS.aloadN z1.here hx rfl (hb hby ye_405) rfl rfl ?_
    refine zi _ ?_
    show own_Y p e below zw m 409 #[.val (.ref ta), .val (.ref sa503), .val (.int 2)] [(.int (-1)), (.ref sa503), (.ref sa503)] _
    refine XS.iconst z3.here hx rfl (hb hby ye_409) ?_
    refine XS.iconst z3.here hx rfl (hb hby ye_410) ?_
    refine zk _ ?_
    show own_Y p e below z10 m 414 #[.val (.ref ta), .val (.ref sa503), .val (.int 2)] [(.int (-1)), (.ref sa503)] _
    refine zm _ ?_
    show own_Y p e below z7 m 417 #[.val (.ref ta), .val (.ref sa503), .val (.int 2)] [(.int (-1))] _
    refine XS.iloadN z2.here hx rfl (hb hby ye_417) rfl ?_
    refine XS.icmpYes z2.here hx rfl (pc0 := 418) (pc' := 425) rfl (hb hby ye_418) rfl (feq (by decide : ¬ ((-1 : Int32) = (2 : Int32)))).2 (by decide) (by decide) ?_
    show own_Y p e below z7 m 425 #[.val (.ref ta), .val (.ref sa503), .val (.int 2)] [] _
    refine XS.iconst z2.here hx rfl (hb hby ye_425) ?_
    exact retN z2 hx (t := .boolean) Bd.returns (by simp) (hb hby ye_426) hr
  · show PQ (some (.int 0)) h0 n0 _ z7.heap _
    rw [z15]
    exact ⟨rfl, z16, rfl⟩
theorem rm0 (l : Launch) (Z : State) (a0 : Array Value) (hw : ∀ d ∈ tables_1, d.before a0 Z = true) (ws : List Jvm.Cond) (h0 : Heap) (n0 : Nat) (p1 : Int32) (A : Nat → Addr) (K : Nat → ClassId) (cs : Int32) (EN : own_St Z A K cs) (HC0 : CHv Z consts_1 Z.vm Z.heap) (eh0 : h0 = Z.heap) (en0 : n0 = Z.heap.size) :
    MetFree l x (head1 (Jvm.Cond.code x code maxLocals ret :: ws) room_1) (fun a U => a = #[(.int p1)] ∧ U.vm = Z.vm ∧ U.heap = Z.heap) (fun _ _ _ _ _ => True) (fun _ U o U' => ∃ v L, o = .returned v ∧ (LQ n0) v U'.heap L ∧ ReturnedEndW U o U' L room_1.cells room_1.slots) := by
  refine MetFree.of_bodySF (plainFor_of_name own_pn0) hisR ?_
  intro p e s m args below meth c s₁ Bd hml0 hP hK
  obtain ⟨rfl, hvm, hh⟩ := hP
  have hx := Bd.exec
  have hby := Bd.bytes
  have hml : c.maxLocals = 4 := hml0
  have hown : s.vm.findClass "com/example/tallywire/tallywire/wire/FieldTypeIsLengthPinLaw" = some m.cls := findClass_of_methodNamed Bd.named
  have hnm := (name_of_methodNamed Bd.named Bd.method).1
  have hZ : Z.Warmed39 s.vm := hvm ▸ State.Warmed39.refl Z
  have hS0 : s.Since s.vm 0 := (State.WarmedH.refl s).since 0
  have H0 : CHv Z consts_1 s.vm h0 := by rw [hvm, eh0]; exact HC0
  have z1 : 0 ≤ h0.size := Nat.zero_le _
  have OL0 : Old Z n0 h0 := by rw [eh0, en0]; exact Old.start Z
  have X0 : Stand p l e room_1 (s.setVm s.vm) m #[(.int p1)] below meth c s₁ [] 0 0 := Stand.of_body Bd
  have e0 : s₁.heap = h0 := by rw [eh0, ← hh, Bd.state]; rfl
  have N0 := Fr.nil n0
  have pre0 : own_P p e below s₁ m 0 #[.val (.int p1), .unset, .unset, .unset] [] s₁ #[(.int p1)] maxLocals := fun t k => castTop (by first | (simp [entryFrame, mkF, argsToLocals, Value.category, maxLocals]; done) | rfl) k
  have KK0 : Keep h0 h0 [] := Keep.refl _ _
  have z2 : own_P p e below s₁ m 7 #[.val (.int p1), .unset, .unset, .unset] [(.int ((p1 &&& (2147483647 : Int32)) % 28))] s₁ #[(.int p1)] maxLocals := fun t k => pre0 t (by
    show own_Y p e below s₁ m 0 #[.val (.int p1), .unset, .unset, .unset] [] _
    refine XS.iloadN X0.here hx rfl (hb hby at_0) rfl ?_
    refine X0.ldcInt hx hown (mvT hZ (own_W hw 0 rfl)) (g := (mkF m 1 #[.val (.int p1), .unset, .unset, .unset] [(.int p1)])) rfl (hb hby at_1) _ ?_
    show own_Y p e below s₁ m 3 #[.val (.int p1), .unset, .unset, .unset] [(.int 2147483647), (.int p1)] _
    refine XS.iand X0.here hx rfl (hb hby at_3) rfl ?_
    show own_Y p e below s₁ m 4 #[.val (.int p1), .unset, .unset, .unset] [(.int (p1 &&& (2147483647 : Int32)))] _
    refine XS.bipush X0.here hx rfl (hb hby at_4) ?_
    refine iremM X0 hx rfl (hb hby at_6) rfl (by decide) ?_
    exact k)
  obtain ⟨zgo, zgp, z0⟩ := own_k p1
  match zgo, zgp, z0 with
  | 0, _, z0 =>
    obtain ⟨_, _, ⟨z3v, L33, z100, n33⟩, -, z1n, ⟨Lc33, z6u, l33, y33, z33⟩, z6v⟩ := Jvm.LawKit.callS X0 hx (y := own_m5) hown (mvT hZ (own_W hw 1 rfl)) (mvT hZ (own_W hw 2 rfl)) (mvT hZ (own_W hw 3 rfl)) (mvT hZ (own_W hw 4 rfl)) (by decide) (backOf (W := 0) (rmPick l Z a0 hw [] h0 n0 p1 A K cs (0 : Int32) (A 0) EN ⟨0, by decide, rfl⟩ (congrArg A (by decide)) OL0) hZ (own_W hw 4 rfl) (own_W hw 3 rfl) (by decide) (by decide)) (g := (mkF m 9 #[.val (.int p1), .val (.int 0), .unset, .unset] [(.int 0)])) rfl (by rw [hml]; rfl) (argsL := [(.int 0)]) (rest := []) (lenOf own_pd0 rfl) rfl (by show 2 * 0 + _ ≤ _; exact Nat.le_of_eq rfl) (hb hby at_9) (fun _ _ => ⟨rfl, e0, (by decide : 0 + 0 ≤ _), (by decide : 0 + 0 ≤ _)⟩)
    dsimp only [Pt.U, Pt.locs, Pt.cells, Pt.slots] at z1n l33 y33 z33 z6v z6u
    replace z1n := own_sub z1n l33 y33 z33
    obtain ⟨rfl, zgq, zgr⟩ := z6u
    have zgs := Fr.app N0 zgq
    have zgt : own_P p e below z3v m 14 #[.val (.int p1), .val (.int 0), .val (.ref (A 0)), .unset] [(.ref (A 0))] s₁ #[(.int p1)] maxLocals := fun t k => z2 t (by
      show own_Y p e below s₁ m 7 #[.val (.int p1), .unset, .unset, .unset] [(.int ((p1 &&& (2147483647 : Int32)) % 28))] _
      rw [z0]
      show own_Y p e below s₁ m 7 #[.val (.int p1), .unset, .unset, .unset] [(.int 0)] _
      refine XS.istoreN X0.here hx rfl (hb hby at_7) rfl (l' := #[.val (.int p1), .val (.int 0), .unset, .unset]) rfl ?_
      refine XS.iloadN X0.here hx rfl (hb hby at_8) rfl ?_
      refine z6v _ ?_
      show own_Y p e below z3v m 12 #[.val (.int p1), .val (.int 0), .unset, .unset] [(.ref (A 0))] _
      refine XS.astoreN z1n.here hx rfl (hb hby at_12) rfl rfl (l' := #[.val (.int p1), .val (.int 0), .val (.ref (A 0)), .unset]) rfl ?_
      refine XS.aloadN z1n.here hx rfl (hb hby at_13) rfl rfl ?_
      exact k)
    obtain ⟨sa35, zgu, zgv, kk35, sb35, kc35, zgw, z3w, z6w, hS35, zgx, hZ, hown, Es35, Cs35, Vs35, As35, la35, lb35, C35, -, -, zgy⟩ := ldcCH (s := s) z1n hx hZ hown (own_W hw 8 rfl) (own_strAtoms a0 Z hw) zgr hS0 z1 (own_EW a0 Z hw) (List.mem_of_getElem? (i := 3) rfl) H0 (vs := [(.int 48), (.int 48)]) (z := (2 : Int32)) ⟨by decide, by decide⟩ (by decide) (by decide) (g := (mkF m 14 #[.val (.int p1), .val (.int 0), .val (.ref (A 0)), .unset] [(.ref (A 0))])) rfl (hb hby at_14) (n := 8) (by decide) (by decide) (by decide) (by decide)
    have z3x := OL0.ext z6w
    have zgz := KK0.ext z6w
    obtain ⟨cq103, kq103, zh0, z101, zh1⟩ := isOf hZ z3w (EN.1.2.1.ext z3x.2)
    obtain ⟨_, _, ⟨z2v, L103, z102, n103⟩, -, z1o, hSc103, hgr103, ⟨Lc103, z6x, l103, y103, z103, C103⟩, z6y⟩ := zgw.virtualBackS hx (y := own_m0) (z := own_m0) hown (mvT hZ (own_W hw 16 rfl)) (mvT hZ (own_W hw 17 rfl)) (notFace_of_selects (args := #[]) (mvT hZ (own_W hw 19 rfl))) (mvT hZ (own_W hw 19 rfl)) (mvT hZ (own_W hw 18 rfl)) (by decide) (backOfSH (EL := consts_1) (W := 0) (rm1 l Z a0 hw [] zgv n0 p1 A K cs (A 0) (0 : Int32) sb35 sa35 kc35 EN EN.1.2.1 EN.2.2.2.2.2.2.2.1.2.2.2.1 (by decide) z3x Es35 Vs35 As35 Cs35) hZ (own_W hw 20 rfl) (own_W hw 6 rfl) (by decide) (by decide) (own_EW a0 Z hw) C35.1) zh0 zh1 (g := (mkF m 16 #[.val (.int p1), .val (.int 0), .val (.ref (A 0)), .unset] [(.ref sa35), (.ref (A 0))])) rfl (by rw [hml]; rfl) (Steps.refl _) (argsL := [(.ref sa35)]) (rest := []) (lenOf own_pd5 rfl) rfl (by show 2 * 0 + _ ≤ _; exact Nat.le_of_eq rfl) (hb hby at_16) (fun _ _ => ⟨rfl, z3w, (by decide : 2 + 2 ≤ _), (by decide : 12 + 8 ≤ _)⟩)
    dsimp only [Pt.U, Pt.locs, Pt.cells, Pt.slots] at z1o hSc103 hgr103 l103 y103 z103 z6y z6x C103
    obtain ⟨Xr103, hS103, hZ, hown⟩ := rebS (s := s) hS35 (by rw [z3w]; exact zgx) z1o hSc103 hgr103 hZ hown
    replace z1o := own_sub Xr103 l103 y103 z103
    obtain ⟨rfl, zh2, z6z⟩ := z6x
    have zh3 := Fr.app zgs zh2
    have zh4 := z3x.keep z6z all0
    have zh5 := zgz.trans z6z all0
    have zh6 : own_P p e below z2v m 23 #[.val (.int p1), .val (.int 0), .val (.ref (A 0)), .unset] [(.ref (A 0))] s₁ #[(.int p1)] maxLocals := fun t k => zgt t (by
      show own_Y p e below z3v m 14 #[.val (.int p1), .val (.int 0), .val (.ref (A 0)), .unset] [(.ref (A 0))] _
      refine zgy _ ?_
      show own_Y p e below zgu m 16 #[.val (.int p1), .val (.int 0), .val (.ref (A 0)), .unset] [(.ref sa35), (.ref (A 0))] _
      refine z6y.trans ?_
      show own_Y p e below z2v m 19 #[.val (.int p1), .val (.int 0), .val (.ref (A 0)), .unset] [(.int 1)] _
      refine XS.ifNo z1o.here hx rfl (hb hby at_19) rfl ((if0 _ _).trans (feq (by decide : ¬ ((1 : Int32) = (0 : Int32)))).1) ?_
      show own_Y p e below z2v m 22 #[.val (.int p1), .val (.int 0), .val (.ref (A 0)), .unset] [] _
      refine XS.aloadN z1o.here hx rfl (hb hby at_22) rfl rfl ?_
      exact k)
    obtain ⟨sa105, zh7, zh8, kk105, sb105, kc105, zh9, z3y, z70, hS105, zha, hZ, hown, Es105, Cs105, Vs105, As105, la105, lb105, C105, -, -, zhb⟩ := ldcCH (s := s) z1o hx hZ hown (own_W hw 87 rfl) (own_strAtoms a0 Z hw) rfl hS103 (Nat.le_refl _) (own_EW a0 Z hw) (List.mem_of_getElem? (i := 4) rfl) C103.1 (vs := [(.int 45), (.int 48)]) (z := (2 : Int32)) ⟨by decide, by decide⟩ (by decide) (by decide) (g := (mkF m 23 #[.val (.int p1), .val (.int 0), .val (.ref (A 0)), .unset] [(.ref (A 0))])) rfl (hb hby at_23) (n := 8) (by decide) (by decide) (by decide) (by decide)
    have z3z := zh4.ext z70
    have zhc := zh5.ext z70
    obtain ⟨cq144, kq144, zhd, z104, zhe⟩ := isOf hZ z3y (EN.1.2.1.ext z3z.2)
    obtain ⟨_, _, ⟨z40, L144, z105, n144⟩, -, zw, hSc144, hgr144, ⟨Lc144, z71, l144, y144, z144, C144⟩, z72⟩ := zh9.virtualBackS hx (y := own_m0) (z := own_m0) hown (mvT hZ (own_W hw 16 rfl)) (mvT hZ (own_W hw 17 rfl)) (notFace_of_selects (args := #[]) (mvT hZ (own_W hw 19 rfl))) (mvT hZ (own_W hw 19 rfl)) (mvT hZ (own_W hw 18 rfl)) (by decide) (backOfSH (EL := consts_1) (W := 0) (rm22 l Z a0 hw [] zh8 n0 p1 A K cs (A 0) (0 : Int32) sb105 sa105 kc105 EN EN.1.2.1 EN.2.2.2.2.2.2.2.1.2.2.2.1 (by decide) z3z Es105 Vs105 As105 Cs105) hZ (own_W hw 20 rfl) (own_W hw 6 rfl) (by decide) (by decide) (own_EW a0 Z hw) C105.1) zhd zhe (g := (mkF m 25 #[.val (.int p1), .val (.int 0), .val (.ref (A 0)), .unset] [(.ref sa105), (.ref (A 0))])) rfl (by rw [hml]; rfl) (Steps.refl _) (argsL := [(.ref sa105)]) (rest := []) (lenOf own_pd5 rfl) rfl (by show 2 * 0 + _ ≤ _; exact Nat.le_of_eq rfl) (hb hby at_25) (fun _ _ => ⟨rfl, z3y, (by decide : 6 + 2 ≤ _), (by decide : 32 + 8 ≤ _)⟩)
    dsimp only [Pt.U, Pt.locs, Pt.cells, Pt.slots] at zw hSc144 hgr144 l144 y144 z144 z72 z71 C144
    obtain ⟨Xr144, hS144, hZ, hown⟩ := rebS (s := s) hS105 (by rw [z3y]; exact zha) zw hSc144 hgr144 hZ hown
    replace zw := own_sub Xr144 l144 y144 z144
    obtain ⟨rfl, zhf, z73⟩ := z71
    have zhg := Fr.app zh3 zhf
    have z74 := z3z.keep z73 all0
    have z106 := zhc.trans z73 all0
    obtain ⟨cq146, kq146, zhh, z107, zhi⟩ := isOf hZ rfl (EN.1.2.1.ext z74.2)
    obtain ⟨_, _, ⟨z41, L146, z108, n146⟩, -, z3, ⟨Lc146, z75, l146, y146, z146⟩, z76⟩ := zw.virtualBack hx (y := own_m2) (z := own_m2) hown (mvT hZ (own_W hw 88 rfl)) (mvT hZ (own_W hw 89 rfl)) (notFace_of_selects (args := #[]) (mvT hZ (own_W hw 91 rfl))) (mvT hZ (own_W hw 91 rfl)) (mvT hZ (own_W hw 90 rfl)) (by decide) (backOf (W := 0) (rm30 l Z a0 hw [] z40.heap n0 p1 A K cs (A 0) (0 : Int32) EN EN.1.2.1 EN.2.2.2.2.2.2.2.1.2.2.2.1 (Fld.ne EN.2.2.2.2.2.2.2.1.2.2.2.1 EN.2.2.2.2.2.2.2.1.2.2.2.2.1 (fun h => by injection h with h; exact absurd h (by decide))) z74) hZ (own_W hw 92 rfl) (own_W hw 6 rfl) (by decide) (by decide)) zhh zhi (g := (mkF m 38 #[.val (.int p1), .val (.int 0), .val (.ref (A 0)), .val (.int 0)] [(.ref (A 0))])) rfl (by rw [hml]; rfl) (Steps.refl _) (argsL := []) (rest := []) (lenOf own_pd6 rfl) rfl (by show 2 * 0 + _ ≤ _; exact Nat.le_of_eq rfl) (hb hby at_38) (fun _ _ => ⟨rfl, rfl, (by decide : 8 + 0 ≤ _), (by decide : 40 + 0 ≤ _)⟩)
    dsimp only [Pt.U, Pt.locs, Pt.cells, Pt.slots] at z3 l146 y146 z146 z76 z75
    replace z3 := own_sub z3 l146 y146 z146
    obtain ⟨rfl, zhj, zhk⟩ := z75
    have zhl := Fr.app zhg zhj
    obtain ⟨fs, hr, hrun, hended, hEW⟩ := z3.leaveW (s := s) hS144 (by rw [zhk]; exact (Nat.le_refl _)) (v := some (.int 1)) (fun h => by rw [Bd.returns] at h; cases h)
    refine ⟨_, _, zh6 _ ?_, hrun, hended, _, _, rfl, ?_, hEW.1, hEW.2.1, hEW.2.2.1, hEW.2.2.2.mono (by decide) (by decide)⟩
    · show own_Y p e below z2v m 23 #[.val (.int p1), .val (.int 0), .val (.ref (A 0)), .unset] [(.ref (A 0))] _
      refine zhb _ ?_
      show own_Y p e below zh7 m 25 #[.val (.int p1), .val (.int 0), .val (.ref (A 0)), .unset] [(.ref sa105), (.ref (A 0))] _
      refine z72.trans ?_
      show own_Y p e below z40 m 28 #[.val (.int p1), .val (.int 0), .val (.ref (A 0)), .unset] [(.int 1)] _
      refine XS.ifYes zw.here hx rfl (pc0 := 28) (pc' := 35) rfl (hb hby at_28) rfl ((if0 _ _).trans (feq (by decide : ¬ ((1 : Int32) = (0 : Int32)))).2) (by decide) (by decide) ?_
      show own_Y p e below z40 m 35 #[.val (.int p1), .val (.int 0), .val (.ref (A 0)), .unset] [] _
      refine XS.iconst zw.here hx rfl (hb hby at_35) ?_
      refine XS.istoreN zw.here hx rfl (hb hby at_36) rfl (l' := #[.val (.int p1), .val (.int 0), .val (.ref (A 0)), .val (.int 0)]) rfl ?_
      refine XS.aloadN zw.here hx rfl (hb hby at_37) rfl rfl ?_
      refine z76.trans ?_
      show own_Y p e below z41 m 41 #[.val (.int p1), .val (.int 0), .val (.ref (A 0)), .val (.int 0)] [(.int 0)] _
      refine XS.iloadN z3.here hx rfl (hb hby at_41) rfl ?_
      refine XS.icmpNo z3.here hx rfl (hb hby at_42) rfl (teq (by decide : (0 : Int32) = (0 : Int32))).2 ?_
      show own_Y p e below z41 m 45 #[.val (.int p1), .val (.int 0), .val (.ref (A 0)), .val (.int 0)] [] _
      refine XS.iconst z3.here hx rfl (hb hby at_45) ?_
      refine XS.goto z3.here hx rfl (pc0 := 46) (pc' := 50) rfl (hb hby at_46) (by decide) (by decide) ?_
      exact retN z3 hx (t := .boolean) Bd.returns (by simp) (hb hby at_50) hr
    · show LQ n0 _ z41.heap _
      exact ⟨rfl, zhl, trivial⟩
  | 1, _, z0 =>
    obtain ⟨_, _, ⟨z42, L147, z109, n147⟩, -, z1p, ⟨Lc147, z77, l147, y147, z147⟩, z78⟩ := Jvm.LawKit.callS X0 hx (y := own_m5) hown (mvT hZ (own_W hw 1 rfl)) (mvT hZ (own_W hw 2 rfl)) (mvT hZ (own_W hw 3 rfl)) (mvT hZ (own_W hw 4 rfl)) (by decide) (backOf (W := 0) (rmPick l Z a0 hw [] h0 n0 p1 A K cs (1 : Int32) (A 1) EN ⟨1, by decide, rfl⟩ (congrArg A (by decide)) OL0) hZ (own_W hw 4 rfl) (own_W hw 3 rfl) (by decide) (by decide)) (g := (mkF m 9 #[.val (.int p1), .val (.int 1), .unset, .unset] [(.int 1)])) rfl (by rw [hml]; rfl) (argsL := [(.int 1)]) (rest := []) (lenOf own_pd0 rfl) rfl (by show 2 * 0 + _ ≤ _; exact Nat.le_of_eq rfl) (hb hby at_9) (fun _ _ => ⟨rfl, e0, (by decide : 0 + 0 ≤ _), (by decide : 0 + 0 ≤ _)⟩)
    dsimp only [Pt.U, Pt.locs, Pt.cells, Pt.slots] at z1p l147 y147 z147 z78 z77
    replace z1p := own_sub z1p l147 y147 z147
    obtain ⟨rfl, zhm, zhn⟩ := z77
    have zho := Fr.app N0 zhm
    have zhp : own_P p e below z42 m 14 #[.val (.int p1), .val (.int 1), .val (.ref (A 1)), .unset] [(.ref (A 1))] s₁ #[(.int p1)] maxLocals := fun t k => z2 t (by
      show own_Y p e below s₁ m 7 #[.val (.int p1), .unset, .unset, .unset] [(.int ((p1 &&& (2147483647 : Int32)) % 28))] _
      rw [z0]
      show own_Y p e below s₁ m 7 #[.val (.int p1), .unset, .unset, .unset] [(.int 1)] _
      refine XS.istoreN X0.here hx rfl (hb hby at_7) rfl (l' := #[.val (.int p1), .val (.int 1), .unset, .unset]) rfl ?_
      refine XS.iloadN X0.here hx rfl (hb hby at_8) rfl ?_
      refine z78 _ ?_
      show own_Y p e below z42 m 12 #[.val (.int p1), .val (.int 1), .unset, .unset] [(.ref (A 1))] _
      refine XS.astoreN z1p.here hx rfl (hb hby at_12) rfl rfl (l' := #[.val (.int p1), .val (.int 1), .val (.ref (A 1)), .unset]) rfl ?_
      refine XS.aloadN z1p.here hx rfl (hb hby at_13) rfl rfl ?_
      exact k)
    obtain ⟨sa149, zhq, zhr, kk149, sb149, kc149, zhs, z43, z79, hS149, zht, hZ, hown, Es149, Cs149, Vs149, As149, la149, lb149, C149, -, -, zhu⟩ := ldcCH (s := s) z1p hx hZ hown (own_W hw 8 rfl) (own_strAtoms a0 Z hw) zhn hS0 z1 (own_EW a0 Z hw) (List.mem_of_getElem? (i := 3) rfl) H0 (vs := [(.int 48), (.int 48)]) (z := (2 : Int32)) ⟨by decide, by decide⟩ (by decide) (by decide) (g := (mkF m 14 #[.val (.int p1), .val (.int 1), .val (.ref (A 1)), .unset] [(.ref (A 1))])) rfl (hb hby at_14) (n := 8) (by decide) (by decide) (by decide) (by decide)
    have z44 := OL0.ext z79
    have zhv := KK0.ext z79
    obtain ⟨cq150, kq150, zhw, z10a, zhx⟩ := isOf hZ z43 (EN.1.2.2.2.1.ext z44.2)
    obtain ⟨_, _, ⟨z2w, L150, z10b, n150⟩, -, z1q, hSc150, hgr150, ⟨Lc150, z7a, l150, y150, z150, C150⟩, z7b⟩ := zhs.virtualBackS hx (y := own_m0) (z := own_m0) hown (mvT hZ (own_W hw 16 rfl)) (mvT hZ (own_W hw 17 rfl)) (notFace_of_selects (args := #[]) (mvT hZ (own_W hw 19 rfl))) (mvT hZ (own_W hw 19 rfl)) (mvT hZ (own_W hw 18 rfl)) (by decide) (backOfSH (EL := consts_1) (W := 0) (rm1 l Z a0 hw [] zhr n0 p1 A K cs (A 1) (1 : Int32) sb149 sa149 kc149 EN EN.1.2.2.2.1 EN.2.2.2.2.2.2.2.2.1.2.2.2.2.2.1 (by decide) z44 Es149 Vs149 As149 Cs149) hZ (own_W hw 20 rfl) (own_W hw 6 rfl) (by decide) (by decide) (own_EW a0 Z hw) C149.1) zhw zhx (g := (mkF m 16 #[.val (.int p1), .val (.int 1), .val (.ref (A 1)), .unset] [(.ref sa149), (.ref (A 1))])) rfl (by rw [hml]; rfl) (Steps.refl _) (argsL := [(.ref sa149)]) (rest := []) (lenOf own_pd5 rfl) rfl (by show 2 * 0 + _ ≤ _; exact Nat.le_of_eq rfl) (hb hby at_16) (fun _ _ => ⟨rfl, z43, (by decide : 2 + 2 ≤ _), (by decide : 12 + 8 ≤ _)⟩)
    dsimp only [Pt.U, Pt.locs, Pt.cells, Pt.slots] at z1q hSc150 hgr150 l150 y150 z150 z7b z7a C150
    obtain ⟨Xr150, hS150, hZ, hown⟩ := rebS (s := s) hS149 (by rw [z43]; exact zht) z1q hSc150 hgr150 hZ hown
    replace z1q := own_sub Xr150 l150 y150 z150
    obtain ⟨rfl, zhy, z7c⟩ := z7a
    have zhz := Fr.app zho zhy
    have zi0 := z44.keep z7c all0
    have zi1 := zhv.trans z7c all0
    have zi2 : own_P p e below z2w m 23 #[.val (.int p1), .val (.int 1), .val (.ref (A 1)), .unset] [(.ref (A 1))] s₁ #[(.int p1)] maxLocals := fun t k => zhp t (by
      show own_Y p e below z42 m 14 #[.val (.int p1), .val (.int 1), .val (.ref (A 1)), .unset] [(.ref (A 1))] _
      refine zhu _ ?_
      show own_Y p e below zhq m 16 #[.val (.int p1), .val (.int 1), .val (.ref (A 1)), .unset] [(.ref sa149), (.ref (A 1))] _
      refine z7b.trans ?_
      show own_Y p e below z2w m 19 #[.val (.int p1), .val (.int 1), .val (.ref (A 1)), .unset] [(.int 1)] _
      refine XS.ifNo z1q.here hx rfl (hb hby at_19) rfl ((if0 _ _).trans (feq (by decide : ¬ ((1 : Int32) = (0 : Int32)))).1) ?_
      show own_Y p e below z2w m 22 #[.val (.int p1), .val (.int 1), .val (.ref (A 1)), .unset] [] _
      refine XS.aloadN z1q.here hx rfl (hb hby at_22) rfl rfl ?_
      exact k)
    obtain ⟨sa152, zi3, zi4, kk152, sb152, kc152, zi5, z45, z7d, hS152, zi6, hZ, hown, Es152, Cs152, Vs152, As152, la152, lb152, C152, -, -, zi7⟩ := ldcCH (s := s) z1q hx hZ hown (own_W hw 87 rfl) (own_strAtoms a0 Z hw) rfl hS150 (Nat.le_refl _) (own_EW a0 Z hw) (List.mem_of_getElem? (i := 4) rfl) C150.1 (vs := [(.int 45), (.int 48)]) (z := (2 : Int32)) ⟨by decide, by decide⟩ (by decide) (by decide) (g := (mkF m 23 #[.val (.int p1), .val (.int 1), .val (.ref (A 1)), .unset] [(.ref (A 1))])) rfl (hb hby at_23) (n := 8) (by decide) (by decide) (by decide) (by decide)
    have z46 := zi0.ext z7d
    have zi8 := zi1.ext z7d
    obtain ⟨cq153, kq153, zi9, z10c, zia⟩ := isOf hZ z45 (EN.1.2.2.2.1.ext z46.2)
    obtain ⟨_, _, ⟨z47, L153, z10d, n153⟩, -, zx, hSc153, hgr153, ⟨Lc153, z7e, l153, y153, z153, C153⟩, z7f⟩ := zi5.virtualBackS hx (y := own_m0) (z := own_m0) hown (mvT hZ (own_W hw 16 rfl)) (mvT hZ (own_W hw 17 rfl)) (notFace_of_selects (args := #[]) (mvT hZ (own_W hw 19 rfl))) (mvT hZ (own_W hw 19 rfl)) (mvT hZ (own_W hw 18 rfl)) (by decide) (backOfSH (EL := consts_1) (W := 0) (rm22 l Z a0 hw [] zi4 n0 p1 A K cs (A 1) (1 : Int32) sb152 sa152 kc152 EN EN.1.2.2.2.1 EN.2.2.2.2.2.2.2.2.1.2.2.2.2.2.1 (by decide) z46 Es152 Vs152 As152 Cs152) hZ (own_W hw 20 rfl) (own_W hw 6 rfl) (by decide) (by decide) (own_EW a0 Z hw) C152.1) zi9 zia (g := (mkF m 25 #[.val (.int p1), .val (.int 1), .val (.ref (A 1)), .unset] [(.ref sa152), (.ref (A 1))])) rfl (by rw [hml]; rfl) (Steps.refl _) (argsL := [(.ref sa152)]) (rest := []) (lenOf own_pd5 rfl) rfl (by show 2 * 0 + _ ≤ _; exact Nat.le_of_eq rfl) (hb hby at_25) (fun _ _ => ⟨rfl, z45, (by decide : 6 + 2 ≤ _), (by decide : 32 + 8 ≤ _)⟩)
    dsimp only [Pt.U, Pt.locs, Pt.cells, Pt.slots] at zx hSc153 hgr153 l153 y153 z153 z7f z7e C153
    obtain ⟨Xr153, hS153, hZ, hown⟩ := rebS (s := s) hS152 (by rw [z45]; exact zi6) zx hSc153 hgr153 hZ hown
    replace zx := own_sub Xr153 l153 y153 z153
    obtain ⟨rfl, zib, z7g⟩ := z7e
    have zic := Fr.app zhz zib
    have z7h := z46.keep z7g all0
    have z10e := zi8.trans z7g all0
    obtain ⟨cq154, kq154, zid, z10f, zie⟩ := isOf hZ rfl (EN.1.2.2.2.1.ext z7h.2)
    obtain ⟨_, _, ⟨z48, L154, z10g, n154⟩, -, z4, ⟨Lc154, z7i, l154, y154, z154⟩, z7j⟩ := zx.virtualBack hx (y := own_m2) (z := own_m2) hown (mvT hZ (own_W hw 88 rfl)) (mvT hZ (own_W hw 89 rfl)) (notFace_of_selects (args := #[]) (mvT hZ (own_W hw 91 rfl))) (mvT hZ (own_W hw 91 rfl)) (mvT hZ (own_W hw 90 rfl)) (by decide) (backOf (W := 0) (rm30 l Z a0 hw [] z47.heap n0 p1 A K cs (A 1) (1 : Int32) EN EN.1.2.2.2.1 EN.2.2.2.2.2.2.2.2.1.2.2.2.2.2.1 (Fld.ne EN.2.2.2.2.2.2.2.2.1.2.2.2.2.2.1 EN.2.2.2.2.2.2.2.1.2.2.2.2.1 (fun h => by injection h with h; exact absurd h (by decide))) z7h) hZ (own_W hw 92 rfl) (own_W hw 6 rfl) (by decide) (by decide)) zid zie (g := (mkF m 38 #[.val (.int p1), .val (.int 1), .val (.ref (A 1)), .val (.int 0)] [(.ref (A 1))])) rfl (by rw [hml]; rfl) (Steps.refl _) (argsL := []) (rest := []) (lenOf own_pd6 rfl) rfl (by show 2 * 0 + _ ≤ _; exact Nat.le_of_eq rfl) (hb hby at_38) (fun _ _ => ⟨rfl, rfl, (by decide : 8 + 0 ≤ _), (by decide : 40 + 0 ≤ _)⟩)
    dsimp only [Pt.U, Pt.locs, Pt.cells, Pt.slots] at z4 l154 y154 z154 z7j z7i
    replace z4 := own_sub z4 l154 y154 z154
    obtain ⟨rfl, zif, zig⟩ := z7i
    have zih := Fr.app zic zif
    obtain ⟨fs, hr, hrun, hended, hEW⟩ := z4.leaveW (s := s) hS153 (by rw [zig]; exact (Nat.le_refl _)) (v := some (.int 1)) (fun h => by rw [Bd.returns] at h; cases h)
    refine ⟨_, _, zi2 _ ?_, hrun, hended, _, _, rfl, ?_, hEW.1, hEW.2.1, hEW.2.2.1, hEW.2.2.2.mono (by decide) (by decide)⟩
    · show own_Y p e below z2w m 23 #[.val (.int p1), .val (.int 1), .val (.ref (A 1)), .unset] [(.ref (A 1))] _
      refine zi7 _ ?_
      show own_Y p e below zi3 m 25 #[.val (.int p1), .val (.int 1), .val (.ref (A 1)), .unset] [(.ref sa152), (.ref (A 1))] _
      refine z7f.trans ?_
      show own_Y p e below z47 m 28 #[.val (.int p1), .val (.int 1), .val (.ref (A 1)), .unset] [(.int 1)] _
      refine XS.ifYes zx.here hx rfl (pc0 := 28) (pc' := 35) rfl (hb hby at_28) rfl ((if0 _ _).trans (feq (by decide : ¬ ((1 : Int32) = (0 : Int32)))).2) (by decide) (by decide) ?_
      show own_Y p e below z47 m 35 #[.val (.int p1), .val (.int 1), .val (.ref (A 1)), .unset] [] _
      refine XS.iconst zx.here hx rfl (hb hby at_35) ?_
      refine XS.istoreN zx.here hx rfl (hb hby at_36) rfl (l' := #[.val (.int p1), .val (.int 1), .val (.ref (A 1)), .val (.int 0)]) rfl ?_
      refine XS.aloadN zx.here hx rfl (hb hby at_37) rfl rfl ?_
      refine z7j.trans ?_
      show own_Y p e below z48 m 41 #[.val (.int p1), .val (.int 1), .val (.ref (A 1)), .val (.int 0)] [(.int 0)] _
      refine XS.iloadN z4.here hx rfl (hb hby at_41) rfl ?_
      refine XS.icmpNo z4.here hx rfl (hb hby at_42) rfl (teq (by decide : (0 : Int32) = (0 : Int32))).2 ?_
      show own_Y p e below z48 m 45 #[.val (.int p1), .val (.int 1), .val (.ref (A 1)), .val (.int 0)] [] _
      refine XS.iconst z4.here hx rfl (hb hby at_45) ?_
      refine XS.goto z4.here hx rfl (pc0 := 46) (pc' := 50) rfl (hb hby at_46) (by decide) (by decide) ?_
      exact retN z4 hx (t := .boolean) Bd.returns (by simp) (hb hby at_50) hr
    · show LQ n0 _ z48.heap _
      exact ⟨rfl, zih, trivial⟩
  | 2, _, z0 =>
    obtain ⟨_, _, ⟨z49, L155, z10h, n155⟩, -, z1r, ⟨Lc155, z7k, l155, y155, z155⟩, z7l⟩ := Jvm.LawKit.callS X0 hx (y := own_m5) hown (mvT hZ (own_W hw 1 rfl)) (mvT hZ (own_W hw 2 rfl)) (mvT hZ (own_W hw 3 rfl)) (mvT hZ (own_W hw 4 rfl)) (by decide) (backOf (W := 0) (rmPick l Z a0 hw [] h0 n0 p1 A K cs (2 : Int32) (A 2) EN ⟨2, by decide, rfl⟩ (congrArg A (by decide)) OL0) hZ (own_W hw 4 rfl) (own_W hw 3 rfl) (by decide) (by decide)) (g := (mkF m 9 #[.val (.int p1), .val (.int 2), .unset, .unset] [(.int 2)])) rfl (by rw [hml]; rfl) (argsL := [(.int 2)]) (rest := []) (lenOf own_pd0 rfl) rfl (by show 2 * 0 + _ ≤ _; exact Nat.le_of_eq rfl) (hb hby at_9) (fun _ _ => ⟨rfl, e0, (by decide : 0 + 0 ≤ _), (by decide : 0 + 0 ≤ _)⟩)
    dsimp only [Pt.U, Pt.locs, Pt.cells, Pt.slots] at z1r l155 y155 z155 z7l z7k
    replace z1r := own_sub z1r l155 y155 z155
    obtain ⟨rfl, zii, zij⟩ := z7k
    have zik := Fr.app N0 zii
    have zil : own_P p e below z49 m 14 #[.val (.int p1), .val (.int 2), .val (.ref (A 2)), .unset] [(.ref (A 2))] s₁ #[(.int p1)] maxLocals := fun t k => z2 t (by
      show own_Y p e below s₁ m 7 #[.val (.int p1), .unset, .unset, .unset] [(.int ((p1 &&& (2147483647 : Int32)) % 28))] _
      rw [z0]
      show own_Y p e below s₁ m 7 #[.val (.int p1), .unset, .unset, .unset] [(.int 2)] _
      refine XS.istoreN X0.here hx rfl (hb hby at_7) rfl (l' := #[.val (.int p1), .val (.int 2), .unset, .unset]) rfl ?_
      refine XS.iloadN X0.here hx rfl (hb hby at_8) rfl ?_
      refine z7l _ ?_
      show own_Y p e below z49 m 12 #[.val (.int p1), .val (.int 2), .unset, .unset] [(.ref (A 2))] _
      refine XS.astoreN z1r.here hx rfl (hb hby at_12) rfl rfl (l' := #[.val (.int p1), .val (.int 2), .val (.ref (A 2)), .unset]) rfl ?_
      refine XS.aloadN z1r.here hx rfl (hb hby at_13) rfl rfl ?_
      exact k)
    obtain ⟨sa157, zim, zin, kk157, sb157, kc157, zio, z7m, z7n, hS157, zip, hZ, hown, Es157, Cs157, Vs157, As157, la157, lb157, C157, -, -, ziq⟩ := ldcCH (s := s) z1r hx hZ hown (own_W hw 8 rfl) (own_strAtoms a0 Z hw) zij hS0 z1 (own_EW a0 Z hw) (List.mem_of_getElem? (i := 3) rfl) H0 (vs := [(.int 48), (.int 48)]) (z := (2 : Int32)) ⟨by decide, by decide⟩ (by decide) (by decide) (g := (mkF m 14 #[.val (.int p1), .val (.int 2), .val (.ref (A 2)), .unset] [(.ref (A 2))])) rfl (hb hby at_14) (n := 8) (by decide) (by decide) (by decide) (by decide)
    have z4a := OL0.ext z7n
    have zir := KK0.ext z7n
    obtain ⟨cq170, kq170, zis, z10i, zit⟩ := isOf hZ z7m (EN.1.2.2.2.2.2.1.ext z4a.2)
    obtain ⟨_, _, ⟨z2x, L170, z10j, n170⟩, -, z1s, ⟨Lc170, z7o, l170, y170, z170⟩, z7p⟩ := zio.virtualBack hx (y := own_m0) (z := own_m0) hown (mvT hZ (own_W hw 16 rfl)) (mvT hZ (own_W hw 17 rfl)) (notFace_of_selects (args := #[]) (mvT hZ (own_W hw 19 rfl))) (mvT hZ (own_W hw 19 rfl)) (mvT hZ (own_W hw 18 rfl)) (by decide) (backOf (W := 0) (rm31 l Z a0 hw [] zin n0 p1 A K cs (A 2) (2 : Int32) sb157 sa157 kc157 EN EN.1.2.2.2.2.2.1 EN.2.2.2.2.2.2.2.1.2.2.2.2.1 (by decide) z4a Es157 Vs157 As157 Cs157) hZ (own_W hw 20 rfl) (own_W hw 6 rfl) (by decide) (by decide)) zis zit (g := (mkF m 16 #[.val (.int p1), .val (.int 2), .val (.ref (A 2)), .unset] [(.ref sa157), (.ref (A 2))])) rfl (by rw [hml]; rfl) (Steps.refl _) (argsL := [(.ref sa157)]) (rest := []) (lenOf own_pd5 rfl) rfl (by show 2 * 0 + _ ≤ _; exact Nat.le_of_eq rfl) (hb hby at_16) (fun _ _ => ⟨rfl, z7m, (by decide : 2 + 0 ≤ _), (by decide : 12 + 0 ≤ _)⟩)
    dsimp only [Pt.U, Pt.locs, Pt.cells, Pt.slots] at z1s l170 y170 z170 z7p z7o
    replace z1s := own_sub z1s l170 y170 z170
    obtain ⟨rfl, ziu, ziv⟩ := z7o
    have ziw := Fr.app zik ziu
    have zix : own_P p e below z2x m 23 #[.val (.int p1), .val (.int 2), .val (.ref (A 2)), .unset] [(.ref (A 2))] s₁ #[(.int p1)] maxLocals := fun t k => zil t (by
      show own_Y p e below z49 m 14 #[.val (.int p1), .val (.int 2), .val (.ref (A 2)), .unset] [(.ref (A 2))] _
      refine ziq _ ?_
      show own_Y p e below zim m 16 #[.val (.int p1), .val (.int 2), .val (.ref (A 2)), .unset] [(.ref sa157), (.ref (A 2))] _
      refine z7p.trans ?_
      show own_Y p e below z2x m 19 #[.val (.int p1), .val (.int 2), .val (.ref (A 2)), .unset] [(.int 1)] _
      refine XS.ifNo z1s.here hx rfl (hb hby at_19) rfl ((if0 _ _).trans (feq (by decide : ¬ ((1 : Int32) = (0 : Int32)))).1) ?_
      show own_Y p e below z2x m 22 #[.val (.int p1), .val (.int 2), .val (.ref (A 2)), .unset] [] _
      refine XS.aloadN z1s.here hx rfl (hb hby at_22) rfl rfl ?_
      exact k)
    obtain ⟨sa172, ziy, z7q, kk172, sb172, kc172, ziz, z7r, z7s, hS172, zj0, hZ, hown, Es172, Cs172, Vs172, As172, la172, lb172, C172, -, -, zj1⟩ := ldcCH (s := s) z1s hx hZ hown (own_W hw 87 rfl) (own_strAtoms a0 Z hw) ziv hS157 zip (own_EW a0 Z hw) (List.mem_of_getElem? (i := 4) rfl) C157.1 (vs := [(.int 45), (.int 48)]) (z := (2 : Int32)) ⟨by decide, by decide⟩ (by decide) (by decide) (g := (mkF m 23 #[.val (.int p1), .val (.int 2), .val (.ref (A 2)), .unset] [(.ref (A 2))])) rfl (hb hby at_23) (n := 8) (by decide) (by decide) (by decide) (by decide)
    have z2y := z4a.ext z7s
    have z10k := zir.ext z7s
    obtain ⟨cq188, kq188, zj2, z10l, zj3⟩ := isOf hZ z7r (EN.1.2.2.2.2.2.1.ext z2y.2)
    obtain ⟨_, _, ⟨z7t, L188, z10m, n188⟩, -, z5, ⟨Lc188, z7u, l188, y188, z188⟩, z7v⟩ := ziz.virtualBack hx (y := own_m0) (z := own_m0) hown (mvT hZ (own_W hw 16 rfl)) (mvT hZ (own_W hw 17 rfl)) (notFace_of_selects (args := #[]) (mvT hZ (own_W hw 19 rfl))) (mvT hZ (own_W hw 19 rfl)) (mvT hZ (own_W hw 18 rfl)) (by decide) (backOf (W := 0) (rm34 l Z a0 hw [] z7q n0 p1 A K cs (A 2) (2 : Int32) sb172 sa172 kc172 EN EN.1.2.2.2.2.2.1 EN.2.2.2.2.2.2.2.1.2.2.2.2.1 (by decide) z2y Es172 Vs172 As172 Cs172) hZ (own_W hw 20 rfl) (own_W hw 6 rfl) (by decide) (by decide)) zj2 zj3 (g := (mkF m 25 #[.val (.int p1), .val (.int 2), .val (.ref (A 2)), .unset] [(.ref sa172), (.ref (A 2))])) rfl (by rw [hml]; rfl) (Steps.refl _) (argsL := [(.ref sa172)]) (rest := []) (lenOf own_pd5 rfl) rfl (by show 2 * 0 + _ ≤ _; exact Nat.le_of_eq rfl) (hb hby at_25) (fun _ _ => ⟨rfl, z7r, (by decide : 4 + 0 ≤ _), (by decide : 24 + 0 ≤ _)⟩)
    dsimp only [Pt.U, Pt.locs, Pt.cells, Pt.slots] at z5 l188 y188 z188 z7v z7u
    replace z5 := own_sub z5 l188 y188 z188
    obtain ⟨rfl, zj4, z7w⟩ := z7u
    have zj5 := Fr.app ziw zj4
    obtain ⟨cq190, kq190, zj6, z10n, zj7⟩ := isOf hZ z7w (EN.1.2.2.2.2.2.1.ext z2y.2)
    obtain ⟨_, _, ⟨z4b, L190, z10o, n190⟩, -, z6, ⟨Lc190, z7x, l190, y190, z190⟩, z7y⟩ := z5.virtualBack hx (y := own_m2) (z := own_m2) hown (mvT hZ (own_W hw 88 rfl)) (mvT hZ (own_W hw 89 rfl)) (notFace_of_selects (args := #[]) (mvT hZ (own_W hw 91 rfl))) (mvT hZ (own_W hw 91 rfl)) (mvT hZ (own_W hw 90 rfl)) (by decide) (backOf (W := 0) (rm39 l Z a0 hw [] z7q n0 p1 A K cs EN z2y) hZ (own_W hw 92 rfl) (own_W hw 6 rfl) (by decide) (by decide)) zj6 zj7 (g := (mkF m 38 #[.val (.int p1), .val (.int 2), .val (.ref (A 2)), .val (.int 1)] [(.ref (A 2))])) rfl (by rw [hml]; rfl) (Steps.refl _) (argsL := []) (rest := []) (lenOf own_pd6 rfl) rfl (by show 2 * 0 + _ ≤ _; exact Nat.le_of_eq rfl) (hb hby at_38) (fun _ _ => ⟨rfl, z7w, (by decide : 4 + 0 ≤ _), (by decide : 24 + 0 ≤ _)⟩)
    dsimp only [Pt.U, Pt.locs, Pt.cells, Pt.slots] at z6 l190 y190 z190 z7y z7x
    replace z6 := own_sub z6 l190 y190 z190
    obtain ⟨rfl, zj8, zj9⟩ := z7x
    have zja := Fr.app zj5 zj8
    obtain ⟨fs, hr, hrun, hended, hEW⟩ := z6.leaveW (s := s) hS172 (by rw [zj9]; exact zj0) (v := some (.int 1)) (fun h => by rw [Bd.returns] at h; cases h)
    refine ⟨_, _, zix _ ?_, hrun, hended, _, _, rfl, ?_, hEW.1, hEW.2.1, hEW.2.2.1, hEW.2.2.2.mono (by decide) (by decide)⟩
    · show own_Y p e below z2x m 23 #[.val (.int p1), .val (.int 2), .val (.ref (A 2)), .unset] [(.ref (A 2))] _
      refine zj1 _ ?_
      show own_Y p e below ziy m 25 #[.val (.int p1), .val (.int 2), .val (.ref (A 2)), .unset] [(.ref sa172), (.ref (A 2))] _
      refine z7v.trans ?_
      show own_Y p e below z7t m 28 #[.val (.int p1), .val (.int 2), .val (.ref (A 2)), .unset] [(.int 0)] _
      refine XS.ifNo z5.here hx rfl (hb hby at_28) rfl ((if0 _ _).trans (teq (by decide : (0 : Int32) = (0 : Int32))).2) ?_
      show own_Y p e below z7t m 31 #[.val (.int p1), .val (.int 2), .val (.ref (A 2)), .unset] [] _
      refine XS.iconst z5.here hx rfl (hb hby at_31) ?_
      refine XS.goto z5.here hx rfl (pc0 := 32) (pc' := 36) rfl (hb hby at_32) (by decide) (by decide) ?_
      refine XS.istoreN z5.here hx rfl (hb hby at_36) rfl (l' := #[.val (.int p1), .val (.int 2), .val (.ref (A 2)), .val (.int 1)]) rfl ?_
      refine XS.aloadN z5.here hx rfl (hb hby at_37) rfl rfl ?_
      refine z7y.trans ?_
      show own_Y p e below z4b m 41 #[.val (.int p1), .val (.int 2), .val (.ref (A 2)), .val (.int 1)] [(.int 1)] _
      refine XS.iloadN z6.here hx rfl (hb hby at_41) rfl ?_
      refine XS.icmpNo z6.here hx rfl (hb hby at_42) rfl (teq (by decide : (1 : Int32) = (1 : Int32))).2 ?_
      show own_Y p e below z4b m 45 #[.val (.int p1), .val (.int 2), .val (.ref (A 2)), .val (.int 1)] [] _
      refine XS.iconst z6.here hx rfl (hb hby at_45) ?_
      refine XS.goto z6.here hx rfl (pc0 := 46) (pc' := 50) rfl (hb hby at_46) (by decide) (by decide) ?_
      exact retN z6 hx (t := .boolean) Bd.returns (by simp) (hb hby at_50) hr
    · show LQ n0 _ z4b.heap _
      exact ⟨rfl, zja, trivial⟩
  | 3, _, z0 =>
    obtain ⟨_, _, ⟨z4c, L191, z10p, n191⟩, -, z1t, ⟨Lc191, z7z, l191, y191, z191⟩, z80⟩ := Jvm.LawKit.callS X0 hx (y := own_m5) hown (mvT hZ (own_W hw 1 rfl)) (mvT hZ (own_W hw 2 rfl)) (mvT hZ (own_W hw 3 rfl)) (mvT hZ (own_W hw 4 rfl)) (by decide) (backOf (W := 0) (rmPick l Z a0 hw [] h0 n0 p1 A K cs (3 : Int32) (A 3) EN ⟨3, by decide, rfl⟩ (congrArg A (by decide)) OL0) hZ (own_W hw 4 rfl) (own_W hw 3 rfl) (by decide) (by decide)) (g := (mkF m 9 #[.val (.int p1), .val (.int 3), .unset, .unset] [(.int 3)])) rfl (by rw [hml]; rfl) (argsL := [(.int 3)]) (rest := []) (lenOf own_pd0 rfl) rfl (by show 2 * 0 + _ ≤ _; exact Nat.le_of_eq rfl) (hb hby at_9) (fun _ _ => ⟨rfl, e0, (by decide : 0 + 0 ≤ _), (by decide : 0 + 0 ≤ _)⟩)
    dsimp only [Pt.U, Pt.locs, Pt.cells, Pt.slots] at z1t l191 y191 z191 z80 z7z
    replace z1t := own_sub z1t l191 y191 z191
    obtain ⟨rfl, zjb, zjc⟩ := z7z
    have zjd := Fr.app N0 zjb
    have zje : own_P p e below z4c m 14 #[.val (.int p1), .val (.int 3), .val (.ref (A 3)), .unset] [(.ref (A 3))] s₁ #[(.int p1)] maxLocals := fun t k => z2 t (by
      show own_Y p e below s₁ m 7 #[.val (.int p1), .unset, .unset, .unset] [(.int ((p1 &&& (2147483647 : Int32)) % 28))] _
      rw [z0]
      show own_Y p e below s₁ m 7 #[.val (.int p1), .unset, .unset, .unset] [(.int 3)] _
      refine XS.istoreN X0.here hx rfl (hb hby at_7) rfl (l' := #[.val (.int p1), .val (.int 3), .unset, .unset]) rfl ?_
      refine XS.iloadN X0.here hx rfl (hb hby at_8) rfl ?_
      refine z80 _ ?_
      show own_Y p e below z4c m 12 #[.val (.int p1), .val (.int 3), .unset, .unset] [(.ref (A 3))] _
      refine XS.astoreN z1t.here hx rfl (hb hby at_12) rfl rfl (l' := #[.val (.int p1), .val (.int 3), .val (.ref (A 3)), .unset]) rfl ?_
      refine XS.aloadN z1t.here hx rfl (hb hby at_13) rfl rfl ?_
      exact k)
    obtain ⟨sa193, zjf, z81, kk193, sb193, kc193, zjg, z82, z83, hS193, zjh, hZ, hown, Es193, Cs193, Vs193, As193, la193, lb193, C193, -, -, zji⟩ := ldcCH (s := s) z1t hx hZ hown (own_W hw 8 rfl) (own_strAtoms a0 Z hw) zjc hS0 z1 (own_EW a0 Z hw) (List.mem_of_getElem? (i := 3) rfl) H0 (vs := [(.int 48), (.int 48)]) (z := (2 : Int32)) ⟨by decide, by decide⟩ (by decide) (by decide) (g := (mkF m 14 #[.val (.int p1), .val (.int 3), .val (.ref (A 3)), .unset] [(.ref (A 3))])) rfl (hb hby at_14) (n := 8) (by decide) (by decide) (by decide) (by decide)
    have z2z := OL0.ext z83
    have z10q := KK0.ext z83
    obtain ⟨cq198, kq198, zjj, z10r, zjk⟩ := isOf hZ z82 (EN.1.2.2.2.2.2.2.2.1.ext z2z.2)
    obtain ⟨_, _, ⟨z84, L198, z10s, n198⟩, -, zy, ⟨Lc198, z85, l198, y198, z198⟩, z86⟩ := zjg.virtualBack hx (y := own_m0) (z := own_m0) hown (mvT hZ (own_W hw 16 rfl)) (mvT hZ (own_W hw 17 rfl)) (notFace_of_selects (args := #[]) (mvT hZ (own_W hw 19 rfl))) (mvT hZ (own_W hw 19 rfl)) (mvT hZ (own_W hw 18 rfl)) (by decide) (backOf (W := 0) (rm40 l Z a0 hw [] z81 n0 p1 A K cs (A 3) (3 : Int32) sb193 sa193 kc193 EN EN.1.2.2.2.2.2.2.2.1 EN.2.2.2.2.2.2.2.1.2.2.2.2.2.1 (by decide) z2z Es193 Vs193 As193 Cs193) hZ (own_W hw 20 rfl) (own_W hw 6 rfl) (by decide) (by decide)) zjj zjk (g := (mkF m 16 #[.val (.int p1), .val (.int 3), .val (.ref (A 3)), .unset] [(.ref sa193), (.ref (A 3))])) rfl (by rw [hml]; rfl) (Steps.refl _) (argsL := [(.ref sa193)]) (rest := []) (lenOf own_pd5 rfl) rfl (by show 2 * 0 + _ ≤ _; exact Nat.le_of_eq rfl) (hb hby at_16) (fun _ _ => ⟨rfl, z82, (by decide : 2 + 0 ≤ _), (by decide : 12 + 0 ≤ _)⟩)
    dsimp only [Pt.U, Pt.locs, Pt.cells, Pt.slots] at zy l198 y198 z198 z86 z85
    replace zy := own_sub zy l198 y198 z198
    obtain ⟨rfl, zjl, z87⟩ := z85
    have zjm := Fr.app zjd zjl
    obtain ⟨cq199, kq199, zjn, z10t, zjo⟩ := isOf hZ z87 (EN.1.2.2.2.2.2.2.2.1.ext z2z.2)
    obtain ⟨_, _, ⟨z4d, L199, z10u, n199⟩, -, z7, ⟨Lc199, z88, l199, y199, z199⟩, z89⟩ := zy.virtualBack hx (y := own_m2) (z := own_m2) hown (mvT hZ (own_W hw 88 rfl)) (mvT hZ (own_W hw 89 rfl)) (notFace_of_selects (args := #[]) (mvT hZ (own_W hw 91 rfl))) (mvT hZ (own_W hw 91 rfl)) (mvT hZ (own_W hw 90 rfl)) (by decide) (backOf (W := 0) (rm30 l Z a0 hw [] z81 n0 p1 A K cs (A 3) (3 : Int32) EN EN.1.2.2.2.2.2.2.2.1 EN.2.2.2.2.2.2.2.1.2.2.2.2.2.1 (Fld.ne EN.2.2.2.2.2.2.2.1.2.2.2.2.2.1 EN.2.2.2.2.2.2.2.1.2.2.2.2.1 (fun h => by injection h with h; exact absurd h (by decide))) z2z) hZ (own_W hw 92 rfl) (own_W hw 6 rfl) (by decide) (by decide)) zjn zjo (g := (mkF m 38 #[.val (.int p1), .val (.int 3), .val (.ref (A 3)), .val (.int 0)] [(.ref (A 3))])) rfl (by rw [hml]; rfl) (Steps.refl _) (argsL := []) (rest := []) (lenOf own_pd6 rfl) rfl (by show 2 * 0 + _ ≤ _; exact Nat.le_of_eq rfl) (hb hby at_38) (fun _ _ => ⟨rfl, z87, (by decide : 2 + 0 ≤ _), (by decide : 12 + 0 ≤ _)⟩)
    dsimp only [Pt.U, Pt.locs, Pt.cells, Pt.slots] at z7 l199 y199 z199 z89 z88
    replace z7 := own_sub z7 l199 y199 z199
    obtain ⟨rfl, zjp, zjq⟩ := z88
    have zjr := Fr.app zjm zjp
    obtain ⟨fs, hr, hrun, hended, hEW⟩ := z7.leaveW (s := s) hS193 (by rw [zjq]; exact zjh) (v := some (.int 1)) (fun h => by rw [Bd.returns] at h; cases h)
    refine ⟨_, _, zje _ ?_, hrun, hended, _, _, rfl, ?_, hEW.1, hEW.2.1, hEW.2.2.1, hEW.2.2.2.mono (by decide) (by decide)⟩
    · show own_Y p e below z4c m 14 #[.val (.int p1), .val (.int 3), .val (.ref (A 3)), .unset] [(.ref (A 3))] _
      refine zji _ ?_
      show own_Y p e below zjf m 16 #[.val (.int p1), .val (.int 3), .val (.ref (A 3)), .unset] [(.ref sa193), (.ref (A 3))] _
      refine z86.trans ?_
      show own_Y p e below z84 m 19 #[.val (.int p1), .val (.int 3), .val (.ref (A 3)), .unset] [(.int 0)] _
      refine XS.ifYes zy.here hx rfl (pc0 := 19) (pc' := 35) rfl (hb hby at_19) rfl ((if0 _ _).trans (teq (by decide : (0 : Int32) = (0 : Int32))).1) (by decide) (by decide) ?_
      show own_Y p e below z84 m 35 #[.val (.int p1), .val (.int 3), .val (.ref (A 3)), .unset] [] _
      refine XS.iconst zy.here hx rfl (hb hby at_35) ?_
      refine XS.istoreN zy.here hx rfl (hb hby at_36) rfl (l' := #[.val (.int p1), .val (.int 3), .val (.ref (A 3)), .val (.int 0)]) rfl ?_
      refine XS.aloadN zy.here hx rfl (hb hby at_37) rfl rfl ?_
      refine z89.trans ?_
      show own_Y p e below z4d m 41 #[.val (.int p1), .val (.int 3), .val (.ref (A 3)), .val (.int 0)] [(.int 0)] _
      refine XS.iloadN z7.here hx rfl (hb hby at_41) rfl ?_
      refine XS.icmpNo z7.here hx rfl (hb hby at_42) rfl (teq (by decide : (0 : Int32) = (0 : Int32))).2 ?_
      show own_Y p e below z4d m 45 #[.val (.int p1), .val (.int 3), .val (.ref (A 3)), .val (.int 0)] [] _
      refine XS.iconst z7.here hx rfl (hb hby at_45) ?_
      refine XS.goto z7.here hx rfl (pc0 := 46) (pc' := 50) rfl (hb hby at_46) (by decide) (by decide) ?_
      exact retN z7 hx (t := .boolean) Bd.returns (by simp) (hb hby at_50) hr
    · show LQ n0 _ z4d.heap _
      exact ⟨rfl, zjr, trivial⟩
  | 4, _, z0 =>
    obtain ⟨_, _, ⟨z4e, L200, z10v, n200⟩, -, z1u, ⟨Lc200, z8a, l200, y200, z200⟩, z8b⟩ := Jvm.LawKit.callS X0 hx (y := own_m5) hown (mvT hZ (own_W hw 1 rfl)) (mvT hZ (own_W hw 2 rfl)) (mvT hZ (own_W hw 3 rfl)) (mvT hZ (own_W hw 4 rfl)) (by decide) (backOf (W := 0) (rmPick l Z a0 hw [] h0 n0 p1 A K cs (4 : Int32) (A 4) EN ⟨4, by decide, rfl⟩ (congrArg A (by decide)) OL0) hZ (own_W hw 4 rfl) (own_W hw 3 rfl) (by decide) (by decide)) (g := (mkF m 9 #[.val (.int p1), .val (.int 4), .unset, .unset] [(.int 4)])) rfl (by rw [hml]; rfl) (argsL := [(.int 4)]) (rest := []) (lenOf own_pd0 rfl) rfl (by show 2 * 0 + _ ≤ _; exact Nat.le_of_eq rfl) (hb hby at_9) (fun _ _ => ⟨rfl, e0, (by decide : 0 + 0 ≤ _), (by decide : 0 + 0 ≤ _)⟩)
    dsimp only [Pt.U, Pt.locs, Pt.cells, Pt.slots] at z1u l200 y200 z200 z8b z8a
    replace z1u := own_sub z1u l200 y200 z200
    obtain ⟨rfl, zjs, zjt⟩ := z8a
    have zju := Fr.app N0 zjs
    have zjv : own_P p e below z4e m 14 #[.val (.int p1), .val (.int 4), .val (.ref (A 4)), .unset] [(.ref (A 4))] s₁ #[(.int p1)] maxLocals := fun t k => z2 t (by
      show own_Y p e below s₁ m 7 #[.val (.int p1), .unset, .unset, .unset] [(.int ((p1 &&& (2147483647 : Int32)) % 28))] _
      rw [z0]
      show own_Y p e below s₁ m 7 #[.val (.int p1), .unset, .unset, .unset] [(.int 4)] _
      refine XS.istoreN X0.here hx rfl (hb hby at_7) rfl (l' := #[.val (.int p1), .val (.int 4), .unset, .unset]) rfl ?_
      refine XS.iloadN X0.here hx rfl (hb hby at_8) rfl ?_
      refine z8b _ ?_
      show own_Y p e below z4e m 12 #[.val (.int p1), .val (.int 4), .unset, .unset] [(.ref (A 4))] _
      refine XS.astoreN z1u.here hx rfl (hb hby at_12) rfl rfl (l' := #[.val (.int p1), .val (.int 4), .val (.ref (A 4)), .unset]) rfl ?_
      refine XS.aloadN z1u.here hx rfl (hb hby at_13) rfl rfl ?_
      exact k)
    obtain ⟨sa202, zjw, zjx, kk202, sb202, kc202, zjy, z4f, z8c, hS202, zjz, hZ, hown, Es202, Cs202, Vs202, As202, la202, lb202, C202, -, -, zk0⟩ := ldcCH (s := s) z1u hx hZ hown (own_W hw 8 rfl) (own_strAtoms a0 Z hw) zjt hS0 z1 (own_EW a0 Z hw) (List.mem_of_getElem? (i := 3) rfl) H0 (vs := [(.int 48), (.int 48)]) (z := (2 : Int32)) ⟨by decide, by decide⟩ (by decide) (by decide) (g := (mkF m 14 #[.val (.int p1), .val (.int 4), .val (.ref (A 4)), .unset] [(.ref (A 4))])) rfl (hb hby at_14) (n := 8) (by decide) (by decide) (by decide) (by decide)
    have z4g := OL0.ext z8c
    have zk1 := KK0.ext z8c
    obtain ⟨cq220, kq220, zk2, z10w, zk3⟩ := isOf hZ z4f (EN.2.1.2.1.ext z4g.2)
    obtain ⟨_, _, ⟨z30, L220, z10x, n220⟩, -, z1v, hSc220, hgr220, ⟨Lc220, z8d, l220, y220, z220, C220⟩, z8e⟩ := zjy.virtualBackS hx (y := own_m0) (z := own_m0) hown (mvT hZ (own_W hw 16 rfl)) (mvT hZ (own_W hw 17 rfl)) (notFace_of_selects (args := #[]) (mvT hZ (own_W hw 19 rfl))) (mvT hZ (own_W hw 19 rfl)) (mvT hZ (own_W hw 18 rfl)) (by decide) (backOfSH (EL := consts_1) (W := 0) (rm41 l Z a0 hw [] zjx n0 p1 A K cs (A 4) (4 : Int32) sb202 sa202 kc202 EN EN.2.1.2.1 EN.2.2.2.2.2.2.2.2.2.1.2.2.2.2.2.2.2.1 (by decide) z4g Es202 Vs202 As202 Cs202) hZ (own_W hw 20 rfl) (own_W hw 6 rfl) (by decide) (by decide) (own_EW a0 Z hw) C202.1) zk2 zk3 (g := (mkF m 16 #[.val (.int p1), .val (.int 4), .val (.ref (A 4)), .unset] [(.ref sa202), (.ref (A 4))])) rfl (by rw [hml]; rfl) (Steps.refl _) (argsL := [(.ref sa202)]) (rest := []) (lenOf own_pd5 rfl) rfl (by show 2 * 0 + _ ≤ _; exact Nat.le_of_eq rfl) (hb hby at_16) (fun _ _ => ⟨rfl, z4f, (by decide : 2 + 2 ≤ _), (by decide : 12 + 8 ≤ _)⟩)
    dsimp only [Pt.U, Pt.locs, Pt.cells, Pt.slots] at z1v hSc220 hgr220 l220 y220 z220 z8e z8d C220
    obtain ⟨Xr220, hS220, hZ, hown⟩ := rebS (s := s) hS202 (by rw [z4f]; exact zjz) z1v hSc220 hgr220 hZ hown
    replace z1v := own_sub Xr220 l220 y220 z220
    obtain ⟨rfl, zk4, z8f⟩ := z8d
    have zk5 := Fr.app zju zk4
    have zk6 := z4g.keep z8f all0
    have zk7 := zk1.trans z8f all0
    have zk8 : own_P p e below z30 m 23 #[.val (.int p1), .val (.int 4), .val (.ref (A 4)), .unset] [(.ref (A 4))] s₁ #[(.int p1)] maxLocals := fun t k => zjv t (by
      show own_Y p e below z4e m 14 #[.val (.int p1), .val (.int 4), .val (.ref (A 4)), .unset] [(.ref (A 4))] _
      refine zk0 _ ?_
      show own_Y p e below zjw m 16 #[.val (.int p1), .val (.int 4), .val (.ref (A 4)), .unset] [(.ref sa202), (.ref (A 4))] _
      refine z8e.trans ?_
      show own_Y p e below z30 m 19 #[.val (.int p1), .val (.int 4), .val (.ref (A 4)), .unset] [(.int 1)] _
      refine XS.ifNo z1v.here hx rfl (hb hby at_19) rfl ((if0 _ _).trans (feq (by decide : ¬ ((1 : Int32) = (0 : Int32)))).1) ?_
      show own_Y p e below z30 m 22 #[.val (.int p1), .val (.int 4), .val (.ref (A 4)), .unset] [] _
      refine XS.aloadN z1v.here hx rfl (hb hby at_22) rfl rfl ?_
      exact k)
    obtain ⟨sa222, zk9, zka, kk222, sb222, kc222, zkb, z4h, z8g, hS222, zkc, hZ, hown, Es222, Cs222, Vs222, As222, la222, lb222, C222, -, -, zkd⟩ := ldcCH (s := s) z1v hx hZ hown (own_W hw 87 rfl) (own_strAtoms a0 Z hw) rfl hS220 (Nat.le_refl _) (own_EW a0 Z hw) (List.mem_of_getElem? (i := 4) rfl) C220.1 (vs := [(.int 45), (.int 48)]) (z := (2 : Int32)) ⟨by decide, by decide⟩ (by decide) (by decide) (g := (mkF m 23 #[.val (.int p1), .val (.int 4), .val (.ref (A 4)), .unset] [(.ref (A 4))])) rfl (hb hby at_23) (n := 8) (by decide) (by decide) (by decide) (by decide)
    have z4i := zk6.ext z8g
    have zke := zk7.ext z8g
    obtain ⟨cq240, kq240, zkf, z10y, zkg⟩ := isOf hZ z4h (EN.2.1.2.1.ext z4i.2)
    obtain ⟨_, _, ⟨z4j, L240, z10z, n240⟩, -, zz, hSc240, hgr240, ⟨Lc240, z8h, l240, y240, z240, C240⟩, z8i⟩ := zkb.virtualBackS hx (y := own_m0) (z := own_m0) hown (mvT hZ (own_W hw 16 rfl)) (mvT hZ (own_W hw 17 rfl)) (notFace_of_selects (args := #[]) (mvT hZ (own_W hw 19 rfl))) (mvT hZ (own_W hw 19 rfl)) (mvT hZ (own_W hw 18 rfl)) (by decide) (backOfSH (EL := consts_1) (W := 0) (rm44 l Z a0 hw [] zka n0 p1 A K cs (A 4) (4 : Int32) sb222 sa222 kc222 EN EN.2.1.2.1 EN.2.2.2.2.2.2.2.2.2.1.2.2.2.2.2.2.2.1 (by decide) z4i Es222 Vs222 As222 Cs222) hZ (own_W hw 20 rfl) (own_W hw 6 rfl) (by decide) (by decide) (own_EW a0 Z hw) C222.1) zkf zkg (g := (mkF m 25 #[.val (.int p1), .val (.int 4), .val (.ref (A 4)), .unset] [(.ref sa222), (.ref (A 4))])) rfl (by rw [hml]; rfl) (Steps.refl _) (argsL := [(.ref sa222)]) (rest := []) (lenOf own_pd5 rfl) rfl (by show 2 * 0 + _ ≤ _; exact Nat.le_of_eq rfl) (hb hby at_25) (fun _ _ => ⟨rfl, z4h, (by decide : 6 + 2 ≤ _), (by decide : 32 + 8 ≤ _)⟩)
    dsimp only [Pt.U, Pt.locs, Pt.cells, Pt.slots] at zz hSc240 hgr240 l240 y240 z240 z8i z8h C240
    obtain ⟨Xr240, hS240, hZ, hown⟩ := rebS (s := s) hS222 (by rw [z4h]; exact zkc) zz hSc240 hgr240 hZ hown
    replace zz := own_sub Xr240 l240 y240 z240
    obtain ⟨rfl, zkh, z8j⟩ := z8h
    have zki := Fr.app zk5 zkh
    have z8k := z4i.keep z8j all0
    have z110 := zke.trans z8j all0
    obtain ⟨cq241, kq241, zkj, z111, zkk⟩ := isOf hZ rfl (EN.2.1.2.1.ext z8k.2)
    obtain ⟨_, _, ⟨z4k, L241, z112, n241⟩, -, z8, ⟨Lc241, z8l, l241, y241, z241⟩, z8m⟩ := zz.virtualBack hx (y := own_m2) (z := own_m2) hown (mvT hZ (own_W hw 88 rfl)) (mvT hZ (own_W hw 89 rfl)) (notFace_of_selects (args := #[]) (mvT hZ (own_W hw 91 rfl))) (mvT hZ (own_W hw 91 rfl)) (mvT hZ (own_W hw 90 rfl)) (by decide) (backOf (W := 0) (rm30 l Z a0 hw [] z4j.heap n0 p1 A K cs (A 4) (4 : Int32) EN EN.2.1.2.1 EN.2.2.2.2.2.2.2.2.2.1.2.2.2.2.2.2.2.1 (Fld.ne EN.2.2.2.2.2.2.2.2.2.1.2.2.2.2.2.2.2.1 EN.2.2.2.2.2.2.2.1.2.2.2.2.1 (fun h => by injection h with h; exact absurd h (by decide))) z8k) hZ (own_W hw 92 rfl) (own_W hw 6 rfl) (by decide) (by decide)) zkj zkk (g := (mkF m 38 #[.val (.int p1), .val (.int 4), .val (.ref (A 4)), .val (.int 0)] [(.ref (A 4))])) rfl (by rw [hml]; rfl) (Steps.refl _) (argsL := []) (rest := []) (lenOf own_pd6 rfl) rfl (by show 2 * 0 + _ ≤ _; exact Nat.le_of_eq rfl) (hb hby at_38) (fun _ _ => ⟨rfl, rfl, (by decide : 8 + 0 ≤ _), (by decide : 40 + 0 ≤ _)⟩)
    dsimp only [Pt.U, Pt.locs, Pt.cells, Pt.slots] at z8 l241 y241 z241 z8m z8l
    replace z8 := own_sub z8 l241 y241 z241
    obtain ⟨rfl, zkl, zkm⟩ := z8l
    have zkn := Fr.app zki zkl
    obtain ⟨fs, hr, hrun, hended, hEW⟩ := z8.leaveW (s := s) hS240 (by rw [zkm]; exact (Nat.le_refl _)) (v := some (.int 1)) (fun h => by rw [Bd.returns] at h; cases h)
    refine ⟨_, _, zk8 _ ?_, hrun, hended, _, _, rfl, ?_, hEW.1, hEW.2.1, hEW.2.2.1, hEW.2.2.2.mono (by decide) (by decide)⟩
    · show own_Y p e below z30 m 23 #[.val (.int p1), .val (.int 4), .val (.ref (A 4)), .unset] [(.ref (A 4))] _
      refine zkd _ ?_
      show own_Y p e below zk9 m 25 #[.val (.int p1), .val (.int 4), .val (.ref (A 4)), .unset] [(.ref sa222), (.ref (A 4))] _
      refine z8i.trans ?_
      show own_Y p e below z4j m 28 #[.val (.int p1), .val (.int 4), .val (.ref (A 4)), .unset] [(.int 1)] _
      refine XS.ifYes zz.here hx rfl (pc0 := 28) (pc' := 35) rfl (hb hby at_28) rfl ((if0 _ _).trans (feq (by decide : ¬ ((1 : Int32) = (0 : Int32)))).2) (by decide) (by decide) ?_
      show own_Y p e below z4j m 35 #[.val (.int p1), .val (.int 4), .val (.ref (A 4)), .unset] [] _
      refine XS.iconst zz.here hx rfl (hb hby at_35) ?_
      refine XS.istoreN zz.here hx rfl (hb hby at_36) rfl (l' := #[.val (.int p1), .val (.int 4), .val (.ref (A 4)), .val (.int 0)]) rfl ?_
      refine XS.aloadN zz.here hx rfl (hb hby at_37) rfl rfl ?_
      refine z8m.trans ?_
      show own_Y p e below z4k m 41 #[.val (.int p1), .val (.int 4), .val (.ref (A 4)), .val (.int 0)] [(.int 0)] _
      refine XS.iloadN z8.here hx rfl (hb hby at_41) rfl ?_
      refine XS.icmpNo z8.here hx rfl (hb hby at_42) rfl (teq (by decide : (0 : Int32) = (0 : Int32))).2 ?_
      show own_Y p e below z4k m 45 #[.val (.int p1), .val (.int 4), .val (.ref (A 4)), .val (.int 0)] [] _
      refine XS.iconst z8.here hx rfl (hb hby at_45) ?_
      refine XS.goto z8.here hx rfl (pc0 := 46) (pc' := 50) rfl (hb hby at_46) (by decide) (by decide) ?_
      exact retN z8 hx (t := .boolean) Bd.returns (by simp) (hb hby at_50) hr
    · show LQ n0 _ z4k.heap _
      exact ⟨rfl, zkn, trivial⟩
  | 5, _, z0 =>
    obtain ⟨_, _, ⟨z4l, L242, z113, n242⟩, -, z1w, ⟨Lc242, z8n, l242, y242, z242⟩, z8o⟩ := Jvm.LawKit.callS X0 hx (y := own_m5) hown (mvT hZ (own_W hw 1 rfl)) (mvT hZ (own_W hw 2 rfl)) (mvT hZ (own_W hw 3 rfl)) (mvT hZ (own_W hw 4 rfl)) (by decide) (backOf (W := 0) (rmPick l Z a0 hw [] h0 n0 p1 A K cs (5 : Int32) (A 5) EN ⟨5, by decide, rfl⟩ (congrArg A (by decide)) OL0) hZ (own_W hw 4 rfl) (own_W hw 3 rfl) (by decide) (by decide)) (g := (mkF m 9 #[.val (.int p1), .val (.int 5), .unset, .unset] [(.int 5)])) rfl (by rw [hml]; rfl) (argsL := [(.int 5)]) (rest := []) (lenOf own_pd0 rfl) rfl (by show 2 * 0 + _ ≤ _; exact Nat.le_of_eq rfl) (hb hby at_9) (fun _ _ => ⟨rfl, e0, (by decide : 0 + 0 ≤ _), (by decide : 0 + 0 ≤ _)⟩)
    dsimp only [Pt.U, Pt.locs, Pt.cells, Pt.slots] at z1w l242 y242 z242 z8o z8n
    replace z1w := own_sub z1w l242 y242 z242
    obtain ⟨rfl, zko, zkp⟩ := z8n
    have zkq := Fr.app N0 zko
    have zkr : own_P p e below z4l m 14 #[.val (.int p1), .val (.int 5), .val (.ref (A 5)), .unset] [(.ref (A 5))] s₁ #[(.int p1)] maxLocals := fun t k => z2 t (by
      show own_Y p e below s₁ m 7 #[.val (.int p1), .unset, .unset, .unset] [(.int ((p1 &&& (2147483647 : Int32)) % 28))] _
      rw [z0]
      show own_Y p e below s₁ m 7 #[.val (.int p1), .unset, .unset, .unset] [(.int 5)] _
      refine XS.istoreN X0.here hx rfl (hb hby at_7) rfl (l' := #[.val (.int p1), .val (.int 5), .unset, .unset]) rfl ?_
      refine XS.iloadN X0.here hx rfl (hb hby at_8) rfl ?_
      refine z8o _ ?_
      show own_Y p e below z4l m 12 #[.val (.int p1), .val (.int 5), .unset, .unset] [(.ref (A 5))] _
      refine XS.astoreN z1w.here hx rfl (hb hby at_12) rfl rfl (l' := #[.val (.int p1), .val (.int 5), .val (.ref (A 5)), .unset]) rfl ?_
      refine XS.aloadN z1w.here hx rfl (hb hby at_13) rfl rfl ?_
      exact k)
    obtain ⟨sa244, zks, zkt, kk244, sb244, kc244, zku, z4m, z8p, hS244, zkv, hZ, hown, Es244, Cs244, Vs244, As244, la244, lb244, C244, -, -, zkw⟩ := ldcCH (s := s) z1w hx hZ hown (own_W hw 8 rfl) (own_strAtoms a0 Z hw) zkp hS0 z1 (own_EW a0 Z hw) (List.mem_of_getElem? (i := 3) rfl) H0 (vs := [(.int 48), (.int 48)]) (z := (2 : Int32)) ⟨by decide, by decide⟩ (by decide) (by decide) (g := (mkF m 14 #[.val (.int p1), .val (.int 5), .val (.ref (A 5)), .unset] [(.ref (A 5))])) rfl (hb hby at_14) (n := 8) (by decide) (by decide) (by decide) (by decide)
    have z4n := OL0.ext z8p
    have zkx := KK0.ext z8p
    obtain ⟨cq245, kq245, zky, z114, zkz⟩ := isOf hZ z4m (EN.2.1.2.2.2.1.ext z4n.2)
    obtain ⟨_, _, ⟨z31, L245, z115, n245⟩, -, z1x, hSc245, hgr245, ⟨Lc245, z8q, l245, y245, z245, C245⟩, z8r⟩ := zku.virtualBackS hx (y := own_m0) (z := own_m0) hown (mvT hZ (own_W hw 16 rfl)) (mvT hZ (own_W hw 17 rfl)) (notFace_of_selects (args := #[]) (mvT hZ (own_W hw 19 rfl))) (mvT hZ (own_W hw 19 rfl)) (mvT hZ (own_W hw 18 rfl)) (by decide) (backOfSH (EL := consts_1) (W := 0) (rm41 l Z a0 hw [] zkt n0 p1 A K cs (A 5) (5 : Int32) sb244 sa244 kc244 EN EN.2.1.2.2.2.1 EN.2.2.2.2.2.2.2.2.2.2.1.2.2.2.1 (by decide) z4n Es244 Vs244 As244 Cs244) hZ (own_W hw 20 rfl) (own_W hw 6 rfl) (by decide) (by decide) (own_EW a0 Z hw) C244.1) zky zkz (g := (mkF m 16 #[.val (.int p1), .val (.int 5), .val (.ref (A 5)), .unset] [(.ref sa244), (.ref (A 5))])) rfl (by rw [hml]; rfl) (Steps.refl _) (argsL := [(.ref sa244)]) (rest := []) (lenOf own_pd5 rfl) rfl (by show 2 * 0 + _ ≤ _; exact Nat.le_of_eq rfl) (hb hby at_16) (fun _ _ => ⟨rfl, z4m, (by decide : 2 + 2 ≤ _), (by decide : 12 + 8 ≤ _)⟩)
    dsimp only [Pt.U, Pt.locs, Pt.cells, Pt.slots] at z1x hSc245 hgr245 l245 y245 z245 z8r z8q C245
    obtain ⟨Xr245, hS245, hZ, hown⟩ := rebS (s := s) hS244 (by rw [z4m]; exact zkv) z1x hSc245 hgr245 hZ hown
    replace z1x := own_sub Xr245 l245 y245 z245
    obtain ⟨rfl, zl0, z8s⟩ := z8q
    have zl1 := Fr.app zkq zl0
    have zl2 := z4n.keep z8s all0
    have zl3 := zkx.trans z8s all0
    have zl4 : own_P p e below z31 m 23 #[.val (.int p1), .val (.int 5), .val (.ref (A 5)), .unset] [(.ref (A 5))] s₁ #[(.int p1)] maxLocals := fun t k => zkr t (by
      show own_Y p e below z4l m 14 #[.val (.int p1), .val (.int 5), .val (.ref (A 5)), .unset] [(.ref (A 5))] _
      refine zkw _ ?_
      show own_Y p e below zks m 16 #[.val (.int p1), .val (.int 5), .val (.ref (A 5)), .unset] [(.ref sa244), (.ref (A 5))] _
      refine z8r.trans ?_
      show own_Y p e below z31 m 19 #[.val (.int p1), .val (.int 5), .val (.ref (A 5)), .unset] [(.int 1)] _
      refine XS.ifNo z1x.here hx rfl (hb hby at_19) rfl ((if0 _ _).trans (feq (by decide : ¬ ((1 : Int32) = (0 : Int32)))).1) ?_
      show own_Y p e below z31 m 22 #[.val (.int p1), .val (.int 5), .val (.ref (A 5)), .unset] [] _
      refine XS.aloadN z1x.here hx rfl (hb hby at_22) rfl rfl ?_
      exact k)
    obtain ⟨sa247, zl5, zl6, kk247, sb247, kc247, zl7, z4o, z8t, hS247, zl8, hZ, hown, Es247, Cs247, Vs247, As247, la247, lb247, C247, -, -, zl9⟩ := ldcCH (s := s) z1x hx hZ hown (own_W hw 87 rfl) (own_strAtoms a0 Z hw) rfl hS245 (Nat.le_refl _) (own_EW a0 Z hw) (List.mem_of_getElem? (i := 4) rfl) C245.1 (vs := [(.int 45), (.int 48)]) (z := (2 : Int32)) ⟨by decide, by decide⟩ (by decide) (by decide) (g := (mkF m 23 #[.val (.int p1), .val (.int 5), .val (.ref (A 5)), .unset] [(.ref (A 5))])) rfl (hb hby at_23) (n := 8) (by decide) (by decide) (by decide) (by decide)
    have z4p := zl2.ext z8t
    have zla := zl3.ext z8t
    obtain ⟨cq248, kq248, zlb, z116, zlc⟩ := isOf hZ z4o (EN.2.1.2.2.2.1.ext z4p.2)
    obtain ⟨_, _, ⟨z4q, L248, z117, n248⟩, -, z10, hSc248, hgr248, ⟨Lc248, z8u, l248, y248, z248, C248⟩, z8v⟩ := zl7.virtualBackS hx (y := own_m0) (z := own_m0) hown (mvT hZ (own_W hw 16 rfl)) (mvT hZ (own_W hw 17 rfl)) (notFace_of_selects (args := #[]) (mvT hZ (own_W hw 19 rfl))) (mvT hZ (own_W hw 19 rfl)) (mvT hZ (own_W hw 18 rfl)) (by decide) (backOfSH (EL := consts_1) (W := 0) (rm44 l Z a0 hw [] zl6 n0 p1 A K cs (A 5) (5 : Int32) sb247 sa247 kc247 EN EN.2.1.2.2.2.1 EN.2.2.2.2.2.2.2.2.2.2.1.2.2.2.1 (by decide) z4p Es247 Vs247 As247 Cs247) hZ (own_W hw 20 rfl) (own_W hw 6 rfl) (by decide) (by decide) (own_EW a0 Z hw) C247.1) zlb zlc (g := (mkF m 25 #[.val (.int p1), .val (.int 5), .val (.ref (A 5)), .unset] [(.ref sa247), (.ref (A 5))])) rfl (by rw [hml]; rfl) (Steps.refl _) (argsL := [(.ref sa247)]) (rest := []) (lenOf own_pd5 rfl) rfl (by show 2 * 0 + _ ≤ _; exact Nat.le_of_eq rfl) (hb hby at_25) (fun _ _ => ⟨rfl, z4o, (by decide : 6 + 2 ≤ _), (by decide : 32 + 8 ≤ _)⟩)
    dsimp only [Pt.U, Pt.locs, Pt.cells, Pt.slots] at z10 hSc248 hgr248 l248 y248 z248 z8v z8u C248
    obtain ⟨Xr248, hS248, hZ, hown⟩ := rebS (s := s) hS247 (by rw [z4o]; exact zl8) z10 hSc248 hgr248 hZ hown
    replace z10 := own_sub Xr248 l248 y248 z248
    obtain ⟨rfl, zld, z8w⟩ := z8u
    have zle := Fr.app zl1 zld
    have z8x := z4p.keep z8w all0
    have z118 := zla.trans z8w all0
    obtain ⟨cq249, kq249, zlf, z119, zlg⟩ := isOf hZ rfl (EN.2.1.2.2.2.1.ext z8x.2)
    obtain ⟨_, _, ⟨z4r, L249, z11a, n249⟩, -, z9, ⟨Lc249, z8y, l249, y249, z249⟩, z8z⟩ := z10.virtualBack hx (y := own_m2) (z := own_m2) hown (mvT hZ (own_W hw 88 rfl)) (mvT hZ (own_W hw 89 rfl)) (notFace_of_selects (args := #[]) (mvT hZ (own_W hw 91 rfl))) (mvT hZ (own_W hw 91 rfl)) (mvT hZ (own_W hw 90 rfl)) (by decide) (backOf (W := 0) (rm30 l Z a0 hw [] z4q.heap n0 p1 A K cs (A 5) (5 : Int32) EN EN.2.1.2.2.2.1 EN.2.2.2.2.2.2.2.2.2.2.1.2.2.2.1 (Fld.ne EN.2.2.2.2.2.2.2.2.2.2.1.2.2.2.1 EN.2.2.2.2.2.2.2.1.2.2.2.2.1 (fun h => by injection h with h; exact absurd h (by decide))) z8x) hZ (own_W hw 92 rfl) (own_W hw 6 rfl) (by decide) (by decide)) zlf zlg (g := (mkF m 38 #[.val (.int p1), .val (.int 5), .val (.ref (A 5)), .val (.int 0)] [(.ref (A 5))])) rfl (by rw [hml]; rfl) (Steps.refl _) (argsL := []) (rest := []) (lenOf own_pd6 rfl) rfl (by show 2 * 0 + _ ≤ _; exact Nat.le_of_eq rfl) (hb hby at_38) (fun _ _ => ⟨rfl, rfl, (by decide : 8 + 0 ≤ _), (by decide : 40 + 0 ≤ _)⟩)
    dsimp only [Pt.U, Pt.locs, Pt.cells, Pt.slots] at z9 l249 y249 z249 z8z z8y
    replace z9 := own_sub z9 l249 y249 z249
    obtain ⟨rfl, zlh, zli⟩ := z8y
    have zlj := Fr.app zle zlh
    obtain ⟨fs, hr, hrun, hended, hEW⟩ := z9.leaveW (s := s) hS248 (by rw [zli]; exact (Nat.le_refl _)) (v := some (.int 1)) (fun h => by rw [Bd.returns] at h; cases h)
    refine ⟨_, _, zl4 _ ?_, hrun, hended, _, _, rfl, ?_, hEW.1, hEW.2.1, hEW.2.2.1, hEW.2.2.2.mono (by decide) (by decide)⟩
    · show own_Y p e below z31 m 23 #[.val (.int p1), .val (.int 5), .val (.ref (A 5)), .unset] [(.ref (A 5))] _
      refine zl9 _ ?_
      show own_Y p e below zl5 m 25 #[.val (.int p1), .val (.int 5), .val (.ref (A 5)), .unset] [(.ref sa247), (.ref (A 5))] _
      refine z8v.trans ?_
      show own_Y p e below z4q m 28 #[.val (.int p1), .val (.int 5), .val (.ref (A 5)), .unset] [(.int 1)] _
      refine XS.ifYes z10.here hx rfl (pc0 := 28) (pc' := 35) rfl (hb hby at_28) rfl ((if0 _ _).trans (feq (by decide : ¬ ((1 : Int32) = (0 : Int32)))).2) (by decide) (by decide) ?_
      show own_Y p e below z4q m 35 #[.val (.int p1), .val (.int 5), .val (.ref (A 5)), .unset] [] _
      refine XS.iconst z10.here hx rfl (hb hby at_35) ?_
      refine XS.istoreN z10.here hx rfl (hb hby at_36) rfl (l' := #[.val (.int p1), .val (.int 5), .val (.ref (A 5)), .val (.int 0)]) rfl ?_
      refine XS.aloadN z10.here hx rfl (hb hby at_37) rfl rfl ?_
      refine z8z.trans ?_
      show own_Y p e below z4r m 41 #[.val (.int p1), .val (.int 5), .val (.ref (A 5)), .val (.int 0)] [(.int 0)] _
      refine XS.iloadN z9.here hx rfl (hb hby at_41) rfl ?_
      refine XS.icmpNo z9.here hx rfl (hb hby at_42) rfl (teq (by decide : (0 : Int32) = (0 : Int32))).2 ?_
      show own_Y p e below z4r m 45 #[.val (.int p1), .val (.int 5), .val (.ref (A 5)), .val (.int 0)] [] _
      refine XS.iconst z9.here hx rfl (hb hby at_45) ?_
      refine XS.goto z9.here hx rfl (pc0 := 46) (pc' := 50) rfl (hb hby at_46) (by decide) (by decide) ?_
      exact retN z9 hx (t := .boolean) Bd.returns (by simp) (hb hby at_50) hr
    · show LQ n0 _ z4r.heap _
      exact ⟨rfl, zlj, trivial⟩
  | 6, _, z0 =>
    obtain ⟨_, _, ⟨z4s, L250, z11b, n250⟩, -, z1y, ⟨Lc250, z90, l250, y250, z250⟩, z91⟩ := Jvm.LawKit.callS X0 hx (y := own_m5) hown (mvT hZ (own_W hw 1 rfl)) (mvT hZ (own_W hw 2 rfl)) (mvT hZ (own_W hw 3 rfl)) (mvT hZ (own_W hw 4 rfl)) (by decide) (backOf (W := 0) (rmPick l Z a0 hw [] h0 n0 p1 A K cs (6 : Int32) (A 6) EN ⟨6, by decide, rfl⟩ (congrArg A (by decide)) OL0) hZ (own_W hw 4 rfl) (own_W hw 3 rfl) (by decide) (by decide)) (g := (mkF m 9 #[.val (.int p1), .val (.int 6), .unset, .unset] [(.int 6)])) rfl (by rw [hml]; rfl) (argsL := [(.int 6)]) (rest := []) (lenOf own_pd0 rfl) rfl (by show 2 * 0 + _ ≤ _; exact Nat.le_of_eq rfl) (hb hby at_9) (fun _ _ => ⟨rfl, e0, (by decide : 0 + 0 ≤ _), (by decide : 0 + 0 ≤ _)⟩)
    dsimp only [Pt.U, Pt.locs, Pt.cells, Pt.slots] at z1y l250 y250 z250 z91 z90
    replace z1y := own_sub z1y l250 y250 z250
    obtain ⟨rfl, zlk, zll⟩ := z90
    have zlm := Fr.app N0 zlk
    have zln : own_P p e below z4s m 14 #[.val (.int p1), .val (.int 6), .val (.ref (A 6)), .unset] [(.ref (A 6))] s₁ #[(.int p1)] maxLocals := fun t k => z2 t (by
      show own_Y p e below s₁ m 7 #[.val (.int p1), .unset, .unset, .unset] [(.int ((p1 &&& (2147483647 : Int32)) % 28))] _
      rw [z0]
      show own_Y p e below s₁ m 7 #[.val (.int p1), .unset, .unset, .unset] [(.int 6)] _
      refine XS.istoreN X0.here hx rfl (hb hby at_7) rfl (l' := #[.val (.int p1), .val (.int 6), .unset, .unset]) rfl ?_
      refine XS.iloadN X0.here hx rfl (hb hby at_8) rfl ?_
      refine z91 _ ?_
      show own_Y p e below z4s m 12 #[.val (.int p1), .val (.int 6), .unset, .unset] [(.ref (A 6))] _
      refine XS.astoreN z1y.here hx rfl (hb hby at_12) rfl rfl (l' := #[.val (.int p1), .val (.int 6), .val (.ref (A 6)), .unset]) rfl ?_
      refine XS.aloadN z1y.here hx rfl (hb hby at_13) rfl rfl ?_
      exact k)
    obtain ⟨sa252, zlo, zlp, kk252, sb252, kc252, zlq, z4t, z92, hS252, zlr, hZ, hown, Es252, Cs252, Vs252, As252, la252, lb252, C252, -, -, zls⟩ := ldcCH (s := s) z1y hx hZ hown (own_W hw 8 rfl) (own_strAtoms a0 Z hw) zll hS0 z1 (own_EW a0 Z hw) (List.mem_of_getElem? (i := 3) rfl) H0 (vs := [(.int 48), (.int 48)]) (z := (2 : Int32)) ⟨by decide, by decide⟩ (by decide) (by decide) (g := (mkF m 14 #[.val (.int p1), .val (.int 6), .val (.ref (A 6)), .unset] [(.ref (A 6))])) rfl (hb hby at_14) (n := 8) (by decide) (by decide) (by decide) (by decide)
    have z4u := OL0.ext z92
    have zlt := KK0.ext z92
    obtain ⟨cq253, kq253, zlu, z11c, zlv⟩ := isOf hZ z4t (EN.2.1.2.2.2.2.2.1.ext z4u.2)
    obtain ⟨_, _, ⟨z32, L253, z11d, n253⟩, -, z1z, hSc253, hgr253, ⟨Lc253, z93, l253, y253, z253, C253⟩, z94⟩ := zlq.virtualBackS hx (y := own_m0) (z := own_m0) hown (mvT hZ (own_W hw 16 rfl)) (mvT hZ (own_W hw 17 rfl)) (notFace_of_selects (args := #[]) (mvT hZ (own_W hw 19 rfl))) (mvT hZ (own_W hw 19 rfl)) (mvT hZ (own_W hw 18 rfl)) (by decide) (backOfSH (EL := consts_1) (W := 0) (rm41 l Z a0 hw [] zlp n0 p1 A K cs (A 6) (6 : Int32) sb252 sa252 kc252 EN EN.2.1.2.2.2.2.2.1 EN.2.2.2.2.2.2.2.2.2.1.2.2.2.1 (by decide) z4u Es252 Vs252 As252 Cs252) hZ (own_W hw 20 rfl) (own_W hw 6 rfl) (by decide) (by decide) (own_EW a0 Z hw) C252.1) zlu zlv (g := (mkF m 16 #[.val (.int p1), .val (.int 6), .val (.ref (A 6)), .unset] [(.ref sa252), (.ref (A 6))])) rfl (by rw [hml]; rfl) (Steps.refl _) (argsL := [(.ref sa252)]) (rest := []) (lenOf own_pd5 rfl) rfl (by show 2 * 0 + _ ≤ _; exact Nat.le_of_eq rfl) (hb hby at_16) (fun _ _ => ⟨rfl, z4t, (by decide : 2 + 2 ≤ _), (by decide : 12 + 8 ≤ _)⟩)
    dsimp only [Pt.U, Pt.locs, Pt.cells, Pt.slots] at z1z hSc253 hgr253 l253 y253 z253 z94 z93 C253
    obtain ⟨Xr253, hS253, hZ, hown⟩ := rebS (s := s) hS252 (by rw [z4t]; exact zlr) z1z hSc253 hgr253 hZ hown
    replace z1z := own_sub Xr253 l253 y253 z253
    obtain ⟨rfl, zlw, z95⟩ := z93
    have zlx := Fr.app zlm zlw
    have zly := z4u.keep z95 all0
    have zlz := zlt.trans z95 all0
    have zm0 : own_P p e below z32 m 23 #[.val (.int p1), .val (.int 6), .val (.ref (A 6)), .unset] [(.ref (A 6))] s₁ #[(.int p1)] maxLocals := fun t k => zln t (by
      show own_Y p e below z4s m 14 #[.val (.int p1), .val (.int 6), .val (.ref (A 6)), .unset] [(.ref (A 6))] _
      refine zls _ ?_
      show own_Y p e below zlo m 16 #[.val (.int p1), .val (.int 6), .val (.ref (A 6)), .unset] [(.ref sa252), (.ref (A 6))] _
      refine z94.trans ?_
      show own_Y p e below z32 m 19 #[.val (.int p1), .val (.int 6), .val (.ref (A 6)), .unset] [(.int 1)] _
      refine XS.ifNo z1z.here hx rfl (hb hby at_19) rfl ((if0 _ _).trans (feq (by decide : ¬ ((1 : Int32) = (0 : Int32)))).1) ?_
      show own_Y p e below z32 m 22 #[.val (.int p1), .val (.int 6), .val (.ref (A 6)), .unset] [] _
      refine XS.aloadN z1z.here hx rfl (hb hby at_22) rfl rfl ?_
      exact k)
    obtain ⟨sa255, zm1, zm2, kk255, sb255, kc255, zm3, z4v, z96, hS255, zm4, hZ, hown, Es255, Cs255, Vs255, As255, la255, lb255, C255, -, -, zm5⟩ := ldcCH (s := s) z1z hx hZ hown (own_W hw 87 rfl) (own_strAtoms a0 Z hw) rfl hS253 (Nat.le_refl _) (own_EW a0 Z hw) (List.mem_of_getElem? (i := 4) rfl) C253.1 (vs := [(.int 45), (.int 48)]) (z := (2 : Int32)) ⟨by decide, by decide⟩ (by decide) (by decide) (g := (mkF m 23 #[.val (.int p1), .val (.int 6), .val (.ref (A 6)), .unset] [(.ref (A 6))])) rfl (hb hby at_23) (n := 8) (by decide) (by decide) (by decide) (by decide)
    have z4w := zly.ext z96
    have zm6 := zlz.ext z96
    obtain ⟨cq256, kq256, zm7, z11e, zm8⟩ := isOf hZ z4v (EN.2.1.2.2.2.2.2.1.ext z4w.2)
    obtain ⟨_, _, ⟨z4x, L256, z11f, n256⟩, -, z11, hSc256, hgr256, ⟨Lc256, z97, l256, y256, z256, C256⟩, z98⟩ := zm3.virtualBackS hx (y := own_m0) (z := own_m0) hown (mvT hZ (own_W hw 16 rfl)) (mvT hZ (own_W hw 17 rfl)) (notFace_of_selects (args := #[]) (mvT hZ (own_W hw 19 rfl))) (mvT hZ (own_W hw 19 rfl)) (mvT hZ (own_W hw 18 rfl)) (by decide) (backOfSH (EL := consts_1) (W := 0) (rm44 l Z a0 hw [] zm2 n0 p1 A K cs (A 6) (6 : Int32) sb255 sa255 kc255 EN EN.2.1.2.2.2.2.2.1 EN.2.2.2.2.2.2.2.2.2.1.2.2.2.1 (by decide) z4w Es255 Vs255 As255 Cs255) hZ (own_W hw 20 rfl) (own_W hw 6 rfl) (by decide) (by decide) (own_EW a0 Z hw) C255.1) zm7 zm8 (g := (mkF m 25 #[.val (.int p1), .val (.int 6), .val (.ref (A 6)), .unset] [(.ref sa255), (.ref (A 6))])) rfl (by rw [hml]; rfl) (Steps.refl _) (argsL := [(.ref sa255)]) (rest := []) (lenOf own_pd5 rfl) rfl (by show 2 * 0 + _ ≤ _; exact Nat.le_of_eq rfl) (hb hby at_25) (fun _ _ => ⟨rfl, z4v, (by decide : 6 + 2 ≤ _), (by decide : 32 + 8 ≤ _)⟩)
    dsimp only [Pt.U, Pt.locs, Pt.cells, Pt.slots] at z11 hSc256 hgr256 l256 y256 z256 z98 z97 C256
    obtain ⟨Xr256, hS256, hZ, hown⟩ := rebS (s := s) hS255 (by rw [z4v]; exact zm4) z11 hSc256 hgr256 hZ hown
    replace z11 := own_sub Xr256 l256 y256 z256
    obtain ⟨rfl, zm9, z99⟩ := z97
    have zma := Fr.app zlx zm9
    have z9a := z4w.keep z99 all0
    have z11g := zm6.trans z99 all0
    obtain ⟨cq257, kq257, zmb, z11h, zmc⟩ := isOf hZ rfl (EN.2.1.2.2.2.2.2.1.ext z9a.2)
    obtain ⟨_, _, ⟨z4y, L257, z11i, n257⟩, -, za, ⟨Lc257, z9b, l257, y257, z257⟩, z9c⟩ := z11.virtualBack hx (y := own_m2) (z := own_m2) hown (mvT hZ (own_W hw 88 rfl)) (mvT hZ (own_W hw 89 rfl)) (notFace_of_selects (args := #[]) (mvT hZ (own_W hw 91 rfl))) (mvT hZ (own_W hw 91 rfl)) (mvT hZ (own_W hw 90 rfl)) (by decide) (backOf (W := 0) (rm30 l Z a0 hw [] z4x.heap n0 p1 A K cs (A 6) (6 : Int32) EN EN.2.1.2.2.2.2.2.1 EN.2.2.2.2.2.2.2.2.2.1.2.2.2.1 (Fld.ne EN.2.2.2.2.2.2.2.2.2.1.2.2.2.1 EN.2.2.2.2.2.2.2.1.2.2.2.2.1 (fun h => by injection h with h; exact absurd h (by decide))) z9a) hZ (own_W hw 92 rfl) (own_W hw 6 rfl) (by decide) (by decide)) zmb zmc (g := (mkF m 38 #[.val (.int p1), .val (.int 6), .val (.ref (A 6)), .val (.int 0)] [(.ref (A 6))])) rfl (by rw [hml]; rfl) (Steps.refl _) (argsL := []) (rest := []) (lenOf own_pd6 rfl) rfl (by show 2 * 0 + _ ≤ _; exact Nat.le_of_eq rfl) (hb hby at_38) (fun _ _ => ⟨rfl, rfl, (by decide : 8 + 0 ≤ _), (by decide : 40 + 0 ≤ _)⟩)
    dsimp only [Pt.U, Pt.locs, Pt.cells, Pt.slots] at za l257 y257 z257 z9c z9b
    replace za := own_sub za l257 y257 z257
    obtain ⟨rfl, zmd, zme⟩ := z9b
    have zmf := Fr.app zma zmd
    obtain ⟨fs, hr, hrun, hended, hEW⟩ := za.leaveW (s := s) hS256 (by rw [zme]; exact (Nat.le_refl _)) (v := some (.int 1)) (fun h => by rw [Bd.returns] at h; cases h)
    refine ⟨_, _, zm0 _ ?_, hrun, hended, _, _, rfl, ?_, hEW.1, hEW.2.1, hEW.2.2.1, hEW.2.2.2.mono (by decide) (by decide)⟩
    · show own_Y p e below z32 m 23 #[.val (.int p1), .val (.int 6), .val (.ref (A 6)), .unset] [(.ref (A 6))] _
      refine zm5 _ ?_
      show own_Y p e below zm1 m 25 #[.val (.int p1), .val (.int 6), .val (.ref (A 6)), .unset] [(.ref sa255), (.ref (A 6))] _
      refine z98.trans ?_
      show own_Y p e below z4x m 28 #[.val (.int p1), .val (.int 6), .val (.ref (A 6)), .unset] [(.int 1)] _
      refine XS.ifYes z11.here hx rfl (pc0 := 28) (pc' := 35) rfl (hb hby at_28) rfl ((if0 _ _).trans (feq (by decide : ¬ ((1 : Int32) = (0 : Int32)))).2) (by decide) (by decide) ?_
      show own_Y p e below z4x m 35 #[.val (.int p1), .val (.int 6), .val (.ref (A 6)), .unset] [] _
      refine XS.iconst z11.here hx rfl (hb hby at_35) ?_
      refine XS.istoreN z11.here hx rfl (hb hby at_36) rfl (l' := #[.val (.int p1), .val (.int 6), .val (.ref (A 6)), .val (.int 0)]) rfl ?_
      refine XS.aloadN z11.here hx rfl (hb hby at_37) rfl rfl ?_
      refine z9c.trans ?_
      show own_Y p e below z4y m 41 #[.val (.int p1), .val (.int 6), .val (.ref (A 6)), .val (.int 0)] [(.int 0)] _
      refine XS.iloadN za.here hx rfl (hb hby at_41) rfl ?_
      refine XS.icmpNo za.here hx rfl (hb hby at_42) rfl (teq (by decide : (0 : Int32) = (0 : Int32))).2 ?_
      show own_Y p e below z4y m 45 #[.val (.int p1), .val (.int 6), .val (.ref (A 6)), .val (.int 0)] [] _
      refine XS.iconst za.here hx rfl (hb hby at_45) ?_
      refine XS.goto za.here hx rfl (pc0 := 46) (pc' := 50) rfl (hb hby at_46) (by decide) (by decide) ?_
      exact retN za hx (t := .boolean) Bd.returns (by simp) (hb hby at_50) hr
    · show LQ n0 _ z4y.heap _
      exact ⟨rfl, zmf, trivial⟩
  | 7, _, z0 =>
    obtain ⟨_, _, ⟨z4z, L258, z11j, n258⟩, -, z20, ⟨Lc258, z9d, l258, y258, z258⟩, z9e⟩ := Jvm.LawKit.callS X0 hx (y := own_m5) hown (mvT hZ (own_W hw 1 rfl)) (mvT hZ (own_W hw 2 rfl)) (mvT hZ (own_W hw 3 rfl)) (mvT hZ (own_W hw 4 rfl)) (by decide) (backOf (W := 0) (rmPick l Z a0 hw [] h0 n0 p1 A K cs (7 : Int32) (A 7) EN ⟨7, by decide, rfl⟩ (congrArg A (by decide)) OL0) hZ (own_W hw 4 rfl) (own_W hw 3 rfl) (by decide) (by decide)) (g := (mkF m 9 #[.val (.int p1), .val (.int 7), .unset, .unset] [(.int 7)])) rfl (by rw [hml]; rfl) (argsL := [(.int 7)]) (rest := []) (lenOf own_pd0 rfl) rfl (by show 2 * 0 + _ ≤ _; exact Nat.le_of_eq rfl) (hb hby at_9) (fun _ _ => ⟨rfl, e0, (by decide : 0 + 0 ≤ _), (by decide : 0 + 0 ≤ _)⟩)
    dsimp only [Pt.U, Pt.locs, Pt.cells, Pt.slots] at z20 l258 y258 z258 z9e z9d
    replace z20 := own_sub z20 l258 y258 z258
    obtain ⟨rfl, zmg, zmh⟩ := z9d
    have zmi := Fr.app N0 zmg
    have zmj : own_P p e below z4z m 14 #[.val (.int p1), .val (.int 7), .val (.ref (A 7)), .unset] [(.ref (A 7))] s₁ #[(.int p1)] maxLocals := fun t k => z2 t (by
      show own_Y p e below s₁ m 7 #[.val (.int p1), .unset, .unset, .unset] [(.int ((p1 &&& (2147483647 : Int32)) % 28))] _
      rw [z0]
      show own_Y p e below s₁ m 7 #[.val (.int p1), .unset, .unset, .unset] [(.int 7)] _
      refine XS.istoreN X0.here hx rfl (hb hby at_7) rfl (l' := #[.val (.int p1), .val (.int 7), .unset, .unset]) rfl ?_
      refine XS.iloadN X0.here hx rfl (hb hby at_8) rfl ?_
      refine z9e _ ?_
      show own_Y p e below z4z m 12 #[.val (.int p1), .val (.int 7), .unset, .unset] [(.ref (A 7))] _
      refine XS.astoreN z20.here hx rfl (hb hby at_12) rfl rfl (l' := #[.val (.int p1), .val (.int 7), .val (.ref (A 7)), .unset]) rfl ?_
      refine XS.aloadN z20.here hx rfl (hb hby at_13) rfl rfl ?_
      exact k)
    obtain ⟨sa260, zmk, zml, kk260, sb260, kc260, zmm, z50, z9f, hS260, zmn, hZ, hown, Es260, Cs260, Vs260, As260, la260, lb260, C260, -, -, zmo⟩ := ldcCH (s := s) z20 hx hZ hown (own_W hw 8 rfl) (own_strAtoms a0 Z hw) zmh hS0 z1 (own_EW a0 Z hw) (List.mem_of_getElem? (i := 3) rfl) H0 (vs := [(.int 48), (.int 48)]) (z := (2 : Int32)) ⟨by decide, by decide⟩ (by decide) (by decide) (g := (mkF m 14 #[.val (.int p1), .val (.int 7), .val (.ref (A 7)), .unset] [(.ref (A 7))])) rfl (hb hby at_14) (n := 8) (by decide) (by decide) (by decide) (by decide)
    have z51 := OL0.ext z9f
    have zmp := KK0.ext z9f
    obtain ⟨cq261, kq261, zmq, z11k, zmr⟩ := isOf hZ z50 (EN.2.1.2.2.2.2.2.2.2.1.ext z51.2)
    obtain ⟨_, _, ⟨z34, L261, z11l, n261⟩, -, z21, hSc261, hgr261, ⟨Lc261, z9g, l261, y261, z261, C261⟩, z9h⟩ := zmm.virtualBackS hx (y := own_m0) (z := own_m0) hown (mvT hZ (own_W hw 16 rfl)) (mvT hZ (own_W hw 17 rfl)) (notFace_of_selects (args := #[]) (mvT hZ (own_W hw 19 rfl))) (mvT hZ (own_W hw 19 rfl)) (mvT hZ (own_W hw 18 rfl)) (by decide) (backOfSH (EL := consts_1) (W := 0) (rm41 l Z a0 hw [] zml n0 p1 A K cs (A 7) (7 : Int32) sb260 sa260 kc260 EN EN.2.1.2.2.2.2.2.2.2.1 EN.2.2.2.2.2.2.2.2.1.2.1 (by decide) z51 Es260 Vs260 As260 Cs260) hZ (own_W hw 20 rfl) (own_W hw 6 rfl) (by decide) (by decide) (own_EW a0 Z hw) C260.1) zmq zmr (g := (mkF m 16 #[.val (.int p1), .val (.int 7), .val (.ref (A 7)), .unset] [(.ref sa260), (.ref (A 7))])) rfl (by rw [hml]; rfl) (Steps.refl _) (argsL := [(.ref sa260)]) (rest := []) (lenOf own_pd5 rfl) rfl (by show 2 * 0 + _ ≤ _; exact Nat.le_of_eq rfl) (hb hby at_16) (fun _ _ => ⟨rfl, z50, (by decide : 2 + 2 ≤ _), (by decide : 12 + 8 ≤ _)⟩)
    dsimp only [Pt.U, Pt.locs, Pt.cells, Pt.slots] at z21 hSc261 hgr261 l261 y261 z261 z9h z9g C261
    obtain ⟨Xr261, hS261, hZ, hown⟩ := rebS (s := s) hS260 (by rw [z50]; exact zmn) z21 hSc261 hgr261 hZ hown
    replace z21 := own_sub Xr261 l261 y261 z261
    obtain ⟨rfl, zms, z9i⟩ := z9g
    have zmt := Fr.app zmi zms
    have zmu := z51.keep z9i all0
    have zmv := zmp.trans z9i all0
    have zmw : own_P p e below z34 m 23 #[.val (.int p1), .val (.int 7), .val (.ref (A 7)), .unset] [(.ref (A 7))] s₁ #[(.int p1)] maxLocals := fun t k => zmj t (by
      show own_Y p e below z4z m 14 #[.val (.int p1), .val (.int 7), .val (.ref (A 7)), .unset] [(.ref (A 7))] _
      refine zmo _ ?_
      show own_Y p e below zmk m 16 #[.val (.int p1), .val (.int 7), .val (.ref (A 7)), .unset] [(.ref sa260), (.ref (A 7))] _
      refine z9h.trans ?_
      show own_Y p e below z34 m 19 #[.val (.int p1), .val (.int 7), .val (.ref (A 7)), .unset] [(.int 1)] _
      refine XS.ifNo z21.here hx rfl (hb hby at_19) rfl ((if0 _ _).trans (feq (by decide : ¬ ((1 : Int32) = (0 : Int32)))).1) ?_
      show own_Y p e below z34 m 22 #[.val (.int p1), .val (.int 7), .val (.ref (A 7)), .unset] [] _
      refine XS.aloadN z21.here hx rfl (hb hby at_22) rfl rfl ?_
      exact k)
    obtain ⟨sa263, zmx, zmy, kk263, sb263, kc263, zmz, z52, z9j, hS263, zn0, hZ, hown, Es263, Cs263, Vs263, As263, la263, lb263, C263, -, -, zn1⟩ := ldcCH (s := s) z21 hx hZ hown (own_W hw 87 rfl) (own_strAtoms a0 Z hw) rfl hS261 (Nat.le_refl _) (own_EW a0 Z hw) (List.mem_of_getElem? (i := 4) rfl) C261.1 (vs := [(.int 45), (.int 48)]) (z := (2 : Int32)) ⟨by decide, by decide⟩ (by decide) (by decide) (g := (mkF m 23 #[.val (.int p1), .val (.int 7), .val (.ref (A 7)), .unset] [(.ref (A 7))])) rfl (hb hby at_23) (n := 8) (by decide) (by decide) (by decide) (by decide)
    have z53 := zmu.ext z9j
    have zn2 := zmv.ext z9j
    obtain ⟨cq264, kq264, zn3, z11m, zn4⟩ := isOf hZ z52 (EN.2.1.2.2.2.2.2.2.2.1.ext z53.2)
    obtain ⟨_, _, ⟨z54, L264, z11n, n264⟩, -, z12, hSc264, hgr264, ⟨Lc264, z9k, l264, y264, z264, C264⟩, z9l⟩ := zmz.virtualBackS hx (y := own_m0) (z := own_m0) hown (mvT hZ (own_W hw 16 rfl)) (mvT hZ (own_W hw 17 rfl)) (notFace_of_selects (args := #[]) (mvT hZ (own_W hw 19 rfl))) (mvT hZ (own_W hw 19 rfl)) (mvT hZ (own_W hw 18 rfl)) (by decide) (backOfSH (EL := consts_1) (W := 0) (rm44 l Z a0 hw [] zmy n0 p1 A K cs (A 7) (7 : Int32) sb263 sa263 kc263 EN EN.2.1.2.2.2.2.2.2.2.1 EN.2.2.2.2.2.2.2.2.1.2.1 (by decide) z53 Es263 Vs263 As263 Cs263) hZ (own_W hw 20 rfl) (own_W hw 6 rfl) (by decide) (by decide) (own_EW a0 Z hw) C263.1) zn3 zn4 (g := (mkF m 25 #[.val (.int p1), .val (.int 7), .val (.ref (A 7)), .unset] [(.ref sa263), (.ref (A 7))])) rfl (by rw [hml]; rfl) (Steps.refl _) (argsL := [(.ref sa263)]) (rest := []) (lenOf own_pd5 rfl) rfl (by show 2 * 0 + _ ≤ _; exact Nat.le_of_eq rfl) (hb hby at_25) (fun _ _ => ⟨rfl, z52, (by decide : 6 + 2 ≤ _), (by decide : 32 + 8 ≤ _)⟩)
    dsimp only [Pt.U, Pt.locs, Pt.cells, Pt.slots] at z12 hSc264 hgr264 l264 y264 z264 z9l z9k C264
    obtain ⟨Xr264, hS264, hZ, hown⟩ := rebS (s := s) hS263 (by rw [z52]; exact zn0) z12 hSc264 hgr264 hZ hown
    replace z12 := own_sub Xr264 l264 y264 z264
    obtain ⟨rfl, zn5, z9m⟩ := z9k
    have zn6 := Fr.app zmt zn5
    have z9n := z53.keep z9m all0
    have z11o := zn2.trans z9m all0
    obtain ⟨cq265, kq265, zn7, z11p, zn8⟩ := isOf hZ rfl (EN.2.1.2.2.2.2.2.2.2.1.ext z9n.2)
    obtain ⟨_, _, ⟨z55, L265, z11q, n265⟩, -, zb, ⟨Lc265, z9o, l265, y265, z265⟩, z9p⟩ := z12.virtualBack hx (y := own_m2) (z := own_m2) hown (mvT hZ (own_W hw 88 rfl)) (mvT hZ (own_W hw 89 rfl)) (notFace_of_selects (args := #[]) (mvT hZ (own_W hw 91 rfl))) (mvT hZ (own_W hw 91 rfl)) (mvT hZ (own_W hw 90 rfl)) (by decide) (backOf (W := 0) (rm30 l Z a0 hw [] z54.heap n0 p1 A K cs (A 7) (7 : Int32) EN EN.2.1.2.2.2.2.2.2.2.1 EN.2.2.2.2.2.2.2.2.1.2.1 (Fld.ne EN.2.2.2.2.2.2.2.2.1.2.1 EN.2.2.2.2.2.2.2.1.2.2.2.2.1 (fun h => by injection h with h; exact absurd h (by decide))) z9n) hZ (own_W hw 92 rfl) (own_W hw 6 rfl) (by decide) (by decide)) zn7 zn8 (g := (mkF m 38 #[.val (.int p1), .val (.int 7), .val (.ref (A 7)), .val (.int 0)] [(.ref (A 7))])) rfl (by rw [hml]; rfl) (Steps.refl _) (argsL := []) (rest := []) (lenOf own_pd6 rfl) rfl (by show 2 * 0 + _ ≤ _; exact Nat.le_of_eq rfl) (hb hby at_38) (fun _ _ => ⟨rfl, rfl, (by decide : 8 + 0 ≤ _), (by decide : 40 + 0 ≤ _)⟩)
    dsimp only [Pt.U, Pt.locs, Pt.cells, Pt.slots] at zb l265 y265 z265 z9p z9o
    replace zb := own_sub zb l265 y265 z265
    obtain ⟨rfl, zn9, zna⟩ := z9o
    have znb := Fr.app zn6 zn9
    obtain ⟨fs, hr, hrun, hended, hEW⟩ := zb.leaveW (s := s) hS264 (by rw [zna]; exact (Nat.le_refl _)) (v := some (.int 1)) (fun h => by rw [Bd.returns] at h; cases h)
    refine ⟨_, _, zmw _ ?_, hrun, hended, _, _, rfl, ?_, hEW.1, hEW.2.1, hEW.2.2.1, hEW.2.2.2.mono (by decide) (by decide)⟩
    · show own_Y p e below z34 m 23 #[.val (.int p1), .val (.int 7), .val (.ref (A 7)), .unset] [(.ref (A 7))] _
      refine zn1 _ ?_
      show own_Y p e below zmx m 25 #[.val (.int p1), .val (.int 7), .val (.ref (A 7)), .unset] [(.ref sa263), (.ref (A 7))] _
      refine z9l.trans ?_
      show own_Y p e below z54 m 28 #[.val (.int p1), .val (.int 7), .val (.ref (A 7)), .unset] [(.int 1)] _
      refine XS.ifYes z12.here hx rfl (pc0 := 28) (pc' := 35) rfl (hb hby at_28) rfl ((if0 _ _).trans (feq (by decide : ¬ ((1 : Int32) = (0 : Int32)))).2) (by decide) (by decide) ?_
      show own_Y p e below z54 m 35 #[.val (.int p1), .val (.int 7), .val (.ref (A 7)), .unset] [] _
      refine XS.iconst z12.here hx rfl (hb hby at_35) ?_
      refine XS.istoreN z12.here hx rfl (hb hby at_36) rfl (l' := #[.val (.int p1), .val (.int 7), .val (.ref (A 7)), .val (.int 0)]) rfl ?_
      refine XS.aloadN z12.here hx rfl (hb hby at_37) rfl rfl ?_
      refine z9p.trans ?_
      show own_Y p e below z55 m 41 #[.val (.int p1), .val (.int 7), .val (.ref (A 7)), .val (.int 0)] [(.int 0)] _
      refine XS.iloadN zb.here hx rfl (hb hby at_41) rfl ?_
      refine XS.icmpNo zb.here hx rfl (hb hby at_42) rfl (teq (by decide : (0 : Int32) = (0 : Int32))).2 ?_
      show own_Y p e below z55 m 45 #[.val (.int p1), .val (.int 7), .val (.ref (A 7)), .val (.int 0)] [] _
      refine XS.iconst zb.here hx rfl (hb hby at_45) ?_
      refine XS.goto zb.here hx rfl (pc0 := 46) (pc' := 50) rfl (hb hby at_46) (by decide) (by decide) ?_
      exact retN zb hx (t := .boolean) Bd.returns (by simp) (hb hby at_50) hr
    · show LQ n0 _ z55.heap _
      exact ⟨rfl, znb, trivial⟩
  | 8, _, z0 =>
    obtain ⟨_, _, ⟨z56, L266, z11r, n266⟩, -, z22, ⟨Lc266, z9q, l266, y266, z266⟩, z9r⟩ := Jvm.LawKit.callS X0 hx (y := own_m5) hown (mvT hZ (own_W hw 1 rfl)) (mvT hZ (own_W hw 2 rfl)) (mvT hZ (own_W hw 3 rfl)) (mvT hZ (own_W hw 4 rfl)) (by decide) (backOf (W := 0) (rmPick l Z a0 hw [] h0 n0 p1 A K cs (8 : Int32) (A 8) EN ⟨8, by decide, rfl⟩ (congrArg A (by decide)) OL0) hZ (own_W hw 4 rfl) (own_W hw 3 rfl) (by decide) (by decide)) (g := (mkF m 9 #[.val (.int p1), .val (.int 8), .unset, .unset] [(.int 8)])) rfl (by rw [hml]; rfl) (argsL := [(.int 8)]) (rest := []) (lenOf own_pd0 rfl) rfl (by show 2 * 0 + _ ≤ _; exact Nat.le_of_eq rfl) (hb hby at_9) (fun _ _ => ⟨rfl, e0, (by decide : 0 + 0 ≤ _), (by decide : 0 + 0 ≤ _)⟩)
    dsimp only [Pt.U, Pt.locs, Pt.cells, Pt.slots] at z22 l266 y266 z266 z9r z9q
    replace z22 := own_sub z22 l266 y266 z266
    obtain ⟨rfl, znc, znd⟩ := z9q
    have zne := Fr.app N0 znc
    have znf : own_P p e below z56 m 14 #[.val (.int p1), .val (.int 8), .val (.ref (A 8)), .unset] [(.ref (A 8))] s₁ #[(.int p1)] maxLocals := fun t k => z2 t (by
      show own_Y p e below s₁ m 7 #[.val (.int p1), .unset, .unset, .unset] [(.int ((p1 &&& (2147483647 : Int32)) % 28))] _
      rw [z0]
      show own_Y p e below s₁ m 7 #[.val (.int p1), .unset, .unset, .unset] [(.int 8)] _
      refine XS.istoreN X0.here hx rfl (hb hby at_7) rfl (l' := #[.val (.int p1), .val (.int 8), .unset, .unset]) rfl ?_
      refine XS.iloadN X0.here hx rfl (hb hby at_8) rfl ?_
      refine z9r _ ?_
      show own_Y p e below z56 m 12 #[.val (.int p1), .val (.int 8), .unset, .unset] [(.ref (A 8))] _
      refine XS.astoreN z22.here hx rfl (hb hby at_12) rfl rfl (l' := #[.val (.int p1), .val (.int 8), .val (.ref (A 8)), .unset]) rfl ?_
      refine XS.aloadN z22.here hx rfl (hb hby at_13) rfl rfl ?_
      exact k)
    obtain ⟨sa268, zng, znh, kk268, sb268, kc268, zni, z57, z9s, hS268, znj, hZ, hown, Es268, Cs268, Vs268, As268, la268, lb268, C268, -, -, znk⟩ := ldcCH (s := s) z22 hx hZ hown (own_W hw 8 rfl) (own_strAtoms a0 Z hw) znd hS0 z1 (own_EW a0 Z hw) (List.mem_of_getElem? (i := 3) rfl) H0 (vs := [(.int 48), (.int 48)]) (z := (2 : Int32)) ⟨by decide, by decide⟩ (by decide) (by decide) (g := (mkF m 14 #[.val (.int p1), .val (.int 8), .val (.ref (A 8)), .unset] [(.ref (A 8))])) rfl (hb hby at_14) (n := 8) (by decide) (by decide) (by decide) (by decide)
    have z58 := OL0.ext z9s
    have znl := KK0.ext z9s
    obtain ⟨cq269, kq269, znm, z11s, znn⟩ := isOf hZ z57 (EN.2.2.1.2.1.ext z58.2)
    obtain ⟨_, _, ⟨z35, L269, z11t, n269⟩, -, z23, hSc269, hgr269, ⟨Lc269, z9t, l269, y269, z269, C269⟩, z9u⟩ := zni.virtualBackS hx (y := own_m0) (z := own_m0) hown (mvT hZ (own_W hw 16 rfl)) (mvT hZ (own_W hw 17 rfl)) (notFace_of_selects (args := #[]) (mvT hZ (own_W hw 19 rfl))) (mvT hZ (own_W hw 19 rfl)) (mvT hZ (own_W hw 18 rfl)) (by decide) (backOfSH (EL := consts_1) (W := 0) (rm41 l Z a0 hw [] znh n0 p1 A K cs (A 8) (8 : Int32) sb268 sa268 kc268 EN EN.2.2.1.2.1 EN.2.2.2.2.2.2.2.2.1.2.2.2.2.1 (by decide) z58 Es268 Vs268 As268 Cs268) hZ (own_W hw 20 rfl) (own_W hw 6 rfl) (by decide) (by decide) (own_EW a0 Z hw) C268.1) znm znn (g := (mkF m 16 #[.val (.int p1), .val (.int 8), .val (.ref (A 8)), .unset] [(.ref sa268), (.ref (A 8))])) rfl (by rw [hml]; rfl) (Steps.refl _) (argsL := [(.ref sa268)]) (rest := []) (lenOf own_pd5 rfl) rfl (by show 2 * 0 + _ ≤ _; exact Nat.le_of_eq rfl) (hb hby at_16) (fun _ _ => ⟨rfl, z57, (by decide : 2 + 2 ≤ _), (by decide : 12 + 8 ≤ _)⟩)
    dsimp only [Pt.U, Pt.locs, Pt.cells, Pt.slots] at z23 hSc269 hgr269 l269 y269 z269 z9u z9t C269
    obtain ⟨Xr269, hS269, hZ, hown⟩ := rebS (s := s) hS268 (by rw [z57]; exact znj) z23 hSc269 hgr269 hZ hown
    replace z23 := own_sub Xr269 l269 y269 z269
    obtain ⟨rfl, zno, z9v⟩ := z9t
    have znp := Fr.app zne zno
    have znq := z58.keep z9v all0
    have znr := znl.trans z9v all0
    have zns : own_P p e below z35 m 23 #[.val (.int p1), .val (.int 8), .val (.ref (A 8)), .unset] [(.ref (A 8))] s₁ #[(.int p1)] maxLocals := fun t k => znf t (by
      show own_Y p e below z56 m 14 #[.val (.int p1), .val (.int 8), .val (.ref (A 8)), .unset] [(.ref (A 8))] _
      refine znk _ ?_
      show own_Y p e below zng m 16 #[.val (.int p1), .val (.int 8), .val (.ref (A 8)), .unset] [(.ref sa268), (.ref (A 8))] _
      refine z9u.trans ?_
      show own_Y p e below z35 m 19 #[.val (.int p1), .val (.int 8), .val (.ref (A 8)), .unset] [(.int 1)] _
      refine XS.ifNo z23.here hx rfl (hb hby at_19) rfl ((if0 _ _).trans (feq (by decide : ¬ ((1 : Int32) = (0 : Int32)))).1) ?_
      show own_Y p e below z35 m 22 #[.val (.int p1), .val (.int 8), .val (.ref (A 8)), .unset] [] _
      refine XS.aloadN z23.here hx rfl (hb hby at_22) rfl rfl ?_
      exact k)
    obtain ⟨sa271, znt, znu, kk271, sb271, kc271, znv, z59, z9w, hS271, znw, hZ, hown, Es271, Cs271, Vs271, As271, la271, lb271, C271, -, -, znx⟩ := ldcCH (s := s) z23 hx hZ hown (own_W hw 87 rfl) (own_strAtoms a0 Z hw) rfl hS269 (Nat.le_refl _) (own_EW a0 Z hw) (List.mem_of_getElem? (i := 4) rfl) C269.1 (vs := [(.int 45), (.int 48)]) (z := (2 : Int32)) ⟨by decide, by decide⟩ (by decide) (by decide) (g := (mkF m 23 #[.val (.int p1), .val (.int 8), .val (.ref (A 8)), .unset] [(.ref (A 8))])) rfl (hb hby at_23) (n := 8) (by decide) (by decide) (by decide) (by decide)
    have z5a := znq.ext z9w
    have zny := znr.ext z9w
    obtain ⟨cq272, kq272, znz, z11u, zo0⟩ := isOf hZ z59 (EN.2.2.1.2.1.ext z5a.2)
    obtain ⟨_, _, ⟨z5b, L272, z11v, n272⟩, -, z13, hSc272, hgr272, ⟨Lc272, z9x, l272, y272, z272, C272⟩, z9y⟩ := znv.virtualBackS hx (y := own_m0) (z := own_m0) hown (mvT hZ (own_W hw 16 rfl)) (mvT hZ (own_W hw 17 rfl)) (notFace_of_selects (args := #[]) (mvT hZ (own_W hw 19 rfl))) (mvT hZ (own_W hw 19 rfl)) (mvT hZ (own_W hw 18 rfl)) (by decide) (backOfSH (EL := consts_1) (W := 0) (rm44 l Z a0 hw [] znu n0 p1 A K cs (A 8) (8 : Int32) sb271 sa271 kc271 EN EN.2.2.1.2.1 EN.2.2.2.2.2.2.2.2.1.2.2.2.2.1 (by decide) z5a Es271 Vs271 As271 Cs271) hZ (own_W hw 20 rfl) (own_W hw 6 rfl) (by decide) (by decide) (own_EW a0 Z hw) C271.1) znz zo0 (g := (mkF m 25 #[.val (.int p1), .val (.int 8), .val (.ref (A 8)), .unset] [(.ref sa271), (.ref (A 8))])) rfl (by rw [hml]; rfl) (Steps.refl _) (argsL := [(.ref sa271)]) (rest := []) (lenOf own_pd5 rfl) rfl (by show 2 * 0 + _ ≤ _; exact Nat.le_of_eq rfl) (hb hby at_25) (fun _ _ => ⟨rfl, z59, (by decide : 6 + 2 ≤ _), (by decide : 32 + 8 ≤ _)⟩)
    dsimp only [Pt.U, Pt.locs, Pt.cells, Pt.slots] at z13 hSc272 hgr272 l272 y272 z272 z9y z9x C272
    obtain ⟨Xr272, hS272, hZ, hown⟩ := rebS (s := s) hS271 (by rw [z59]; exact znw) z13 hSc272 hgr272 hZ hown
    replace z13 := own_sub Xr272 l272 y272 z272
    obtain ⟨rfl, zo1, z9z⟩ := z9x
    have zo2 := Fr.app znp zo1
    have za0 := z5a.keep z9z all0
    have z11w := zny.trans z9z all0
    obtain ⟨cq273, kq273, zo3, z11x, zo4⟩ := isOf hZ rfl (EN.2.2.1.2.1.ext za0.2)
    obtain ⟨_, _, ⟨z5c, L273, z11y, n273⟩, -, zc, ⟨Lc273, za1, l273, y273, z273⟩, za2⟩ := z13.virtualBack hx (y := own_m2) (z := own_m2) hown (mvT hZ (own_W hw 88 rfl)) (mvT hZ (own_W hw 89 rfl)) (notFace_of_selects (args := #[]) (mvT hZ (own_W hw 91 rfl))) (mvT hZ (own_W hw 91 rfl)) (mvT hZ (own_W hw 90 rfl)) (by decide) (backOf (W := 0) (rm30 l Z a0 hw [] z5b.heap n0 p1 A K cs (A 8) (8 : Int32) EN EN.2.2.1.2.1 EN.2.2.2.2.2.2.2.2.1.2.2.2.2.1 (Fld.ne EN.2.2.2.2.2.2.2.2.1.2.2.2.2.1 EN.2.2.2.2.2.2.2.1.2.2.2.2.1 (fun h => by injection h with h; exact absurd h (by decide))) za0) hZ (own_W hw 92 rfl) (own_W hw 6 rfl) (by decide) (by decide)) zo3 zo4 (g := (mkF m 38 #[.val (.int p1), .val (.int 8), .val (.ref (A 8)), .val (.int 0)] [(.ref (A 8))])) rfl (by rw [hml]; rfl) (Steps.refl _) (argsL := []) (rest := []) (lenOf own_pd6 rfl) rfl (by show 2 * 0 + _ ≤ _; exact Nat.le_of_eq rfl) (hb hby at_38) (fun _ _ => ⟨rfl, rfl, (by decide : 8 + 0 ≤ _), (by decide : 40 + 0 ≤ _)⟩)
    dsimp only [Pt.U, Pt.locs, Pt.cells, Pt.slots] at zc l273 y273 z273 za2 za1
    replace zc := own_sub zc l273 y273 z273
    obtain ⟨rfl, zo5, zo6⟩ := za1
    have zo7 := Fr.app zo2 zo5
    obtain ⟨fs, hr, hrun, hended, hEW⟩ := zc.leaveW (s := s) hS272 (by rw [zo6]; exact (Nat.le_refl _)) (v := some (.int 1)) (fun h => by rw [Bd.returns] at h; cases h)
    refine ⟨_, _, zns _ ?_, hrun, hended, _, _, rfl, ?_, hEW.1, hEW.2.1, hEW.2.2.1, hEW.2.2.2.mono (by decide) (by decide)⟩
    · show own_Y p e below z35 m 23 #[.val (.int p1), .val (.int 8), .val (.ref (A 8)), .unset] [(.ref (A 8))] _
      refine znx _ ?_
      show own_Y p e below znt m 25 #[.val (.int p1), .val (.int 8), .val (.ref (A 8)), .unset] [(.ref sa271), (.ref (A 8))] _
      refine z9y.trans ?_
      show own_Y p e below z5b m 28 #[.val (.int p1), .val (.int 8), .val (.ref (A 8)), .unset] [(.int 1)] _
      refine XS.ifYes z13.here hx rfl (pc0 := 28) (pc' := 35) rfl (hb hby at_28) rfl ((if0 _ _).trans (feq (by decide : ¬ ((1 : Int32) = (0 : Int32)))).2) (by decide) (by decide) ?_
      show own_Y p e below z5b m 35 #[.val (.int p1), .val (.int 8), .val (.ref (A 8)), .unset] [] _
      refine XS.iconst z13.here hx rfl (hb hby at_35) ?_
      refine XS.istoreN z13.here hx rfl (hb hby at_36) rfl (l' := #[.val (.int p1), .val (.int 8), .val (.ref (A 8)), .val (.int 0)]) rfl ?_
      refine XS.aloadN z13.here hx rfl (hb hby at_37) rfl rfl ?_
      refine za2.trans ?_
      show own_Y p e below z5c m 41 #[.val (.int p1), .val (.int 8), .val (.ref (A 8)), .val (.int 0)] [(.int 0)] _
      refine XS.iloadN zc.here hx rfl (hb hby at_41) rfl ?_
      refine XS.icmpNo zc.here hx rfl (hb hby at_42) rfl (teq (by decide : (0 : Int32) = (0 : Int32))).2 ?_
      show own_Y p e below z5c m 45 #[.val (.int p1), .val (.int 8), .val (.ref (A 8)), .val (.int 0)] [] _
      refine XS.iconst zc.here hx rfl (hb hby at_45) ?_
      refine XS.goto zc.here hx rfl (pc0 := 46) (pc' := 50) rfl (hb hby at_46) (by decide) (by decide) ?_
      exact retN zc hx (t := .boolean) Bd.returns (by simp) (hb hby at_50) hr
    · show LQ n0 _ z5c.heap _
      exact ⟨rfl, zo7, trivial⟩
  | 9, _, z0 =>
    obtain ⟨_, _, ⟨z5d, L274, z11z, n274⟩, -, z24, ⟨Lc274, za3, l274, y274, z274⟩, za4⟩ := Jvm.LawKit.callS X0 hx (y := own_m5) hown (mvT hZ (own_W hw 1 rfl)) (mvT hZ (own_W hw 2 rfl)) (mvT hZ (own_W hw 3 rfl)) (mvT hZ (own_W hw 4 rfl)) (by decide) (backOf (W := 0) (rmPick l Z a0 hw [] h0 n0 p1 A K cs (9 : Int32) (A 9) EN ⟨9, by decide, rfl⟩ (congrArg A (by decide)) OL0) hZ (own_W hw 4 rfl) (own_W hw 3 rfl) (by decide) (by decide)) (g := (mkF m 9 #[.val (.int p1), .val (.int 9), .unset, .unset] [(.int 9)])) rfl (by rw [hml]; rfl) (argsL := [(.int 9)]) (rest := []) (lenOf own_pd0 rfl) rfl (by show 2 * 0 + _ ≤ _; exact Nat.le_of_eq rfl) (hb hby at_9) (fun _ _ => ⟨rfl, e0, (by decide : 0 + 0 ≤ _), (by decide : 0 + 0 ≤ _)⟩)
    dsimp only [Pt.U, Pt.locs, Pt.cells, Pt.slots] at z24 l274 y274 z274 za4 za3
    replace z24 := own_sub z24 l274 y274 z274
    obtain ⟨rfl, zo8, zo9⟩ := za3
    have zoa := Fr.app N0 zo8
    have zob : own_P p e below z5d m 14 #[.val (.int p1), .val (.int 9), .val (.ref (A 9)), .unset] [(.ref (A 9))] s₁ #[(.int p1)] maxLocals := fun t k => z2 t (by
      show own_Y p e below s₁ m 7 #[.val (.int p1), .unset, .unset, .unset] [(.int ((p1 &&& (2147483647 : Int32)) % 28))] _
      rw [z0]
      show own_Y p e below s₁ m 7 #[.val (.int p1), .unset, .unset, .unset] [(.int 9)] _
      refine XS.istoreN X0.here hx rfl (hb hby at_7) rfl (l' := #[.val (.int p1), .val (.int 9), .unset, .unset]) rfl ?_
      refine XS.iloadN X0.here hx rfl (hb hby at_8) rfl ?_
      refine za4 _ ?_
      show own_Y p e below z5d m 12 #[.val (.int p1), .val (.int 9), .unset, .unset] [(.ref (A 9))] _
      refine XS.astoreN z24.here hx rfl (hb hby at_12) rfl rfl (l' := #[.val (.int p1), .val (.int 9), .val (.ref (A 9)), .unset]) rfl ?_
      refine XS.aloadN z24.here hx rfl (hb hby at_13) rfl rfl ?_
      exact k)
    obtain ⟨sa276, zoc, zod, kk276, sb276, kc276, zoe, z5e, za5, hS276, zof, hZ, hown, Es276, Cs276, Vs276, As276, la276, lb276, C276, -, -, zog⟩ := ldcCH (s := s) z24 hx hZ hown (own_W hw 8 rfl) (own_strAtoms a0 Z hw) zo9 hS0 z1 (own_EW a0 Z hw) (List.mem_of_getElem? (i := 3) rfl) H0 (vs := [(.int 48), (.int 48)]) (z := (2 : Int32)) ⟨by decide, by decide⟩ (by decide) (by decide) (g := (mkF m 14 #[.val (.int p1), .val (.int 9), .val (.ref (A 9)), .unset] [(.ref (A 9))])) rfl (hb hby at_14) (n := 8) (by decide) (by decide) (by decide) (by decide)
    have z5f := OL0.ext za5
    have zoh := KK0.ext za5
    obtain ⟨cq277, kq277, zoi, z120, zoj⟩ := isOf hZ z5e (EN.2.2.1.2.2.2.1.ext z5f.2)
    obtain ⟨_, _, ⟨z36, L277, z121, n277⟩, -, z25, hSc277, hgr277, ⟨Lc277, za6, l277, y277, z277, C277⟩, za7⟩ := zoe.virtualBackS hx (y := own_m0) (z := own_m0) hown (mvT hZ (own_W hw 16 rfl)) (mvT hZ (own_W hw 17 rfl)) (notFace_of_selects (args := #[]) (mvT hZ (own_W hw 19 rfl))) (mvT hZ (own_W hw 19 rfl)) (mvT hZ (own_W hw 18 rfl)) (by decide) (backOfSH (EL := consts_1) (W := 0) (rm41 l Z a0 hw [] zod n0 p1 A K cs (A 9) (9 : Int32) sb276 sa276 kc276 EN EN.2.2.1.2.2.2.1 EN.2.2.2.2.2.2.2.2.1.2.2.2.2.2.2.2.1 (by decide) z5f Es276 Vs276 As276 Cs276) hZ (own_W hw 20 rfl) (own_W hw 6 rfl) (by decide) (by decide) (own_EW a0 Z hw) C276.1) zoi zoj (g := (mkF m 16 #[.val (.int p1), .val (.int 9), .val (.ref (A 9)), .unset] [(.ref sa276), (.ref (A 9))])) rfl (by rw [hml]; rfl) (Steps.refl _) (argsL := [(.ref sa276)]) (rest := []) (lenOf own_pd5 rfl) rfl (by show 2 * 0 + _ ≤ _; exact Nat.le_of_eq rfl) (hb hby at_16) (fun _ _ => ⟨rfl, z5e, (by decide : 2 + 2 ≤ _), (by decide : 12 + 8 ≤ _)⟩)
    dsimp only [Pt.U, Pt.locs, Pt.cells, Pt.slots] at z25 hSc277 hgr277 l277 y277 z277 za7 za6 C277
    obtain ⟨Xr277, hS277, hZ, hown⟩ := rebS (s := s) hS276 (by rw [z5e]; exact zof) z25 hSc277 hgr277 hZ hown
    replace z25 := own_sub Xr277 l277 y277 z277
    obtain ⟨rfl, zok, za8⟩ := za6
    have zol := Fr.app zoa zok
    have zom := z5f.keep za8 all0
    have zon := zoh.trans za8 all0
    have zoo : own_P p e below z36 m 23 #[.val (.int p1), .val (.int 9), .val (.ref (A 9)), .unset] [(.ref (A 9))] s₁ #[(.int p1)] maxLocals := fun t k => zob t (by
      show own_Y p e below z5d m 14 #[.val (.int p1), .val (.int 9), .val (.ref (A 9)), .unset] [(.ref (A 9))] _
      refine zog _ ?_
      show own_Y p e below zoc m 16 #[.val (.int p1), .val (.int 9), .val (.ref (A 9)), .unset] [(.ref sa276), (.ref (A 9))] _
      refine za7.trans ?_
      show own_Y p e below z36 m 19 #[.val (.int p1), .val (.int 9), .val (.ref (A 9)), .unset] [(.int 1)] _
      refine XS.ifNo z25.here hx rfl (hb hby at_19) rfl ((if0 _ _).trans (feq (by decide : ¬ ((1 : Int32) = (0 : Int32)))).1) ?_
      show own_Y p e below z36 m 22 #[.val (.int p1), .val (.int 9), .val (.ref (A 9)), .unset] [] _
      refine XS.aloadN z25.here hx rfl (hb hby at_22) rfl rfl ?_
      exact k)
    obtain ⟨sa279, zop, zoq, kk279, sb279, kc279, zor, z5g, za9, hS279, zos, hZ, hown, Es279, Cs279, Vs279, As279, la279, lb279, C279, -, -, zot⟩ := ldcCH (s := s) z25 hx hZ hown (own_W hw 87 rfl) (own_strAtoms a0 Z hw) rfl hS277 (Nat.le_refl _) (own_EW a0 Z hw) (List.mem_of_getElem? (i := 4) rfl) C277.1 (vs := [(.int 45), (.int 48)]) (z := (2 : Int32)) ⟨by decide, by decide⟩ (by decide) (by decide) (g := (mkF m 23 #[.val (.int p1), .val (.int 9), .val (.ref (A 9)), .unset] [(.ref (A 9))])) rfl (hb hby at_23) (n := 8) (by decide) (by decide) (by decide) (by decide)
    have z5h := zom.ext za9
    have zou := zon.ext za9
    obtain ⟨cq280, kq280, zov, z122, zow⟩ := isOf hZ z5g (EN.2.2.1.2.2.2.1.ext z5h.2)
    obtain ⟨_, _, ⟨z5i, L280, z123, n280⟩, -, z14, hSc280, hgr280, ⟨Lc280, zaa, l280, y280, z280, C280⟩, zab⟩ := zor.virtualBackS hx (y := own_m0) (z := own_m0) hown (mvT hZ (own_W hw 16 rfl)) (mvT hZ (own_W hw 17 rfl)) (notFace_of_selects (args := #[]) (mvT hZ (own_W hw 19 rfl))) (mvT hZ (own_W hw 19 rfl)) (mvT hZ (own_W hw 18 rfl)) (by decide) (backOfSH (EL := consts_1) (W := 0) (rm44 l Z a0 hw [] zoq n0 p1 A K cs (A 9) (9 : Int32) sb279 sa279 kc279 EN EN.2.2.1.2.2.2.1 EN.2.2.2.2.2.2.2.2.1.2.2.2.2.2.2.2.1 (by decide) z5h Es279 Vs279 As279 Cs279) hZ (own_W hw 20 rfl) (own_W hw 6 rfl) (by decide) (by decide) (own_EW a0 Z hw) C279.1) zov zow (g := (mkF m 25 #[.val (.int p1), .val (.int 9), .val (.ref (A 9)), .unset] [(.ref sa279), (.ref (A 9))])) rfl (by rw [hml]; rfl) (Steps.refl _) (argsL := [(.ref sa279)]) (rest := []) (lenOf own_pd5 rfl) rfl (by show 2 * 0 + _ ≤ _; exact Nat.le_of_eq rfl) (hb hby at_25) (fun _ _ => ⟨rfl, z5g, (by decide : 6 + 2 ≤ _), (by decide : 32 + 8 ≤ _)⟩)
    dsimp only [Pt.U, Pt.locs, Pt.cells, Pt.slots] at z14 hSc280 hgr280 l280 y280 z280 zab zaa C280
    obtain ⟨Xr280, hS280, hZ, hown⟩ := rebS (s := s) hS279 (by rw [z5g]; exact zos) z14 hSc280 hgr280 hZ hown
    replace z14 := own_sub Xr280 l280 y280 z280
    obtain ⟨rfl, zox, zac⟩ := zaa
    have zoy := Fr.app zol zox
    have zad := z5h.keep zac all0
    have z124 := zou.trans zac all0
    obtain ⟨cq281, kq281, zoz, z125, zp0⟩ := isOf hZ rfl (EN.2.2.1.2.2.2.1.ext zad.2)
    obtain ⟨_, _, ⟨z5j, L281, z126, n281⟩, -, zd, ⟨Lc281, zae, l281, y281, z281⟩, zaf⟩ := z14.virtualBack hx (y := own_m2) (z := own_m2) hown (mvT hZ (own_W hw 88 rfl)) (mvT hZ (own_W hw 89 rfl)) (notFace_of_selects (args := #[]) (mvT hZ (own_W hw 91 rfl))) (mvT hZ (own_W hw 91 rfl)) (mvT hZ (own_W hw 90 rfl)) (by decide) (backOf (W := 0) (rm30 l Z a0 hw [] z5i.heap n0 p1 A K cs (A 9) (9 : Int32) EN EN.2.2.1.2.2.2.1 EN.2.2.2.2.2.2.2.2.1.2.2.2.2.2.2.2.1 (Fld.ne EN.2.2.2.2.2.2.2.2.1.2.2.2.2.2.2.2.1 EN.2.2.2.2.2.2.2.1.2.2.2.2.1 (fun h => by injection h with h; exact absurd h (by decide))) zad) hZ (own_W hw 92 rfl) (own_W hw 6 rfl) (by decide) (by decide)) zoz zp0 (g := (mkF m 38 #[.val (.int p1), .val (.int 9), .val (.ref (A 9)), .val (.int 0)] [(.ref (A 9))])) rfl (by rw [hml]; rfl) (Steps.refl _) (argsL := []) (rest := []) (lenOf own_pd6 rfl) rfl (by show 2 * 0 + _ ≤ _; exact Nat.le_of_eq rfl) (hb hby at_38) (fun _ _ => ⟨rfl, rfl, (by decide : 8 + 0 ≤ _), (by decide : 40 + 0 ≤ _)⟩)
    dsimp only [Pt.U, Pt.locs, Pt.cells, Pt.slots] at zd l281 y281 z281 zaf zae
    replace zd := own_sub zd l281 y281 z281
    obtain ⟨rfl, zp1, zp2⟩ := zae
    have zp3 := Fr.app zoy zp1
    obtain ⟨fs, hr, hrun, hended, hEW⟩ := zd.leaveW (s := s) hS280 (by rw [zp2]; exact (Nat.le_refl _)) (v := some (.int 1)) (fun h => by rw [Bd.returns] at h; cases h)
    refine ⟨_, _, zoo _ ?_, hrun, hended, _, _, rfl, ?_, hEW.1, hEW.2.1, hEW.2.2.1, hEW.2.2.2.mono (by decide) (by decide)⟩
    · show own_Y p e below z36 m 23 #[.val (.int p1), .val (.int 9), .val (.ref (A 9)), .unset] [(.ref (A 9))] _
      refine zot _ ?_
      show own_Y p e below zop m 25 #[.val (.int p1), .val (.int 9), .val (.ref (A 9)), .unset] [(.ref sa279), (.ref (A 9))] _
      refine zab.trans ?_
      show own_Y p e below z5i m 28 #[.val (.int p1), .val (.int 9), .val (.ref (A 9)), .unset] [(.int 1)] _
      refine XS.ifYes z14.here hx rfl (pc0 := 28) (pc' := 35) rfl (hb hby at_28) rfl ((if0 _ _).trans (feq (by decide : ¬ ((1 : Int32) = (0 : Int32)))).2) (by decide) (by decide) ?_
      show own_Y p e below z5i m 35 #[.val (.int p1), .val (.int 9), .val (.ref (A 9)), .unset] [] _
      refine XS.iconst z14.here hx rfl (hb hby at_35) ?_
      refine XS.istoreN z14.here hx rfl (hb hby at_36) rfl (l' := #[.val (.int p1), .val (.int 9), .val (.ref (A 9)), .val (.int 0)]) rfl ?_
      refine XS.aloadN z14.here hx rfl (hb hby at_37) rfl rfl ?_
      refine zaf.trans ?_
      show own_Y p e below z5j m 41 #[.val (.int p1), .val (.int 9), .val (.ref (A 9)), .val (.int 0)] [(.int 0)] _
      refine XS.iloadN zd.here hx rfl (hb hby at_41) rfl ?_
      refine XS.icmpNo zd.here hx rfl (hb hby at_42) rfl (teq (by decide : (0 : Int32) = (0 : Int32))).2 ?_
      show own_Y p e below z5j m 45 #[.val (.int p1), .val (.int 9), .val (.ref (A 9)), .val (.int 0)] [] _
      refine XS.iconst zd.here hx rfl (hb hby at_45) ?_
      refine XS.goto zd.here hx rfl (pc0 := 46) (pc' := 50) rfl (hb hby at_46) (by decide) (by decide) ?_
      exact retN zd hx (t := .boolean) Bd.returns (by simp) (hb hby at_50) hr
    · show LQ n0 _ z5j.heap _
      exact ⟨rfl, zp3, trivial⟩
  | 10, _, z0 =>
    obtain ⟨_, _, ⟨z5k, L282, z127, n282⟩, -, z26, ⟨Lc282, zag, l282, y282, z282⟩, zah⟩ := Jvm.LawKit.callS X0 hx (y := own_m5) hown (mvT hZ (own_W hw 1 rfl)) (mvT hZ (own_W hw 2 rfl)) (mvT hZ (own_W hw 3 rfl)) (mvT hZ (own_W hw 4 rfl)) (by decide) (backOf (W := 0) (rmPick l Z a0 hw [] h0 n0 p1 A K cs (10 : Int32) (A 10) EN ⟨10, by decide, rfl⟩ (congrArg A (by decide)) OL0) hZ (own_W hw 4 rfl) (own_W hw 3 rfl) (by decide) (by decide)) (g := (mkF m 9 #[.val (.int p1), .val (.int 10), .unset, .unset] [(.int 10)])) rfl (by rw [hml]; rfl) (argsL := [(.int 10)]) (rest := []) (lenOf own_pd0 rfl) rfl (by show 2 * 0 + _ ≤ _; exact Nat.le_of_eq rfl) (hb hby at_9) (fun _ _ => ⟨rfl, e0, (by decide : 0 + 0 ≤ _), (by decide : 0 + 0 ≤ _)⟩)
    dsimp only [Pt.U, Pt.locs, Pt.cells, Pt.slots] at z26 l282 y282 z282 zah zag
    replace z26 := own_sub z26 l282 y282 z282
    obtain ⟨rfl, zp4, zp5⟩ := zag
    have zp6 := Fr.app N0 zp4
    have zp7 : own_P p e below z5k m 14 #[.val (.int p1), .val (.int 10), .val (.ref (A 10)), .unset] [(.ref (A 10))] s₁ #[(.int p1)] maxLocals := fun t k => z2 t (by
      show own_Y p e below s₁ m 7 #[.val (.int p1), .unset, .unset, .unset] [(.int ((p1 &&& (2147483647 : Int32)) % 28))] _
      rw [z0]
      show own_Y p e below s₁ m 7 #[.val (.int p1), .unset, .unset, .unset] [(.int 10)] _
      refine XS.istoreN X0.here hx rfl (hb hby at_7) rfl (l' := #[.val (.int p1), .val (.int 10), .unset, .unset]) rfl ?_
      refine XS.iloadN X0.here hx rfl (hb hby at_8) rfl ?_
      refine zah _ ?_
      show own_Y p e below z5k m 12 #[.val (.int p1), .val (.int 10), .unset, .unset] [(.ref (A 10))] _
      refine XS.astoreN z26.here hx rfl (hb hby at_12) rfl rfl (l' := #[.val (.int p1), .val (.int 10), .val (.ref (A 10)), .unset]) rfl ?_
      refine XS.aloadN z26.here hx rfl (hb hby at_13) rfl rfl ?_
      exact k)
    obtain ⟨sa284, zp8, zai, kk284, sb284, kc284, zp9, zaj, zak, hS284, zpa, hZ, hown, Es284, Cs284, Vs284, As284, la284, lb284, C284, -, -, zpb⟩ := ldcCH (s := s) z26 hx hZ hown (own_W hw 8 rfl) (own_strAtoms a0 Z hw) zp5 hS0 z1 (own_EW a0 Z hw) (List.mem_of_getElem? (i := 3) rfl) H0 (vs := [(.int 48), (.int 48)]) (z := (2 : Int32)) ⟨by decide, by decide⟩ (by decide) (by decide) (g := (mkF m 14 #[.val (.int p1), .val (.int 10), .val (.ref (A 10)), .unset] [(.ref (A 10))])) rfl (hb hby at_14) (n := 8) (by decide) (by decide) (by decide) (by decide)
    have z37 := OL0.ext zak
    have z128 := KK0.ext zak
    obtain ⟨cq288, kq288, zpc, z129, zpd⟩ := isOf hZ zaj (EN.2.2.1.2.2.2.2.2.1.ext z37.2)
    obtain ⟨_, _, ⟨zal, L288, z12a, n288⟩, -, z15, ⟨Lc288, zam, l288, y288, z288⟩, zan⟩ := zp9.virtualBack hx (y := own_m0) (z := own_m0) hown (mvT hZ (own_W hw 16 rfl)) (mvT hZ (own_W hw 17 rfl)) (notFace_of_selects (args := #[]) (mvT hZ (own_W hw 19 rfl))) (mvT hZ (own_W hw 19 rfl)) (mvT hZ (own_W hw 18 rfl)) (by decide) (backOf (W := 0) (rm47 l Z a0 hw [] zai n0 p1 A K cs (A 10) (10 : Int32) sb284 sa284 kc284 EN EN.2.2.1.2.2.2.2.2.1 EN.2.2.2.2.2.2.2.2.1.2.2.2.2.2.2.1 (by decide) z37 Es284 Vs284 As284 Cs284) hZ (own_W hw 20 rfl) (own_W hw 6 rfl) (by decide) (by decide)) zpc zpd (g := (mkF m 16 #[.val (.int p1), .val (.int 10), .val (.ref (A 10)), .unset] [(.ref sa284), (.ref (A 10))])) rfl (by rw [hml]; rfl) (Steps.refl _) (argsL := [(.ref sa284)]) (rest := []) (lenOf own_pd5 rfl) rfl (by show 2 * 0 + _ ≤ _; exact Nat.le_of_eq rfl) (hb hby at_16) (fun _ _ => ⟨rfl, zaj, (by decide : 2 + 0 ≤ _), (by decide : 12 + 0 ≤ _)⟩)
    dsimp only [Pt.U, Pt.locs, Pt.cells, Pt.slots] at z15 l288 y288 z288 zan zam
    replace z15 := own_sub z15 l288 y288 z288
    obtain ⟨rfl, zpe, zao⟩ := zam
    have zpf := Fr.app zp6 zpe
    obtain ⟨cq289, kq289, zpg, z12b, zph⟩ := isOf hZ zao (EN.2.2.1.2.2.2.2.2.1.ext z37.2)
    obtain ⟨_, _, ⟨z5l, L289, z12c, n289⟩, -, ze, ⟨Lc289, zap, l289, y289, z289⟩, zaq⟩ := z15.virtualBack hx (y := own_m2) (z := own_m2) hown (mvT hZ (own_W hw 88 rfl)) (mvT hZ (own_W hw 89 rfl)) (notFace_of_selects (args := #[]) (mvT hZ (own_W hw 91 rfl))) (mvT hZ (own_W hw 91 rfl)) (mvT hZ (own_W hw 90 rfl)) (by decide) (backOf (W := 0) (rm30 l Z a0 hw [] zai n0 p1 A K cs (A 10) (10 : Int32) EN EN.2.2.1.2.2.2.2.2.1 EN.2.2.2.2.2.2.2.2.1.2.2.2.2.2.2.1 (Fld.ne EN.2.2.2.2.2.2.2.2.1.2.2.2.2.2.2.1 EN.2.2.2.2.2.2.2.1.2.2.2.2.1 (fun h => by injection h with h; exact absurd h (by decide))) z37) hZ (own_W hw 92 rfl) (own_W hw 6 rfl) (by decide) (by decide)) zpg zph (g := (mkF m 38 #[.val (.int p1), .val (.int 10), .val (.ref (A 10)), .val (.int 0)] [(.ref (A 10))])) rfl (by rw [hml]; rfl) (Steps.refl _) (argsL := []) (rest := []) (lenOf own_pd6 rfl) rfl (by show 2 * 0 + _ ≤ _; exact Nat.le_of_eq rfl) (hb hby at_38) (fun _ _ => ⟨rfl, zao, (by decide : 2 + 0 ≤ _), (by decide : 12 + 0 ≤ _)⟩)
    dsimp only [Pt.U, Pt.locs, Pt.cells, Pt.slots] at ze l289 y289 z289 zaq zap
    replace ze := own_sub ze l289 y289 z289
    obtain ⟨rfl, zpi, zpj⟩ := zap
    have zpk := Fr.app zpf zpi
    obtain ⟨fs, hr, hrun, hended, hEW⟩ := ze.leaveW (s := s) hS284 (by rw [zpj]; exact zpa) (v := some (.int 1)) (fun h => by rw [Bd.returns] at h; cases h)
    refine ⟨_, _, zp7 _ ?_, hrun, hended, _, _, rfl, ?_, hEW.1, hEW.2.1, hEW.2.2.1, hEW.2.2.2.mono (by decide) (by decide)⟩
    · show own_Y p e below z5k m 14 #[.val (.int p1), .val (.int 10), .val (.ref (A 10)), .unset] [(.ref (A 10))] _
      refine zpb _ ?_
      show own_Y p e below zp8 m 16 #[.val (.int p1), .val (.int 10), .val (.ref (A 10)), .unset] [(.ref sa284), (.ref (A 10))] _
      refine zan.trans ?_
      show own_Y p e below zal m 19 #[.val (.int p1), .val (.int 10), .val (.ref (A 10)), .unset] [(.int 0)] _
      refine XS.ifYes z15.here hx rfl (pc0 := 19) (pc' := 35) rfl (hb hby at_19) rfl ((if0 _ _).trans (teq (by decide : (0 : Int32) = (0 : Int32))).1) (by decide) (by decide) ?_
      show own_Y p e below zal m 35 #[.val (.int p1), .val (.int 10), .val (.ref (A 10)), .unset] [] _
      refine XS.iconst z15.here hx rfl (hb hby at_35) ?_
      refine XS.istoreN z15.here hx rfl (hb hby at_36) rfl (l' := #[.val (.int p1), .val (.int 10), .val (.ref (A 10)), .val (.int 0)]) rfl ?_
      refine XS.aloadN z15.here hx rfl (hb hby at_37) rfl rfl ?_
      refine zaq.trans ?_
      show own_Y p e below z5l m 41 #[.val (.int p1), .val (.int 10), .val (.ref (A 10)), .val (.int 0)] [(.int 0)] _
      refine XS.iloadN ze.here hx rfl (hb hby at_41) rfl ?_
      refine XS.icmpNo ze.here hx rfl (hb hby at_42) rfl (teq (by decide : (0 : Int32) = (0 : Int32))).2 ?_
      show own_Y p e below z5l m 45 #[.val (.int p1), .val (.int 10), .val (.ref (A 10)), .val (.int 0)] [] _
      refine XS.iconst ze.here hx rfl (hb hby at_45) ?_
      refine XS.goto ze.here hx rfl (pc0 := 46) (pc' := 50) rfl (hb hby at_46) (by decide) (by decide) ?_
      exact retN ze hx (t := .boolean) Bd.returns (by simp) (hb hby at_50) hr
    · show LQ n0 _ z5l.heap _
      exact ⟨rfl, zpk, trivial⟩
  | 11, _, z0 =>
    obtain ⟨_, _, ⟨z5m, L290, z12d, n290⟩, -, z27, ⟨Lc290, zar, l290, y290, z290⟩, zas⟩ := Jvm.LawKit.callS X0 hx (y := own_m5) hown (mvT hZ (own_W hw 1 rfl)) (mvT hZ (own_W hw 2 rfl)) (mvT hZ (own_W hw 3 rfl)) (mvT hZ (own_W hw 4 rfl)) (by decide) (backOf (W := 0) (rmPick l Z a0 hw [] h0 n0 p1 A K cs (11 : Int32) (A 11) EN ⟨11, by decide, rfl⟩ (congrArg A (by decide)) OL0) hZ (own_W hw 4 rfl) (own_W hw 3 rfl) (by decide) (by decide)) (g := (mkF m 9 #[.val (.int p1), .val (.int 11), .unset, .unset] [(.int 11)])) rfl (by rw [hml]; rfl) (argsL := [(.int 11)]) (rest := []) (lenOf own_pd0 rfl) rfl (by show 2 * 0 + _ ≤ _; exact Nat.le_of_eq rfl) (hb hby at_9) (fun _ _ => ⟨rfl, e0, (by decide : 0 + 0 ≤ _), (by decide : 0 + 0 ≤ _)⟩)
    dsimp only [Pt.U, Pt.locs, Pt.cells, Pt.slots] at z27 l290 y290 z290 zas zar
    replace z27 := own_sub z27 l290 y290 z290
    obtain ⟨rfl, zpl, zpm⟩ := zar
    have zpn := Fr.app N0 zpl
    have zpo : own_P p e below z5m m 14 #[.val (.int p1), .val (.int 11), .val (.ref (A 11)), .unset] [(.ref (A 11))] s₁ #[(.int p1)] maxLocals := fun t k => z2 t (by
      show own_Y p e below s₁ m 7 #[.val (.int p1), .unset, .unset, .unset] [(.int ((p1 &&& (2147483647 : Int32)) % 28))] _
      rw [z0]
      show own_Y p e below s₁ m 7 #[.val (.int p1), .unset, .unset, .unset] [(.int 11)] _
      refine XS.istoreN X0.here hx rfl (hb hby at_7) rfl (l' := #[.val (.int p1), .val (.int 11), .unset, .unset]) rfl ?_
      refine XS.iloadN X0.here hx rfl (hb hby at_8) rfl ?_
      refine zas _ ?_
      show own_Y p e below z5m m 12 #[.val (.int p1), .val (.int 11), .unset, .unset] [(.ref (A 11))] _
      refine XS.astoreN z27.here hx rfl (hb hby at_12) rfl rfl (l' := #[.val (.int p1), .val (.int 11), .val (.ref (A 11)), .unset]) rfl ?_
      refine XS.aloadN z27.here hx rfl (hb hby at_13) rfl rfl ?_
      exact k)
    obtain ⟨sa292, zpp, zpq, kk292, sb292, kc292, zpr, z5n, zat, hS292, zps, hZ, hown, Es292, Cs292, Vs292, As292, la292, lb292, C292, -, -, zpt⟩ := ldcCH (s := s) z27 hx hZ hown (own_W hw 8 rfl) (own_strAtoms a0 Z hw) zpm hS0 z1 (own_EW a0 Z hw) (List.mem_of_getElem? (i := 3) rfl) H0 (vs := [(.int 48), (.int 48)]) (z := (2 : Int32)) ⟨by decide, by decide⟩ (by decide) (by decide) (g := (mkF m 14 #[.val (.int p1), .val (.int 11), .val (.ref (A 11)), .unset] [(.ref (A 11))])) rfl (hb hby at_14) (n := 8) (by decide) (by decide) (by decide) (by decide)
    have z5o := OL0.ext zat
    have zpu := KK0.ext zat
    obtain ⟨cq333, kq333, zpv, z12e, zpw⟩ := isOf hZ z5n (EN.2.2.1.2.2.2.2.2.2.2.1.ext z5o.2)
    obtain ⟨_, _, ⟨z5p, L333, z12f, n333⟩, -, z16, hSc333, hgr333, ⟨Lc333, zau, l333, y333, z333, C333⟩, zav⟩ := zpr.virtualBackS hx (y := own_m0) (z := own_m0) hown (mvT hZ (own_W hw 16 rfl)) (mvT hZ (own_W hw 17 rfl)) (notFace_of_selects (args := #[]) (mvT hZ (own_W hw 19 rfl))) (mvT hZ (own_W hw 19 rfl)) (mvT hZ (own_W hw 18 rfl)) (by decide) (backOfSH (EL := consts_1) (W := 0) (rm48 l Z a0 hw [] zpq n0 p1 A K cs (A 11) (11 : Int32) sb292 sa292 kc292 EN EN.2.2.1.2.2.2.2.2.2.2.1 EN.2.2.2.2.2.2.2.2.1.2.2.1 (by decide) z5o Es292 Vs292 As292 Cs292) hZ (own_W hw 20 rfl) (own_W hw 6 rfl) (by decide) (by decide) (own_EW a0 Z hw) C292.1) zpv zpw (g := (mkF m 16 #[.val (.int p1), .val (.int 11), .val (.ref (A 11)), .unset] [(.ref sa292), (.ref (A 11))])) rfl (by rw [hml]; rfl) (Steps.refl _) (argsL := [(.ref sa292)]) (rest := []) (lenOf own_pd5 rfl) rfl (by show 2 * 0 + _ ≤ _; exact Nat.le_of_eq rfl) (hb hby at_16) (fun _ _ => ⟨rfl, z5n, (by decide : 2 + 4 ≤ _), (by decide : 12 + 16 ≤ _)⟩)
    dsimp only [Pt.U, Pt.locs, Pt.cells, Pt.slots] at z16 hSc333 hgr333 l333 y333 z333 zav zau C333
    obtain ⟨Xr333, hS333, hZ, hown⟩ := rebS (s := s) hS292 (by rw [z5n]; exact zps) z16 hSc333 hgr333 hZ hown
    replace z16 := own_sub Xr333 l333 y333 z333
    obtain ⟨rfl, zpx, zaw⟩ := zau
    have zpy := Fr.app zpn zpx
    have zax := z5o.keep zaw all0
    have z12g := zpu.trans zaw all0
    obtain ⟨cq334, kq334, zpz, z12h, zq0⟩ := isOf hZ rfl (EN.2.2.1.2.2.2.2.2.2.2.1.ext zax.2)
    obtain ⟨_, _, ⟨z5q, L334, z12i, n334⟩, -, zf, ⟨Lc334, zay, l334, y334, z334⟩, zaz⟩ := z16.virtualBack hx (y := own_m2) (z := own_m2) hown (mvT hZ (own_W hw 88 rfl)) (mvT hZ (own_W hw 89 rfl)) (notFace_of_selects (args := #[]) (mvT hZ (own_W hw 91 rfl))) (mvT hZ (own_W hw 91 rfl)) (mvT hZ (own_W hw 90 rfl)) (by decide) (backOf (W := 0) (rm30 l Z a0 hw [] z5p.heap n0 p1 A K cs (A 11) (11 : Int32) EN EN.2.2.1.2.2.2.2.2.2.2.1 EN.2.2.2.2.2.2.2.2.1.2.2.1 (Fld.ne EN.2.2.2.2.2.2.2.2.1.2.2.1 EN.2.2.2.2.2.2.2.1.2.2.2.2.1 (fun h => by injection h with h; exact absurd h (by decide))) zax) hZ (own_W hw 92 rfl) (own_W hw 6 rfl) (by decide) (by decide)) zpz zq0 (g := (mkF m 38 #[.val (.int p1), .val (.int 11), .val (.ref (A 11)), .val (.int 0)] [(.ref (A 11))])) rfl (by rw [hml]; rfl) (Steps.refl _) (argsL := []) (rest := []) (lenOf own_pd6 rfl) rfl (by show 2 * 0 + _ ≤ _; exact Nat.le_of_eq rfl) (hb hby at_38) (fun _ _ => ⟨rfl, rfl, (by decide : 6 + 0 ≤ _), (by decide : 28 + 0 ≤ _)⟩)
    dsimp only [Pt.U, Pt.locs, Pt.cells, Pt.slots] at zf l334 y334 z334 zaz zay
    replace zf := own_sub zf l334 y334 z334
    obtain ⟨rfl, zq1, zq2⟩ := zay
    have zq3 := Fr.app zpy zq1
    obtain ⟨fs, hr, hrun, hended, hEW⟩ := zf.leaveW (s := s) hS333 (by rw [zq2]; exact (Nat.le_refl _)) (v := some (.int 1)) (fun h => by rw [Bd.returns] at h; cases h)
    refine ⟨_, _, zpo _ ?_, hrun, hended, _, _, rfl, ?_, hEW.1, hEW.2.1, hEW.2.2.1, hEW.2.2.2.mono (by decide) (by decide)⟩
    · show own_Y p e below z5m m 14 #[.val (.int p1), .val (.int 11), .val (.ref (A 11)), .unset] [(.ref (A 11))] _
      refine zpt _ ?_
      show own_Y p e below zpp m 16 #[.val (.int p1), .val (.int 11), .val (.ref (A 11)), .unset] [(.ref sa292), (.ref (A 11))] _
      refine zav.trans ?_
      show own_Y p e below z5p m 19 #[.val (.int p1), .val (.int 11), .val (.ref (A 11)), .unset] [(.int 0)] _
      refine XS.ifYes z16.here hx rfl (pc0 := 19) (pc' := 35) rfl (hb hby at_19) rfl ((if0 _ _).trans (teq (by decide : (0 : Int32) = (0 : Int32))).1) (by decide) (by decide) ?_
      show own_Y p e below z5p m 35 #[.val (.int p1), .val (.int 11), .val (.ref (A 11)), .unset] [] _
      refine XS.iconst z16.here hx rfl (hb hby at_35) ?_
      refine XS.istoreN z16.here hx rfl (hb hby at_36) rfl (l' := #[.val (.int p1), .val (.int 11), .val (.ref (A 11)), .val (.int 0)]) rfl ?_
      refine XS.aloadN z16.here hx rfl (hb hby at_37) rfl rfl ?_
      refine zaz.trans ?_
      show own_Y p e below z5q m 41 #[.val (.int p1), .val (.int 11), .val (.ref (A 11)), .val (.int 0)] [(.int 0)] _
      refine XS.iloadN zf.here hx rfl (hb hby at_41) rfl ?_
      refine XS.icmpNo zf.here hx rfl (hb hby at_42) rfl (teq (by decide : (0 : Int32) = (0 : Int32))).2 ?_
      show own_Y p e below z5q m 45 #[.val (.int p1), .val (.int 11), .val (.ref (A 11)), .val (.int 0)] [] _
      refine XS.iconst zf.here hx rfl (hb hby at_45) ?_
      refine XS.goto zf.here hx rfl (pc0 := 46) (pc' := 50) rfl (hb hby at_46) (by decide) (by decide) ?_
      exact retN zf hx (t := .boolean) Bd.returns (by simp) (hb hby at_50) hr
    · show LQ n0 _ z5q.heap _
      exact ⟨rfl, zq3, trivial⟩
  | 12, _, z0 =>
    obtain ⟨_, _, ⟨z5r, L335, z12j, n335⟩, -, z28, ⟨Lc335, zb0, l335, y335, z335⟩, zb1⟩ := Jvm.LawKit.callS X0 hx (y := own_m5) hown (mvT hZ (own_W hw 1 rfl)) (mvT hZ (own_W hw 2 rfl)) (mvT hZ (own_W hw 3 rfl)) (mvT hZ (own_W hw 4 rfl)) (by decide) (backOf (W := 0) (rmPick l Z a0 hw [] h0 n0 p1 A K cs (12 : Int32) (A 12) EN ⟨12, by decide, rfl⟩ (congrArg A (by decide)) OL0) hZ (own_W hw 4 rfl) (own_W hw 3 rfl) (by decide) (by decide)) (g := (mkF m 9 #[.val (.int p1), .val (.int 12), .unset, .unset] [(.int 12)])) rfl (by rw [hml]; rfl) (argsL := [(.int 12)]) (rest := []) (lenOf own_pd0 rfl) rfl (by show 2 * 0 + _ ≤ _; exact Nat.le_of_eq rfl) (hb hby at_9) (fun _ _ => ⟨rfl, e0, (by decide : 0 + 0 ≤ _), (by decide : 0 + 0 ≤ _)⟩)
    dsimp only [Pt.U, Pt.locs, Pt.cells, Pt.slots] at z28 l335 y335 z335 zb1 zb0
    replace z28 := own_sub z28 l335 y335 z335
    obtain ⟨rfl, zq4, zq5⟩ := zb0
    have zq6 := Fr.app N0 zq4
    have zq7 : own_P p e below z5r m 14 #[.val (.int p1), .val (.int 12), .val (.ref (A 12)), .unset] [(.ref (A 12))] s₁ #[(.int p1)] maxLocals := fun t k => z2 t (by
      show own_Y p e below s₁ m 7 #[.val (.int p1), .unset, .unset, .unset] [(.int ((p1 &&& (2147483647 : Int32)) % 28))] _
      rw [z0]
      show own_Y p e below s₁ m 7 #[.val (.int p1), .unset, .unset, .unset] [(.int 12)] _
      refine XS.istoreN X0.here hx rfl (hb hby at_7) rfl (l' := #[.val (.int p1), .val (.int 12), .unset, .unset]) rfl ?_
      refine XS.iloadN X0.here hx rfl (hb hby at_8) rfl ?_
      refine zb1 _ ?_
      show own_Y p e below z5r m 12 #[.val (.int p1), .val (.int 12), .unset, .unset] [(.ref (A 12))] _
      refine XS.astoreN z28.here hx rfl (hb hby at_12) rfl rfl (l' := #[.val (.int p1), .val (.int 12), .val (.ref (A 12)), .unset]) rfl ?_
      refine XS.aloadN z28.here hx rfl (hb hby at_13) rfl rfl ?_
      exact k)
    obtain ⟨sa337, zq8, zq9, kk337, sb337, kc337, zqa, zb2, zb3, hS337, zqb, hZ, hown, Es337, Cs337, Vs337, As337, la337, lb337, C337, -, -, zqc⟩ := ldcCH (s := s) z28 hx hZ hown (own_W hw 8 rfl) (own_strAtoms a0 Z hw) zq5 hS0 z1 (own_EW a0 Z hw) (List.mem_of_getElem? (i := 3) rfl) H0 (vs := [(.int 48), (.int 48)]) (z := (2 : Int32)) ⟨by decide, by decide⟩ (by decide) (by decide) (g := (mkF m 14 #[.val (.int p1), .val (.int 12), .val (.ref (A 12)), .unset] [(.ref (A 12))])) rfl (hb hby at_14) (n := 8) (by decide) (by decide) (by decide) (by decide)
    have z5s := OL0.ext zb3
    have zqd := KK0.ext zb3
    obtain ⟨cq341, kq341, zqe, z12k, zqf⟩ := isOf hZ zb2 (EN.2.2.2.1.2.1.ext z5s.2)
    obtain ⟨_, _, ⟨z38, L341, z12l, n341⟩, -, z29, ⟨Lc341, zb4, l341, y341, z341⟩, zb5⟩ := zqa.virtualBack hx (y := own_m0) (z := own_m0) hown (mvT hZ (own_W hw 16 rfl)) (mvT hZ (own_W hw 17 rfl)) (notFace_of_selects (args := #[]) (mvT hZ (own_W hw 19 rfl))) (mvT hZ (own_W hw 19 rfl)) (mvT hZ (own_W hw 18 rfl)) (by decide) (backOf (W := 0) (rm53 l Z a0 hw [] zq9 n0 p1 A K cs (A 12) (12 : Int32) sb337 sa337 kc337 EN EN.2.2.2.1.2.1 EN.2.2.2.2.2.2.2.2.2.2.1.2.2.2.2.1 (by decide) z5s Es337 Vs337 As337 Cs337) hZ (own_W hw 20 rfl) (own_W hw 6 rfl) (by decide) (by decide)) zqe zqf (g := (mkF m 16 #[.val (.int p1), .val (.int 12), .val (.ref (A 12)), .unset] [(.ref sa337), (.ref (A 12))])) rfl (by rw [hml]; rfl) (Steps.refl _) (argsL := [(.ref sa337)]) (rest := []) (lenOf own_pd5 rfl) rfl (by show 2 * 0 + _ ≤ _; exact Nat.le_of_eq rfl) (hb hby at_16) (fun _ _ => ⟨rfl, zb2, (by decide : 2 + 0 ≤ _), (by decide : 12 + 0 ≤ _)⟩)
    dsimp only [Pt.U, Pt.locs, Pt.cells, Pt.slots] at z29 l341 y341 z341 zb5 zb4
    replace z29 := own_sub z29 l341 y341 z341
    obtain ⟨rfl, zqg, zqh⟩ := zb4
    have zqi := Fr.app zq6 zqg
    have zqj : own_P p e below z38 m 23 #[.val (.int p1), .val (.int 12), .val (.ref (A 12)), .unset] [(.ref (A 12))] s₁ #[(.int p1)] maxLocals := fun t k => zq7 t (by
      show own_Y p e below z5r m 14 #[.val (.int p1), .val (.int 12), .val (.ref (A 12)), .unset] [(.ref (A 12))] _
      refine zqc _ ?_
      show own_Y p e below zq8 m 16 #[.val (.int p1), .val (.int 12), .val (.ref (A 12)), .unset] [(.ref sa337), (.ref (A 12))] _
      refine zb5.trans ?_
      show own_Y p e below z38 m 19 #[.val (.int p1), .val (.int 12), .val (.ref (A 12)), .unset] [(.int 1)] _
      refine XS.ifNo z29.here hx rfl (hb hby at_19) rfl ((if0 _ _).trans (feq (by decide : ¬ ((1 : Int32) = (0 : Int32)))).1) ?_
      show own_Y p e below z38 m 22 #[.val (.int p1), .val (.int 12), .val (.ref (A 12)), .unset] [] _
      refine XS.aloadN z29.here hx rfl (hb hby at_22) rfl rfl ?_
      exact k)
    obtain ⟨sa343, zqk, zb6, kk343, sb343, kc343, zql, zb7, zb8, hS343, zqm, hZ, hown, Es343, Cs343, Vs343, As343, la343, lb343, C343, -, -, zqn⟩ := ldcCH (s := s) z29 hx hZ hown (own_W hw 87 rfl) (own_strAtoms a0 Z hw) zqh hS337 zqb (own_EW a0 Z hw) (List.mem_of_getElem? (i := 4) rfl) C337.1 (vs := [(.int 45), (.int 48)]) (z := (2 : Int32)) ⟨by decide, by decide⟩ (by decide) (by decide) (g := (mkF m 23 #[.val (.int p1), .val (.int 12), .val (.ref (A 12)), .unset] [(.ref (A 12))])) rfl (hb hby at_23) (n := 8) (by decide) (by decide) (by decide) (by decide)
    have z39 := z5s.ext zb8
    have z12m := zqd.ext zb8
    obtain ⟨cq347, kq347, zqo, z12n, zqp⟩ := isOf hZ zb7 (EN.2.2.2.1.2.1.ext z39.2)
    obtain ⟨_, _, ⟨zb9, L347, z12o, n347⟩, -, z17, ⟨Lc347, zba, l347, y347, z347⟩, zbb⟩ := zql.virtualBack hx (y := own_m0) (z := own_m0) hown (mvT hZ (own_W hw 16 rfl)) (mvT hZ (own_W hw 17 rfl)) (notFace_of_selects (args := #[]) (mvT hZ (own_W hw 19 rfl))) (mvT hZ (own_W hw 19 rfl)) (mvT hZ (own_W hw 18 rfl)) (by decide) (backOf (W := 0) (rm54 l Z a0 hw [] zb6 n0 p1 A K cs (A 12) (12 : Int32) sb343 sa343 kc343 EN EN.2.2.2.1.2.1 EN.2.2.2.2.2.2.2.2.2.2.1.2.2.2.2.1 (by decide) z39 Es343 Vs343 As343 Cs343) hZ (own_W hw 20 rfl) (own_W hw 6 rfl) (by decide) (by decide)) zqo zqp (g := (mkF m 25 #[.val (.int p1), .val (.int 12), .val (.ref (A 12)), .unset] [(.ref sa343), (.ref (A 12))])) rfl (by rw [hml]; rfl) (Steps.refl _) (argsL := [(.ref sa343)]) (rest := []) (lenOf own_pd5 rfl) rfl (by show 2 * 0 + _ ≤ _; exact Nat.le_of_eq rfl) (hb hby at_25) (fun _ _ => ⟨rfl, zb7, (by decide : 4 + 0 ≤ _), (by decide : 24 + 0 ≤ _)⟩)
    dsimp only [Pt.U, Pt.locs, Pt.cells, Pt.slots] at z17 l347 y347 z347 zbb zba
    replace z17 := own_sub z17 l347 y347 z347
    obtain ⟨rfl, zqq, zbc⟩ := zba
    have zqr := Fr.app zqi zqq
    obtain ⟨cq348, kq348, zqs, z12p, zqt⟩ := isOf hZ zbc (EN.2.2.2.1.2.1.ext z39.2)
    obtain ⟨_, _, ⟨z5t, L348, z12q, n348⟩, -, zg, ⟨Lc348, zbd, l348, y348, z348⟩, zbe⟩ := z17.virtualBack hx (y := own_m2) (z := own_m2) hown (mvT hZ (own_W hw 88 rfl)) (mvT hZ (own_W hw 89 rfl)) (notFace_of_selects (args := #[]) (mvT hZ (own_W hw 91 rfl))) (mvT hZ (own_W hw 91 rfl)) (mvT hZ (own_W hw 90 rfl)) (by decide) (backOf (W := 0) (rm30 l Z a0 hw [] zb6 n0 p1 A K cs (A 12) (12 : Int32) EN EN.2.2.2.1.2.1 EN.2.2.2.2.2.2.2.2.2.2.1.2.2.2.2.1 (Fld.ne EN.2.2.2.2.2.2.2.2.2.2.1.2.2.2.2.1 EN.2.2.2.2.2.2.2.1.2.2.2.2.1 (fun h => by injection h with h; exact absurd h (by decide))) z39) hZ (own_W hw 92 rfl) (own_W hw 6 rfl) (by decide) (by decide)) zqs zqt (g := (mkF m 38 #[.val (.int p1), .val (.int 12), .val (.ref (A 12)), .val (.int 0)] [(.ref (A 12))])) rfl (by rw [hml]; rfl) (Steps.refl _) (argsL := []) (rest := []) (lenOf own_pd6 rfl) rfl (by show 2 * 0 + _ ≤ _; exact Nat.le_of_eq rfl) (hb hby at_38) (fun _ _ => ⟨rfl, zbc, (by decide : 4 + 0 ≤ _), (by decide : 24 + 0 ≤ _)⟩)
    dsimp only [Pt.U, Pt.locs, Pt.cells, Pt.slots] at zg l348 y348 z348 zbe zbd
    replace zg := own_sub zg l348 y348 z348
    obtain ⟨rfl, zqu, zqv⟩ := zbd
    have zqw := Fr.app zqr zqu
    obtain ⟨fs, hr, hrun, hended, hEW⟩ := zg.leaveW (s := s) hS343 (by rw [zqv]; exact zqm) (v := some (.int 1)) (fun h => by rw [Bd.returns] at h; cases h)
    refine ⟨_, _, zqj _ ?_, hrun, hended, _, _, rfl, ?_, hEW.1, hEW.2.1, hEW.2.2.1, hEW.2.2.2.mono (by decide) (by decide)⟩
    · show own_Y p e below z38 m 23 #[.val (.int p1), .val (.int 12), .val (.ref (A 12)), .unset] [(.ref (A 12))] _
      refine zqn _ ?_
      show own_Y p e below zqk m 25 #[.val (.int p1), .val (.int 12), .val (.ref (A 12)), .unset] [(.ref sa343), (.ref (A 12))] _
      refine zbb.trans ?_
      show own_Y p e below zb9 m 28 #[.val (.int p1), .val (.int 12), .val (.ref (A 12)), .unset] [(.int 1)] _
      refine XS.ifYes z17.here hx rfl (pc0 := 28) (pc' := 35) rfl (hb hby at_28) rfl ((if0 _ _).trans (feq (by decide : ¬ ((1 : Int32) = (0 : Int32)))).2) (by decide) (by decide) ?_
      show own_Y p e below zb9 m 35 #[.val (.int p1), .val (.int 12), .val (.ref (A 12)), .unset] [] _
      refine XS.iconst z17.here hx rfl (hb hby at_35) ?_
      refine XS.istoreN z17.here hx rfl (hb hby at_36) rfl (l' := #[.val (.int p1), .val (.int 12), .val (.ref (A 12)), .val (.int 0)]) rfl ?_
      refine XS.aloadN z17.here hx rfl (hb hby at_37) rfl rfl ?_
      refine zbe.trans ?_
      show own_Y p e below z5t m 41 #[.val (.int p1), .val (.int 12), .val (.ref (A 12)), .val (.int 0)] [(.int 0)] _
      refine XS.iloadN zg.here hx rfl (hb hby at_41) rfl ?_
      refine XS.icmpNo zg.here hx rfl (hb hby at_42) rfl (teq (by decide : (0 : Int32) = (0 : Int32))).2 ?_
      show own_Y p e below z5t m 45 #[.val (.int p1), .val (.int 12), .val (.ref (A 12)), .val (.int 0)] [] _
      refine XS.iconst zg.here hx rfl (hb hby at_45) ?_
      refine XS.goto zg.here hx rfl (pc0 := 46) (pc' := 50) rfl (hb hby at_46) (by decide) (by decide) ?_
      exact retN zg hx (t := .boolean) Bd.returns (by simp) (hb hby at_50) hr
    · show LQ n0 _ z5t.heap _
      exact ⟨rfl, zqw, trivial⟩
  | 13, _, z0 =>
    obtain ⟨_, _, ⟨z5u, L349, z12r, n349⟩, -, z2a, ⟨Lc349, zbf, l349, y349, z349⟩, zbg⟩ := Jvm.LawKit.callS X0 hx (y := own_m5) hown (mvT hZ (own_W hw 1 rfl)) (mvT hZ (own_W hw 2 rfl)) (mvT hZ (own_W hw 3 rfl)) (mvT hZ (own_W hw 4 rfl)) (by decide) (backOf (W := 0) (rmPick l Z a0 hw [] h0 n0 p1 A K cs (13 : Int32) (A 13) EN ⟨13, by decide, rfl⟩ (congrArg A (by decide)) OL0) hZ (own_W hw 4 rfl) (own_W hw 3 rfl) (by decide) (by decide)) (g := (mkF m 9 #[.val (.int p1), .val (.int 13), .unset, .unset] [(.int 13)])) rfl (by rw [hml]; rfl) (argsL := [(.int 13)]) (rest := []) (lenOf own_pd0 rfl) rfl (by show 2 * 0 + _ ≤ _; exact Nat.le_of_eq rfl) (hb hby at_9) (fun _ _ => ⟨rfl, e0, (by decide : 0 + 0 ≤ _), (by decide : 0 + 0 ≤ _)⟩)
    dsimp only [Pt.U, Pt.locs, Pt.cells, Pt.slots] at z2a l349 y349 z349 zbg zbf
    replace z2a := own_sub z2a l349 y349 z349
    obtain ⟨rfl, zqx, zqy⟩ := zbf
    have zqz := Fr.app N0 zqx
    have zr0 : own_P p e below z5u m 14 #[.val (.int p1), .val (.int 13), .val (.ref (A 13)), .unset] [(.ref (A 13))] s₁ #[(.int p1)] maxLocals := fun t k => z2 t (by
      show own_Y p e below s₁ m 7 #[.val (.int p1), .unset, .unset, .unset] [(.int ((p1 &&& (2147483647 : Int32)) % 28))] _
      rw [z0]
      show own_Y p e below s₁ m 7 #[.val (.int p1), .unset, .unset, .unset] [(.int 13)] _
      refine XS.istoreN X0.here hx rfl (hb hby at_7) rfl (l' := #[.val (.int p1), .val (.int 13), .unset, .unset]) rfl ?_
      refine XS.iloadN X0.here hx rfl (hb hby at_8) rfl ?_
      refine zbg _ ?_
      show own_Y p e below z5u m 12 #[.val (.int p1), .val (.int 13), .unset, .unset] [(.ref (A 13))] _
      refine XS.astoreN z2a.here hx rfl (hb hby at_12) rfl rfl (l' := #[.val (.int p1), .val (.int 13), .val (.ref (A 13)), .unset]) rfl ?_
      refine XS.aloadN z2a.here hx rfl (hb hby at_13) rfl rfl ?_
      exact k)
    obtain ⟨sa351, zr1, zr2, kk351, sb351, kc351, zr3, zbh, zbi, hS351, zr4, hZ, hown, Es351, Cs351, Vs351, As351, la351, lb351, C351, -, -, zr5⟩ := ldcCH (s := s) z2a hx hZ hown (own_W hw 8 rfl) (own_strAtoms a0 Z hw) zqy hS0 z1 (own_EW a0 Z hw) (List.mem_of_getElem? (i := 3) rfl) H0 (vs := [(.int 48), (.int 48)]) (z := (2 : Int32)) ⟨by decide, by decide⟩ (by decide) (by decide) (g := (mkF m 14 #[.val (.int p1), .val (.int 13), .val (.ref (A 13)), .unset] [(.ref (A 13))])) rfl (hb hby at_14) (n := 8) (by decide) (by decide) (by decide) (by decide)
    have z5v := OL0.ext zbi
    have zr6 := KK0.ext zbi
    obtain ⟨cq352, kq352, zr7, z12s, zr8⟩ := isOf hZ zbh (EN.2.2.2.1.2.2.2.1.ext z5v.2)
    obtain ⟨_, _, ⟨z3a, L352, z12t, n352⟩, -, z2b, ⟨Lc352, zbj, l352, y352, z352⟩, zbk⟩ := zr3.virtualBack hx (y := own_m0) (z := own_m0) hown (mvT hZ (own_W hw 16 rfl)) (mvT hZ (own_W hw 17 rfl)) (notFace_of_selects (args := #[]) (mvT hZ (own_W hw 19 rfl))) (mvT hZ (own_W hw 19 rfl)) (mvT hZ (own_W hw 18 rfl)) (by decide) (backOf (W := 0) (rm53 l Z a0 hw [] zr2 n0 p1 A K cs (A 13) (13 : Int32) sb351 sa351 kc351 EN EN.2.2.2.1.2.2.2.1 EN.2.2.2.2.2.2.2.2.2.1.2.2.2.2.2.2.1 (by decide) z5v Es351 Vs351 As351 Cs351) hZ (own_W hw 20 rfl) (own_W hw 6 rfl) (by decide) (by decide)) zr7 zr8 (g := (mkF m 16 #[.val (.int p1), .val (.int 13), .val (.ref (A 13)), .unset] [(.ref sa351), (.ref (A 13))])) rfl (by rw [hml]; rfl) (Steps.refl _) (argsL := [(.ref sa351)]) (rest := []) (lenOf own_pd5 rfl) rfl (by show 2 * 0 + _ ≤ _; exact Nat.le_of_eq rfl) (hb hby at_16) (fun _ _ => ⟨rfl, zbh, (by decide : 2 + 0 ≤ _), (by decide : 12 + 0 ≤ _)⟩)
    dsimp only [Pt.U, Pt.locs, Pt.cells, Pt.slots] at z2b l352 y352 z352 zbk zbj
    replace z2b := own_sub z2b l352 y352 z352
    obtain ⟨rfl, zr9, zra⟩ := zbj
    have zrb := Fr.app zqz zr9
    have zrc : own_P p e below z3a m 23 #[.val (.int p1), .val (.int 13), .val (.ref (A 13)), .unset] [(.ref (A 13))] s₁ #[(.int p1)] maxLocals := fun t k => zr0 t (by
      show own_Y p e below z5u m 14 #[.val (.int p1), .val (.int 13), .val (.ref (A 13)), .unset] [(.ref (A 13))] _
      refine zr5 _ ?_
      show own_Y p e below zr1 m 16 #[.val (.int p1), .val (.int 13), .val (.ref (A 13)), .unset] [(.ref sa351), (.ref (A 13))] _
      refine zbk.trans ?_
      show own_Y p e below z3a m 19 #[.val (.int p1), .val (.int 13), .val (.ref (A 13)), .unset] [(.int 1)] _
      refine XS.ifNo z2b.here hx rfl (hb hby at_19) rfl ((if0 _ _).trans (feq (by decide : ¬ ((1 : Int32) = (0 : Int32)))).1) ?_
      show own_Y p e below z3a m 22 #[.val (.int p1), .val (.int 13), .val (.ref (A 13)), .unset] [] _
      refine XS.aloadN z2b.here hx rfl (hb hby at_22) rfl rfl ?_
      exact k)
    obtain ⟨sa354, zrd, zbl, kk354, sb354, kc354, zre, zbm, zbn, hS354, zrf, hZ, hown, Es354, Cs354, Vs354, As354, la354, lb354, C354, -, -, zrg⟩ := ldcCH (s := s) z2b hx hZ hown (own_W hw 87 rfl) (own_strAtoms a0 Z hw) zra hS351 zr4 (own_EW a0 Z hw) (List.mem_of_getElem? (i := 4) rfl) C351.1 (vs := [(.int 45), (.int 48)]) (z := (2 : Int32)) ⟨by decide, by decide⟩ (by decide) (by decide) (g := (mkF m 23 #[.val (.int p1), .val (.int 13), .val (.ref (A 13)), .unset] [(.ref (A 13))])) rfl (hb hby at_23) (n := 8) (by decide) (by decide) (by decide) (by decide)
    have z3b := z5v.ext zbn
    have z12u := zr6.ext zbn
    obtain ⟨cq355, kq355, zrh, z12v, zri⟩ := isOf hZ zbm (EN.2.2.2.1.2.2.2.1.ext z3b.2)
    obtain ⟨_, _, ⟨zbo, L355, z12w, n355⟩, -, z18, ⟨Lc355, zbp, l355, y355, z355⟩, zbq⟩ := zre.virtualBack hx (y := own_m0) (z := own_m0) hown (mvT hZ (own_W hw 16 rfl)) (mvT hZ (own_W hw 17 rfl)) (notFace_of_selects (args := #[]) (mvT hZ (own_W hw 19 rfl))) (mvT hZ (own_W hw 19 rfl)) (mvT hZ (own_W hw 18 rfl)) (by decide) (backOf (W := 0) (rm54 l Z a0 hw [] zbl n0 p1 A K cs (A 13) (13 : Int32) sb354 sa354 kc354 EN EN.2.2.2.1.2.2.2.1 EN.2.2.2.2.2.2.2.2.2.1.2.2.2.2.2.2.1 (by decide) z3b Es354 Vs354 As354 Cs354) hZ (own_W hw 20 rfl) (own_W hw 6 rfl) (by decide) (by decide)) zrh zri (g := (mkF m 25 #[.val (.int p1), .val (.int 13), .val (.ref (A 13)), .unset] [(.ref sa354), (.ref (A 13))])) rfl (by rw [hml]; rfl) (Steps.refl _) (argsL := [(.ref sa354)]) (rest := []) (lenOf own_pd5 rfl) rfl (by show 2 * 0 + _ ≤ _; exact Nat.le_of_eq rfl) (hb hby at_25) (fun _ _ => ⟨rfl, zbm, (by decide : 4 + 0 ≤ _), (by decide : 24 + 0 ≤ _)⟩)
    dsimp only [Pt.U, Pt.locs, Pt.cells, Pt.slots] at z18 l355 y355 z355 zbq zbp
    replace z18 := own_sub z18 l355 y355 z355
    obtain ⟨rfl, zrj, zbr⟩ := zbp
    have zrk := Fr.app zrb zrj
    obtain ⟨cq356, kq356, zrl, z12x, zrm⟩ := isOf hZ zbr (EN.2.2.2.1.2.2.2.1.ext z3b.2)
    obtain ⟨_, _, ⟨z5w, L356, z12y, n356⟩, -, zh, ⟨Lc356, zbs, l356, y356, z356⟩, zbt⟩ := z18.virtualBack hx (y := own_m2) (z := own_m2) hown (mvT hZ (own_W hw 88 rfl)) (mvT hZ (own_W hw 89 rfl)) (notFace_of_selects (args := #[]) (mvT hZ (own_W hw 91 rfl))) (mvT hZ (own_W hw 91 rfl)) (mvT hZ (own_W hw 90 rfl)) (by decide) (backOf (W := 0) (rm30 l Z a0 hw [] zbl n0 p1 A K cs (A 13) (13 : Int32) EN EN.2.2.2.1.2.2.2.1 EN.2.2.2.2.2.2.2.2.2.1.2.2.2.2.2.2.1 (Fld.ne EN.2.2.2.2.2.2.2.2.2.1.2.2.2.2.2.2.1 EN.2.2.2.2.2.2.2.1.2.2.2.2.1 (fun h => by injection h with h; exact absurd h (by decide))) z3b) hZ (own_W hw 92 rfl) (own_W hw 6 rfl) (by decide) (by decide)) zrl zrm (g := (mkF m 38 #[.val (.int p1), .val (.int 13), .val (.ref (A 13)), .val (.int 0)] [(.ref (A 13))])) rfl (by rw [hml]; rfl) (Steps.refl _) (argsL := []) (rest := []) (lenOf own_pd6 rfl) rfl (by show 2 * 0 + _ ≤ _; exact Nat.le_of_eq rfl) (hb hby at_38) (fun _ _ => ⟨rfl, zbr, (by decide : 4 + 0 ≤ _), (by decide : 24 + 0 ≤ _)⟩)
    dsimp only [Pt.U, Pt.locs, Pt.cells, Pt.slots] at zh l356 y356 z356 zbt zbs
    replace zh := own_sub zh l356 y356 z356
    obtain ⟨rfl, zrn, zro⟩ := zbs
    have zrp := Fr.app zrk zrn
    obtain ⟨fs, hr, hrun, hended, hEW⟩ := zh.leaveW (s := s) hS354 (by rw [zro]; exact zrf) (v := some (.int 1)) (fun h => by rw [Bd.returns] at h; cases h)
    refine ⟨_, _, zrc _ ?_, hrun, hended, _, _, rfl, ?_, hEW.1, hEW.2.1, hEW.2.2.1, hEW.2.2.2.mono (by decide) (by decide)⟩
    · show own_Y p e below z3a m 23 #[.val (.int p1), .val (.int 13), .val (.ref (A 13)), .unset] [(.ref (A 13))] _
      refine zrg _ ?_
      show own_Y p e below zrd m 25 #[.val (.int p1), .val (.int 13), .val (.ref (A 13)), .unset] [(.ref sa354), (.ref (A 13))] _
      refine zbq.trans ?_
      show own_Y p e below zbo m 28 #[.val (.int p1), .val (.int 13), .val (.ref (A 13)), .unset] [(.int 1)] _
      refine XS.ifYes z18.here hx rfl (pc0 := 28) (pc' := 35) rfl (hb hby at_28) rfl ((if0 _ _).trans (feq (by decide : ¬ ((1 : Int32) = (0 : Int32)))).2) (by decide) (by decide) ?_
      show own_Y p e below zbo m 35 #[.val (.int p1), .val (.int 13), .val (.ref (A 13)), .unset] [] _
      refine XS.iconst z18.here hx rfl (hb hby at_35) ?_
      refine XS.istoreN z18.here hx rfl (hb hby at_36) rfl (l' := #[.val (.int p1), .val (.int 13), .val (.ref (A 13)), .val (.int 0)]) rfl ?_
      refine XS.aloadN z18.here hx rfl (hb hby at_37) rfl rfl ?_
      refine zbt.trans ?_
      show own_Y p e below z5w m 41 #[.val (.int p1), .val (.int 13), .val (.ref (A 13)), .val (.int 0)] [(.int 0)] _
      refine XS.iloadN zh.here hx rfl (hb hby at_41) rfl ?_
      refine XS.icmpNo zh.here hx rfl (hb hby at_42) rfl (teq (by decide : (0 : Int32) = (0 : Int32))).2 ?_
      show own_Y p e below z5w m 45 #[.val (.int p1), .val (.int 13), .val (.ref (A 13)), .val (.int 0)] [] _
      refine XS.iconst zh.here hx rfl (hb hby at_45) ?_
      refine XS.goto zh.here hx rfl (pc0 := 46) (pc' := 50) rfl (hb hby at_46) (by decide) (by decide) ?_
      exact retN zh hx (t := .boolean) Bd.returns (by simp) (hb hby at_50) hr
    · show LQ n0 _ z5w.heap _
      exact ⟨rfl, zrp, trivial⟩
  | 14, _, z0 =>
    obtain ⟨_, _, ⟨z5x, L357, z12z, n357⟩, -, z2c, ⟨Lc357, zbu, l357, y357, z357⟩, zbv⟩ := Jvm.LawKit.callS X0 hx (y := own_m5) hown (mvT hZ (own_W hw 1 rfl)) (mvT hZ (own_W hw 2 rfl)) (mvT hZ (own_W hw 3 rfl)) (mvT hZ (own_W hw 4 rfl)) (by decide) (backOf (W := 0) (rmPick l Z a0 hw [] h0 n0 p1 A K cs (14 : Int32) (A 14) EN ⟨14, by decide, rfl⟩ (congrArg A (by decide)) OL0) hZ (own_W hw 4 rfl) (own_W hw 3 rfl) (by decide) (by decide)) (g := (mkF m 9 #[.val (.int p1), .val (.int 14), .unset, .unset] [(.int 14)])) rfl (by rw [hml]; rfl) (argsL := [(.int 14)]) (rest := []) (lenOf own_pd0 rfl) rfl (by show 2 * 0 + _ ≤ _; exact Nat.le_of_eq rfl) (hb hby at_9) (fun _ _ => ⟨rfl, e0, (by decide : 0 + 0 ≤ _), (by decide : 0 + 0 ≤ _)⟩)
    dsimp only [Pt.U, Pt.locs, Pt.cells, Pt.slots] at z2c l357 y357 z357 zbv zbu
    replace z2c := own_sub z2c l357 y357 z357
    obtain ⟨rfl, zrq, zrr⟩ := zbu
    have zrs := Fr.app N0 zrq
    have zrt : own_P p e below z5x m 14 #[.val (.int p1), .val (.int 14), .val (.ref (A 14)), .unset] [(.ref (A 14))] s₁ #[(.int p1)] maxLocals := fun t k => z2 t (by
      show own_Y p e below s₁ m 7 #[.val (.int p1), .unset, .unset, .unset] [(.int ((p1 &&& (2147483647 : Int32)) % 28))] _
      rw [z0]
      show own_Y p e below s₁ m 7 #[.val (.int p1), .unset, .unset, .unset] [(.int 14)] _
      refine XS.istoreN X0.here hx rfl (hb hby at_7) rfl (l' := #[.val (.int p1), .val (.int 14), .unset, .unset]) rfl ?_
      refine XS.iloadN X0.here hx rfl (hb hby at_8) rfl ?_
      refine zbv _ ?_
      show own_Y p e below z5x m 12 #[.val (.int p1), .val (.int 14), .unset, .unset] [(.ref (A 14))] _
      refine XS.astoreN z2c.here hx rfl (hb hby at_12) rfl rfl (l' := #[.val (.int p1), .val (.int 14), .val (.ref (A 14)), .unset]) rfl ?_
      refine XS.aloadN z2c.here hx rfl (hb hby at_13) rfl rfl ?_
      exact k)
    obtain ⟨sa359, zru, zrv, kk359, sb359, kc359, zrw, zbw, zbx, hS359, zrx, hZ, hown, Es359, Cs359, Vs359, As359, la359, lb359, C359, -, -, zry⟩ := ldcCH (s := s) z2c hx hZ hown (own_W hw 8 rfl) (own_strAtoms a0 Z hw) zrr hS0 z1 (own_EW a0 Z hw) (List.mem_of_getElem? (i := 3) rfl) H0 (vs := [(.int 48), (.int 48)]) (z := (2 : Int32)) ⟨by decide, by decide⟩ (by decide) (by decide) (g := (mkF m 14 #[.val (.int p1), .val (.int 14), .val (.ref (A 14)), .unset] [(.ref (A 14))])) rfl (hb hby at_14) (n := 8) (by decide) (by decide) (by decide) (by decide)
    have z5y := OL0.ext zbx
    have zrz := KK0.ext zbx
    obtain ⟨cq360, kq360, zs0, z130, zs1⟩ := isOf hZ zbw (EN.2.2.2.1.2.2.2.2.2.1.ext z5y.2)
    obtain ⟨_, _, ⟨z3c, L360, z131, n360⟩, -, z2d, ⟨Lc360, zby, l360, y360, z360⟩, zbz⟩ := zrw.virtualBack hx (y := own_m0) (z := own_m0) hown (mvT hZ (own_W hw 16 rfl)) (mvT hZ (own_W hw 17 rfl)) (notFace_of_selects (args := #[]) (mvT hZ (own_W hw 19 rfl))) (mvT hZ (own_W hw 19 rfl)) (mvT hZ (own_W hw 18 rfl)) (by decide) (backOf (W := 0) (rm53 l Z a0 hw [] zrv n0 p1 A K cs (A 14) (14 : Int32) sb359 sa359 kc359 EN EN.2.2.2.1.2.2.2.2.2.1 EN.2.2.2.2.2.2.2.2.2.2.1.2.2.1 (by decide) z5y Es359 Vs359 As359 Cs359) hZ (own_W hw 20 rfl) (own_W hw 6 rfl) (by decide) (by decide)) zs0 zs1 (g := (mkF m 16 #[.val (.int p1), .val (.int 14), .val (.ref (A 14)), .unset] [(.ref sa359), (.ref (A 14))])) rfl (by rw [hml]; rfl) (Steps.refl _) (argsL := [(.ref sa359)]) (rest := []) (lenOf own_pd5 rfl) rfl (by show 2 * 0 + _ ≤ _; exact Nat.le_of_eq rfl) (hb hby at_16) (fun _ _ => ⟨rfl, zbw, (by decide : 2 + 0 ≤ _), (by decide : 12 + 0 ≤ _)⟩)
    dsimp only [Pt.U, Pt.locs, Pt.cells, Pt.slots] at z2d l360 y360 z360 zbz zby
    replace z2d := own_sub z2d l360 y360 z360
    obtain ⟨rfl, zs2, zs3⟩ := zby
    have zs4 := Fr.app zrs zs2
    have zs5 : own_P p e below z3c m 23 #[.val (.int p1), .val (.int 14), .val (.ref (A 14)), .unset] [(.ref (A 14))] s₁ #[(.int p1)] maxLocals := fun t k => zrt t (by
      show own_Y p e below z5x m 14 #[.val (.int p1), .val (.int 14), .val (.ref (A 14)), .unset] [(.ref (A 14))] _
      refine zry _ ?_
      show own_Y p e below zru m 16 #[.val (.int p1), .val (.int 14), .val (.ref (A 14)), .unset] [(.ref sa359), (.ref (A 14))] _
      refine zbz.trans ?_
      show own_Y p e below z3c m 19 #[.val (.int p1), .val (.int 14), .val (.ref (A 14)), .unset] [(.int 1)] _
      refine XS.ifNo z2d.here hx rfl (hb hby at_19) rfl ((if0 _ _).trans (feq (by decide : ¬ ((1 : Int32) = (0 : Int32)))).1) ?_
      show own_Y p e below z3c m 22 #[.val (.int p1), .val (.int 14), .val (.ref (A 14)), .unset] [] _
      refine XS.aloadN z2d.here hx rfl (hb hby at_22) rfl rfl ?_
      exact k)
    obtain ⟨sa362, zs6, zc0, kk362, sb362, kc362, zs7, zc1, zc2, hS362, zs8, hZ, hown, Es362, Cs362, Vs362, As362, la362, lb362, C362, -, -, zs9⟩ := ldcCH (s := s) z2d hx hZ hown (own_W hw 87 rfl) (own_strAtoms a0 Z hw) zs3 hS359 zrx (own_EW a0 Z hw) (List.mem_of_getElem? (i := 4) rfl) C359.1 (vs := [(.int 45), (.int 48)]) (z := (2 : Int32)) ⟨by decide, by decide⟩ (by decide) (by decide) (g := (mkF m 23 #[.val (.int p1), .val (.int 14), .val (.ref (A 14)), .unset] [(.ref (A 14))])) rfl (hb hby at_23) (n := 8) (by decide) (by decide) (by decide) (by decide)
    have z3d := z5y.ext zc2
    have z132 := zrz.ext zc2
    obtain ⟨cq363, kq363, zsa, z133, zsb⟩ := isOf hZ zc1 (EN.2.2.2.1.2.2.2.2.2.1.ext z3d.2)
    obtain ⟨_, _, ⟨zc3, L363, z134, n363⟩, -, z19, ⟨Lc363, zc4, l363, y363, z363⟩, zc5⟩ := zs7.virtualBack hx (y := own_m0) (z := own_m0) hown (mvT hZ (own_W hw 16 rfl)) (mvT hZ (own_W hw 17 rfl)) (notFace_of_selects (args := #[]) (mvT hZ (own_W hw 19 rfl))) (mvT hZ (own_W hw 19 rfl)) (mvT hZ (own_W hw 18 rfl)) (by decide) (backOf (W := 0) (rm54 l Z a0 hw [] zc0 n0 p1 A K cs (A 14) (14 : Int32) sb362 sa362 kc362 EN EN.2.2.2.1.2.2.2.2.2.1 EN.2.2.2.2.2.2.2.2.2.2.1.2.2.1 (by decide) z3d Es362 Vs362 As362 Cs362) hZ (own_W hw 20 rfl) (own_W hw 6 rfl) (by decide) (by decide)) zsa zsb (g := (mkF m 25 #[.val (.int p1), .val (.int 14), .val (.ref (A 14)), .unset] [(.ref sa362), (.ref (A 14))])) rfl (by rw [hml]; rfl) (Steps.refl _) (argsL := [(.ref sa362)]) (rest := []) (lenOf own_pd5 rfl) rfl (by show 2 * 0 + _ ≤ _; exact Nat.le_of_eq rfl) (hb hby at_25) (fun _ _ => ⟨rfl, zc1, (by decide : 4 + 0 ≤ _), (by decide : 24 + 0 ≤ _)⟩)
    dsimp only [Pt.U, Pt.locs, Pt.cells, Pt.slots] at z19 l363 y363 z363 zc5 zc4
    replace z19 := own_sub z19 l363 y363 z363
    obtain ⟨rfl, zsc, zc6⟩ := zc4
    have zsd := Fr.app zs4 zsc
    obtain ⟨cq364, kq364, zse, z135, zsf⟩ := isOf hZ zc6 (EN.2.2.2.1.2.2.2.2.2.1.ext z3d.2)
    obtain ⟨_, _, ⟨z5z, L364, z136, n364⟩, -, zi, ⟨Lc364, zc7, l364, y364, z364⟩, zc8⟩ := z19.virtualBack hx (y := own_m2) (z := own_m2) hown (mvT hZ (own_W hw 88 rfl)) (mvT hZ (own_W hw 89 rfl)) (notFace_of_selects (args := #[]) (mvT hZ (own_W hw 91 rfl))) (mvT hZ (own_W hw 91 rfl)) (mvT hZ (own_W hw 90 rfl)) (by decide) (backOf (W := 0) (rm30 l Z a0 hw [] zc0 n0 p1 A K cs (A 14) (14 : Int32) EN EN.2.2.2.1.2.2.2.2.2.1 EN.2.2.2.2.2.2.2.2.2.2.1.2.2.1 (Fld.ne EN.2.2.2.2.2.2.2.2.2.2.1.2.2.1 EN.2.2.2.2.2.2.2.1.2.2.2.2.1 (fun h => by injection h with h; exact absurd h (by decide))) z3d) hZ (own_W hw 92 rfl) (own_W hw 6 rfl) (by decide) (by decide)) zse zsf (g := (mkF m 38 #[.val (.int p1), .val (.int 14), .val (.ref (A 14)), .val (.int 0)] [(.ref (A 14))])) rfl (by rw [hml]; rfl) (Steps.refl _) (argsL := []) (rest := []) (lenOf own_pd6 rfl) rfl (by show 2 * 0 + _ ≤ _; exact Nat.le_of_eq rfl) (hb hby at_38) (fun _ _ => ⟨rfl, zc6, (by decide : 4 + 0 ≤ _), (by decide : 24 + 0 ≤ _)⟩)
    dsimp only [Pt.U, Pt.locs, Pt.cells, Pt.slots] at zi l364 y364 z364 zc8 zc7
    replace zi := own_sub zi l364 y364 z364
    obtain ⟨rfl, zsg, zsh⟩ := zc7
    have zsi := Fr.app zsd zsg
    obtain ⟨fs, hr, hrun, hended, hEW⟩ := zi.leaveW (s := s) hS362 (by rw [zsh]; exact zs8) (v := some (.int 1)) (fun h => by rw [Bd.returns] at h; cases h)
    refine ⟨_, _, zs5 _ ?_, hrun, hended, _, _, rfl, ?_, hEW.1, hEW.2.1, hEW.2.2.1, hEW.2.2.2.mono (by decide) (by decide)⟩
    · show own_Y p e below z3c m 23 #[.val (.int p1), .val (.int 14), .val (.ref (A 14)), .unset] [(.ref (A 14))] _
      refine zs9 _ ?_
      show own_Y p e below zs6 m 25 #[.val (.int p1), .val (.int 14), .val (.ref (A 14)), .unset] [(.ref sa362), (.ref (A 14))] _
      refine zc5.trans ?_
      show own_Y p e below zc3 m 28 #[.val (.int p1), .val (.int 14), .val (.ref (A 14)), .unset] [(.int 1)] _
      refine XS.ifYes z19.here hx rfl (pc0 := 28) (pc' := 35) rfl (hb hby at_28) rfl ((if0 _ _).trans (feq (by decide : ¬ ((1 : Int32) = (0 : Int32)))).2) (by decide) (by decide) ?_
      show own_Y p e below zc3 m 35 #[.val (.int p1), .val (.int 14), .val (.ref (A 14)), .unset] [] _
      refine XS.iconst z19.here hx rfl (hb hby at_35) ?_
      refine XS.istoreN z19.here hx rfl (hb hby at_36) rfl (l' := #[.val (.int p1), .val (.int 14), .val (.ref (A 14)), .val (.int 0)]) rfl ?_
      refine XS.aloadN z19.here hx rfl (hb hby at_37) rfl rfl ?_
      refine zc8.trans ?_
      show own_Y p e below z5z m 41 #[.val (.int p1), .val (.int 14), .val (.ref (A 14)), .val (.int 0)] [(.int 0)] _
      refine XS.iloadN zi.here hx rfl (hb hby at_41) rfl ?_
      refine XS.icmpNo zi.here hx rfl (hb hby at_42) rfl (teq (by decide : (0 : Int32) = (0 : Int32))).2 ?_
      show own_Y p e below z5z m 45 #[.val (.int p1), .val (.int 14), .val (.ref (A 14)), .val (.int 0)] [] _
      refine XS.iconst zi.here hx rfl (hb hby at_45) ?_
      refine XS.goto zi.here hx rfl (pc0 := 46) (pc' := 50) rfl (hb hby at_46) (by decide) (by decide) ?_
      exact retN zi hx (t := .boolean) Bd.returns (by simp) (hb hby at_50) hr
    · show LQ n0 _ z5z.heap _
      exact ⟨rfl, zsi, trivial⟩
  | 15, _, z0 =>
    obtain ⟨_, _, ⟨z60, L365, z137, n365⟩, -, z2e, ⟨Lc365, zc9, l365, y365, z365⟩, zca⟩ := Jvm.LawKit.callS X0 hx (y := own_m5) hown (mvT hZ (own_W hw 1 rfl)) (mvT hZ (own_W hw 2 rfl)) (mvT hZ (own_W hw 3 rfl)) (mvT hZ (own_W hw 4 rfl)) (by decide) (backOf (W := 0) (rmPick l Z a0 hw [] h0 n0 p1 A K cs (15 : Int32) (A 15) EN ⟨15, by decide, rfl⟩ (congrArg A (by decide)) OL0) hZ (own_W hw 4 rfl) (own_W hw 3 rfl) (by decide) (by decide)) (g := (mkF m 9 #[.val (.int p1), .val (.int 15), .unset, .unset] [(.int 15)])) rfl (by rw [hml]; rfl) (argsL := [(.int 15)]) (rest := []) (lenOf own_pd0 rfl) rfl (by show 2 * 0 + _ ≤ _; exact Nat.le_of_eq rfl) (hb hby at_9) (fun _ _ => ⟨rfl, e0, (by decide : 0 + 0 ≤ _), (by decide : 0 + 0 ≤ _)⟩)
    dsimp only [Pt.U, Pt.locs, Pt.cells, Pt.slots] at z2e l365 y365 z365 zca zc9
    replace z2e := own_sub z2e l365 y365 z365
    obtain ⟨rfl, zsj, zsk⟩ := zc9
    have zsl := Fr.app N0 zsj
    have zsm : own_P p e below z60 m 14 #[.val (.int p1), .val (.int 15), .val (.ref (A 15)), .unset] [(.ref (A 15))] s₁ #[(.int p1)] maxLocals := fun t k => z2 t (by
      show own_Y p e below s₁ m 7 #[.val (.int p1), .unset, .unset, .unset] [(.int ((p1 &&& (2147483647 : Int32)) % 28))] _
      rw [z0]
      show own_Y p e below s₁ m 7 #[.val (.int p1), .unset, .unset, .unset] [(.int 15)] _
      refine XS.istoreN X0.here hx rfl (hb hby at_7) rfl (l' := #[.val (.int p1), .val (.int 15), .unset, .unset]) rfl ?_
      refine XS.iloadN X0.here hx rfl (hb hby at_8) rfl ?_
      refine zca _ ?_
      show own_Y p e below z60 m 12 #[.val (.int p1), .val (.int 15), .unset, .unset] [(.ref (A 15))] _
      refine XS.astoreN z2e.here hx rfl (hb hby at_12) rfl rfl (l' := #[.val (.int p1), .val (.int 15), .val (.ref (A 15)), .unset]) rfl ?_
      refine XS.aloadN z2e.here hx rfl (hb hby at_13) rfl rfl ?_
      exact k)
    obtain ⟨sa367, zsn, zcb, kk367, sb367, kc367, zso, zcc, zcd, hS367, zsp, hZ, hown, Es367, Cs367, Vs367, As367, la367, lb367, C367, -, -, zsq⟩ := ldcCH (s := s) z2e hx hZ hown (own_W hw 8 rfl) (own_strAtoms a0 Z hw) zsk hS0 z1 (own_EW a0 Z hw) (List.mem_of_getElem? (i := 3) rfl) H0 (vs := [(.int 48), (.int 48)]) (z := (2 : Int32)) ⟨by decide, by decide⟩ (by decide) (by decide) (g := (mkF m 14 #[.val (.int p1), .val (.int 15), .val (.ref (A 15)), .unset] [(.ref (A 15))])) rfl (hb hby at_14) (n := 8) (by decide) (by decide) (by decide) (by decide)
    have z3e := OL0.ext zcd
    have z138 := KK0.ext zcd
    obtain ⟨cq376, kq376, zsr, z139, zss⟩ := isOf hZ zcc (EN.2.2.2.1.2.2.2.2.2.2.2.1.ext z3e.2)
    obtain ⟨_, _, ⟨zce, L376, z13a, n376⟩, -, z1a, ⟨Lc376, zcf, l376, y376, z376⟩, zcg⟩ := zso.virtualBack hx (y := own_m0) (z := own_m0) hown (mvT hZ (own_W hw 16 rfl)) (mvT hZ (own_W hw 17 rfl)) (notFace_of_selects (args := #[]) (mvT hZ (own_W hw 19 rfl))) (mvT hZ (own_W hw 19 rfl)) (mvT hZ (own_W hw 18 rfl)) (by decide) (backOf (W := 0) (rm55 l Z a0 hw [] zcb n0 p1 A K cs (A 15) (15 : Int32) sb367 sa367 kc367 EN EN.2.2.2.1.2.2.2.2.2.2.2.1 EN.2.2.2.2.2.2.2.2.2.1.2.2.1 (by decide) z3e Es367 Vs367 As367 Cs367) hZ (own_W hw 20 rfl) (own_W hw 6 rfl) (by decide) (by decide)) zsr zss (g := (mkF m 16 #[.val (.int p1), .val (.int 15), .val (.ref (A 15)), .unset] [(.ref sa367), (.ref (A 15))])) rfl (by rw [hml]; rfl) (Steps.refl _) (argsL := [(.ref sa367)]) (rest := []) (lenOf own_pd5 rfl) rfl (by show 2 * 0 + _ ≤ _; exact Nat.le_of_eq rfl) (hb hby at_16) (fun _ _ => ⟨rfl, zcc, (by decide : 2 + 0 ≤ _), (by decide : 12 + 0 ≤ _)⟩)
    dsimp only [Pt.U, Pt.locs, Pt.cells, Pt.slots] at z1a l376 y376 z376 zcg zcf
    replace z1a := own_sub z1a l376 y376 z376
    obtain ⟨rfl, zst, zch⟩ := zcf
    have zsu := Fr.app zsl zst
    obtain ⟨cq377, kq377, zsv, z13b, zsw⟩ := isOf hZ zch (EN.2.2.2.1.2.2.2.2.2.2.2.1.ext z3e.2)
    obtain ⟨_, _, ⟨z61, L377, z13c, n377⟩, -, zj, ⟨Lc377, zci, l377, y377, z377⟩, zcj⟩ := z1a.virtualBack hx (y := own_m2) (z := own_m2) hown (mvT hZ (own_W hw 88 rfl)) (mvT hZ (own_W hw 89 rfl)) (notFace_of_selects (args := #[]) (mvT hZ (own_W hw 91 rfl))) (mvT hZ (own_W hw 91 rfl)) (mvT hZ (own_W hw 90 rfl)) (by decide) (backOf (W := 0) (rm30 l Z a0 hw [] zcb n0 p1 A K cs (A 15) (15 : Int32) EN EN.2.2.2.1.2.2.2.2.2.2.2.1 EN.2.2.2.2.2.2.2.2.2.1.2.2.1 (Fld.ne EN.2.2.2.2.2.2.2.2.2.1.2.2.1 EN.2.2.2.2.2.2.2.1.2.2.2.2.1 (fun h => by injection h with h; exact absurd h (by decide))) z3e) hZ (own_W hw 92 rfl) (own_W hw 6 rfl) (by decide) (by decide)) zsv zsw (g := (mkF m 38 #[.val (.int p1), .val (.int 15), .val (.ref (A 15)), .val (.int 0)] [(.ref (A 15))])) rfl (by rw [hml]; rfl) (Steps.refl _) (argsL := []) (rest := []) (lenOf own_pd6 rfl) rfl (by show 2 * 0 + _ ≤ _; exact Nat.le_of_eq rfl) (hb hby at_38) (fun _ _ => ⟨rfl, zch, (by decide : 2 + 0 ≤ _), (by decide : 12 + 0 ≤ _)⟩)
    dsimp only [Pt.U, Pt.locs, Pt.cells, Pt.slots] at zj l377 y377 z377 zcj zci
    replace zj := own_sub zj l377 y377 z377
    obtain ⟨rfl, zsx, zsy⟩ := zci
    have zsz := Fr.app zsu zsx
    obtain ⟨fs, hr, hrun, hended, hEW⟩ := zj.leaveW (s := s) hS367 (by rw [zsy]; exact zsp) (v := some (.int 1)) (fun h => by rw [Bd.returns] at h; cases h)
    refine ⟨_, _, zsm _ ?_, hrun, hended, _, _, rfl, ?_, hEW.1, hEW.2.1, hEW.2.2.1, hEW.2.2.2.mono (by decide) (by decide)⟩
    · show own_Y p e below z60 m 14 #[.val (.int p1), .val (.int 15), .val (.ref (A 15)), .unset] [(.ref (A 15))] _
      refine zsq _ ?_
      show own_Y p e below zsn m 16 #[.val (.int p1), .val (.int 15), .val (.ref (A 15)), .unset] [(.ref sa367), (.ref (A 15))] _
      refine zcg.trans ?_
      show own_Y p e below zce m 19 #[.val (.int p1), .val (.int 15), .val (.ref (A 15)), .unset] [(.int 0)] _
      refine XS.ifYes z1a.here hx rfl (pc0 := 19) (pc' := 35) rfl (hb hby at_19) rfl ((if0 _ _).trans (teq (by decide : (0 : Int32) = (0 : Int32))).1) (by decide) (by decide) ?_
      show own_Y p e below zce m 35 #[.val (.int p1), .val (.int 15), .val (.ref (A 15)), .unset] [] _
      refine XS.iconst z1a.here hx rfl (hb hby at_35) ?_
      refine XS.istoreN z1a.here hx rfl (hb hby at_36) rfl (l' := #[.val (.int p1), .val (.int 15), .val (.ref (A 15)), .val (.int 0)]) rfl ?_
      refine XS.aloadN z1a.here hx rfl (hb hby at_37) rfl rfl ?_
      refine zcj.trans ?_
      show own_Y p e below z61 m 41 #[.val (.int p1), .val (.int 15), .val (.ref (A 15)), .val (.int 0)] [(.int 0)] _
      refine XS.iloadN zj.here hx rfl (hb hby at_41) rfl ?_
      refine XS.icmpNo zj.here hx rfl (hb hby at_42) rfl (teq (by decide : (0 : Int32) = (0 : Int32))).2 ?_
      show own_Y p e below z61 m 45 #[.val (.int p1), .val (.int 15), .val (.ref (A 15)), .val (.int 0)] [] _
      refine XS.iconst zj.here hx rfl (hb hby at_45) ?_
      refine XS.goto zj.here hx rfl (pc0 := 46) (pc' := 50) rfl (hb hby at_46) (by decide) (by decide) ?_
      exact retN zj hx (t := .boolean) Bd.returns (by simp) (hb hby at_50) hr
    · show LQ n0 _ z61.heap _
      exact ⟨rfl, zsz, trivial⟩
  | 16, _, z0 =>
    obtain ⟨_, _, ⟨z62, L378, z13d, n378⟩, -, z2f, ⟨Lc378, zck, l378, y378, z378⟩, zcl⟩ := Jvm.LawKit.callS X0 hx (y := own_m5) hown (mvT hZ (own_W hw 1 rfl)) (mvT hZ (own_W hw 2 rfl)) (mvT hZ (own_W hw 3 rfl)) (mvT hZ (own_W hw 4 rfl)) (by decide) (backOf (W := 0) (rmPick l Z a0 hw [] h0 n0 p1 A K cs (16 : Int32) (A 16) EN ⟨16, by decide, rfl⟩ (congrArg A (by decide)) OL0) hZ (own_W hw 4 rfl) (own_W hw 3 rfl) (by decide) (by decide)) (g := (mkF m 9 #[.val (.int p1), .val (.int 16), .unset, .unset] [(.int 16)])) rfl (by rw [hml]; rfl) (argsL := [(.int 16)]) (rest := []) (lenOf own_pd0 rfl) rfl (by show 2 * 0 + _ ≤ _; exact Nat.le_of_eq rfl) (hb hby at_9) (fun _ _ => ⟨rfl, e0, (by decide : 0 + 0 ≤ _), (by decide : 0 + 0 ≤ _)⟩)
    dsimp only [Pt.U, Pt.locs, Pt.cells, Pt.slots] at z2f l378 y378 z378 zcl zck
    replace z2f := own_sub z2f l378 y378 z378
    obtain ⟨rfl, zt0, zt1⟩ := zck
    have zt2 := Fr.app N0 zt0
    have zt3 : own_P p e below z62 m 14 #[.val (.int p1), .val (.int 16), .val (.ref (A 16)), .unset] [(.ref (A 16))] s₁ #[(.int p1)] maxLocals := fun t k => z2 t (by
      show own_Y p e below s₁ m 7 #[.val (.int p1), .unset, .unset, .unset] [(.int ((p1 &&& (2147483647 : Int32)) % 28))] _
      rw [z0]
      show own_Y p e below s₁ m 7 #[.val (.int p1), .unset, .unset, .unset] [(.int 16)] _
      refine XS.istoreN X0.here hx rfl (hb hby at_7) rfl (l' := #[.val (.int p1), .val (.int 16), .unset, .unset]) rfl ?_
      refine XS.iloadN X0.here hx rfl (hb hby at_8) rfl ?_
      refine zcl _ ?_
      show own_Y p e below z62 m 12 #[.val (.int p1), .val (.int 16), .unset, .unset] [(.ref (A 16))] _
      refine XS.astoreN z2f.here hx rfl (hb hby at_12) rfl rfl (l' := #[.val (.int p1), .val (.int 16), .val (.ref (A 16)), .unset]) rfl ?_
      refine XS.aloadN z2f.here hx rfl (hb hby at_13) rfl rfl ?_
      exact k)
    obtain ⟨sa380, zt4, zt5, kk380, sb380, kc380, zt6, zcm, zcn, hS380, zt7, hZ, hown, Es380, Cs380, Vs380, As380, la380, lb380, C380, -, -, zt8⟩ := ldcCH (s := s) z2f hx hZ hown (own_W hw 8 rfl) (own_strAtoms a0 Z hw) zt1 hS0 z1 (own_EW a0 Z hw) (List.mem_of_getElem? (i := 3) rfl) H0 (vs := [(.int 48), (.int 48)]) (z := (2 : Int32)) ⟨by decide, by decide⟩ (by decide) (by decide) (g := (mkF m 14 #[.val (.int p1), .val (.int 16), .val (.ref (A 16)), .unset] [(.ref (A 16))])) rfl (hb hby at_14) (n := 8) (by decide) (by decide) (by decide) (by decide)
    have z63 := OL0.ext zcn
    have zt9 := KK0.ext zcn
    obtain ⟨cq381, kq381, zta, z13e, ztb⟩ := isOf hZ zcm (EN.2.2.2.2.1.2.1.ext z63.2)
    obtain ⟨_, _, ⟨z3f, L381, z13f, n381⟩, -, z2g, ⟨Lc381, zco, l381, y381, z381⟩, zcp⟩ := zt6.virtualBack hx (y := own_m0) (z := own_m0) hown (mvT hZ (own_W hw 16 rfl)) (mvT hZ (own_W hw 17 rfl)) (notFace_of_selects (args := #[]) (mvT hZ (own_W hw 19 rfl))) (mvT hZ (own_W hw 19 rfl)) (mvT hZ (own_W hw 18 rfl)) (by decide) (backOf (W := 0) (rm53 l Z a0 hw [] zt5 n0 p1 A K cs (A 16) (16 : Int32) sb380 sa380 kc380 EN EN.2.2.2.2.1.2.1 EN.2.2.2.2.2.2.2.2.2.1.2.1 (by decide) z63 Es380 Vs380 As380 Cs380) hZ (own_W hw 20 rfl) (own_W hw 6 rfl) (by decide) (by decide)) zta ztb (g := (mkF m 16 #[.val (.int p1), .val (.int 16), .val (.ref (A 16)), .unset] [(.ref sa380), (.ref (A 16))])) rfl (by rw [hml]; rfl) (Steps.refl _) (argsL := [(.ref sa380)]) (rest := []) (lenOf own_pd5 rfl) rfl (by show 2 * 0 + _ ≤ _; exact Nat.le_of_eq rfl) (hb hby at_16) (fun _ _ => ⟨rfl, zcm, (by decide : 2 + 0 ≤ _), (by decide : 12 + 0 ≤ _)⟩)
    dsimp only [Pt.U, Pt.locs, Pt.cells, Pt.slots] at z2g l381 y381 z381 zcp zco
    replace z2g := own_sub z2g l381 y381 z381
    obtain ⟨rfl, ztc, ztd⟩ := zco
    have zte := Fr.app zt2 ztc
    have ztf : own_P p e below z3f m 23 #[.val (.int p1), .val (.int 16), .val (.ref (A 16)), .unset] [(.ref (A 16))] s₁ #[(.int p1)] maxLocals := fun t k => zt3 t (by
      show own_Y p e below z62 m 14 #[.val (.int p1), .val (.int 16), .val (.ref (A 16)), .unset] [(.ref (A 16))] _
      refine zt8 _ ?_
      show own_Y p e below zt4 m 16 #[.val (.int p1), .val (.int 16), .val (.ref (A 16)), .unset] [(.ref sa380), (.ref (A 16))] _
      refine zcp.trans ?_
      show own_Y p e below z3f m 19 #[.val (.int p1), .val (.int 16), .val (.ref (A 16)), .unset] [(.int 1)] _
      refine XS.ifNo z2g.here hx rfl (hb hby at_19) rfl ((if0 _ _).trans (feq (by decide : ¬ ((1 : Int32) = (0 : Int32)))).1) ?_
      show own_Y p e below z3f m 22 #[.val (.int p1), .val (.int 16), .val (.ref (A 16)), .unset] [] _
      refine XS.aloadN z2g.here hx rfl (hb hby at_22) rfl rfl ?_
      exact k)
    obtain ⟨sa383, ztg, zcq, kk383, sb383, kc383, zth, zcr, zcs, hS383, zti, hZ, hown, Es383, Cs383, Vs383, As383, la383, lb383, C383, -, -, ztj⟩ := ldcCH (s := s) z2g hx hZ hown (own_W hw 87 rfl) (own_strAtoms a0 Z hw) ztd hS380 zt7 (own_EW a0 Z hw) (List.mem_of_getElem? (i := 4) rfl) C380.1 (vs := [(.int 45), (.int 48)]) (z := (2 : Int32)) ⟨by decide, by decide⟩ (by decide) (by decide) (g := (mkF m 23 #[.val (.int p1), .val (.int 16), .val (.ref (A 16)), .unset] [(.ref (A 16))])) rfl (hb hby at_23) (n := 8) (by decide) (by decide) (by decide) (by decide)
    have z3g := z63.ext zcs
    have z13g := zt9.ext zcs
    obtain ⟨cq384, kq384, ztk, z13h, ztl⟩ := isOf hZ zcr (EN.2.2.2.2.1.2.1.ext z3g.2)
    obtain ⟨_, _, ⟨zct, L384, z13i, n384⟩, -, z1b, ⟨Lc384, zcu, l384, y384, z384⟩, zcv⟩ := zth.virtualBack hx (y := own_m0) (z := own_m0) hown (mvT hZ (own_W hw 16 rfl)) (mvT hZ (own_W hw 17 rfl)) (notFace_of_selects (args := #[]) (mvT hZ (own_W hw 19 rfl))) (mvT hZ (own_W hw 19 rfl)) (mvT hZ (own_W hw 18 rfl)) (by decide) (backOf (W := 0) (rm54 l Z a0 hw [] zcq n0 p1 A K cs (A 16) (16 : Int32) sb383 sa383 kc383 EN EN.2.2.2.2.1.2.1 EN.2.2.2.2.2.2.2.2.2.1.2.1 (by decide) z3g Es383 Vs383 As383 Cs383) hZ (own_W hw 20 rfl) (own_W hw 6 rfl) (by decide) (by decide)) ztk ztl (g := (mkF m 25 #[.val (.int p1), .val (.int 16), .val (.ref (A 16)), .unset] [(.ref sa383), (.ref (A 16))])) rfl (by rw [hml]; rfl) (Steps.refl _) (argsL := [(.ref sa383)]) (rest := []) (lenOf own_pd5 rfl) rfl (by show 2 * 0 + _ ≤ _; exact Nat.le_of_eq rfl) (hb hby at_25) (fun _ _ => ⟨rfl, zcr, (by decide : 4 + 0 ≤ _), (by decide : 24 + 0 ≤ _)⟩)
    dsimp only [Pt.U, Pt.locs, Pt.cells, Pt.slots] at z1b l384 y384 z384 zcv zcu
    replace z1b := own_sub z1b l384 y384 z384
    obtain ⟨rfl, ztm, zcw⟩ := zcu
    have ztn := Fr.app zte ztm
    obtain ⟨cq385, kq385, zto, z13j, ztp⟩ := isOf hZ zcw (EN.2.2.2.2.1.2.1.ext z3g.2)
    obtain ⟨_, _, ⟨z64, L385, z13k, n385⟩, -, zk, ⟨Lc385, zcx, l385, y385, z385⟩, zcy⟩ := z1b.virtualBack hx (y := own_m2) (z := own_m2) hown (mvT hZ (own_W hw 88 rfl)) (mvT hZ (own_W hw 89 rfl)) (notFace_of_selects (args := #[]) (mvT hZ (own_W hw 91 rfl))) (mvT hZ (own_W hw 91 rfl)) (mvT hZ (own_W hw 90 rfl)) (by decide) (backOf (W := 0) (rm30 l Z a0 hw [] zcq n0 p1 A K cs (A 16) (16 : Int32) EN EN.2.2.2.2.1.2.1 EN.2.2.2.2.2.2.2.2.2.1.2.1 (Fld.ne EN.2.2.2.2.2.2.2.2.2.1.2.1 EN.2.2.2.2.2.2.2.1.2.2.2.2.1 (fun h => by injection h with h; exact absurd h (by decide))) z3g) hZ (own_W hw 92 rfl) (own_W hw 6 rfl) (by decide) (by decide)) zto ztp (g := (mkF m 38 #[.val (.int p1), .val (.int 16), .val (.ref (A 16)), .val (.int 0)] [(.ref (A 16))])) rfl (by rw [hml]; rfl) (Steps.refl _) (argsL := []) (rest := []) (lenOf own_pd6 rfl) rfl (by show 2 * 0 + _ ≤ _; exact Nat.le_of_eq rfl) (hb hby at_38) (fun _ _ => ⟨rfl, zcw, (by decide : 4 + 0 ≤ _), (by decide : 24 + 0 ≤ _)⟩)
    dsimp only [Pt.U, Pt.locs, Pt.cells, Pt.slots] at zk l385 y385 z385 zcy zcx
    replace zk := own_sub zk l385 y385 z385
    obtain ⟨rfl, ztq, ztr⟩ := zcx
    have zts := Fr.app ztn ztq
    obtain ⟨fs, hr, hrun, hended, hEW⟩ := zk.leaveW (s := s) hS383 (by rw [ztr]; exact zti) (v := some (.int 1)) (fun h => by rw [Bd.returns] at h; cases h)
    refine ⟨_, _, ztf _ ?_, hrun, hended, _, _, rfl, ?_, hEW.1, hEW.2.1, hEW.2.2.1, hEW.2.2.2.mono (by decide) (by decide)⟩
    · show own_Y p e below z3f m 23 #[.val (.int p1), .val (.int 16), .val (.ref (A 16)), .unset] [(.ref (A 16))] _
      refine ztj _ ?_
      show own_Y p e below ztg m 25 #[.val (.int p1), .val (.int 16), .val (.ref (A 16)), .unset] [(.ref sa383), (.ref (A 16))] _
      refine zcv.trans ?_
      show own_Y p e below zct m 28 #[.val (.int p1), .val (.int 16), .val (.ref (A 16)), .unset] [(.int 1)] _
      refine XS.ifYes z1b.here hx rfl (pc0 := 28) (pc' := 35) rfl (hb hby at_28) rfl ((if0 _ _).trans (feq (by decide : ¬ ((1 : Int32) = (0 : Int32)))).2) (by decide) (by decide) ?_
      show own_Y p e below zct m 35 #[.val (.int p1), .val (.int 16), .val (.ref (A 16)), .unset] [] _
      refine XS.iconst z1b.here hx rfl (hb hby at_35) ?_
      refine XS.istoreN z1b.here hx rfl (hb hby at_36) rfl (l' := #[.val (.int p1), .val (.int 16), .val (.ref (A 16)), .val (.int 0)]) rfl ?_
      refine XS.aloadN z1b.here hx rfl (hb hby at_37) rfl rfl ?_
      refine zcy.trans ?_
      show own_Y p e below z64 m 41 #[.val (.int p1), .val (.int 16), .val (.ref (A 16)), .val (.int 0)] [(.int 0)] _
      refine XS.iloadN zk.here hx rfl (hb hby at_41) rfl ?_
      refine XS.icmpNo zk.here hx rfl (hb hby at_42) rfl (teq (by decide : (0 : Int32) = (0 : Int32))).2 ?_
      show own_Y p e below z64 m 45 #[.val (.int p1), .val (.int 16), .val (.ref (A 16)), .val (.int 0)] [] _
      refine XS.iconst zk.here hx rfl (hb hby at_45) ?_
      refine XS.goto zk.here hx rfl (pc0 := 46) (pc' := 50) rfl (hb hby at_46) (by decide) (by decide) ?_
      exact retN zk hx (t := .boolean) Bd.returns (by simp) (hb hby at_50) hr
    · show LQ n0 _ z64.heap _
      exact ⟨rfl, zts, trivial⟩
  | 17, _, z0 =>
    obtain ⟨_, _, ⟨z65, L386, z13l, n386⟩, -, z2h, ⟨Lc386, zcz, l386, y386, z386⟩, zd0⟩ := Jvm.LawKit.callS X0 hx (y := own_m5) hown (mvT hZ (own_W hw 1 rfl)) (mvT hZ (own_W hw 2 rfl)) (mvT hZ (own_W hw 3 rfl)) (mvT hZ (own_W hw 4 rfl)) (by decide) (backOf (W := 0) (rmPick l Z a0 hw [] h0 n0 p1 A K cs (17 : Int32) (A 17) EN ⟨17, by decide, rfl⟩ (congrArg A (by decide)) OL0) hZ (own_W hw 4 rfl) (own_W hw 3 rfl) (by decide) (by decide)) (g := (mkF m 9 #[.val (.int p1), .val (.int 17), .unset, .unset] [(.int 17)])) rfl (by rw [hml]; rfl) (argsL := [(.int 17)]) (rest := []) (lenOf own_pd0 rfl) rfl (by show 2 * 0 + _ ≤ _; exact Nat.le_of_eq rfl) (hb hby at_9) (fun _ _ => ⟨rfl, e0, (by decide : 0 + 0 ≤ _), (by decide : 0 + 0 ≤ _)⟩)
    dsimp only [Pt.U, Pt.locs, Pt.cells, Pt.slots] at z2h l386 y386 z386 zd0 zcz
    replace z2h := own_sub z2h l386 y386 z386
    obtain ⟨rfl, ztt, ztu⟩ := zcz
    have ztv := Fr.app N0 ztt
    have ztw : own_P p e below z65 m 14 #[.val (.int p1), .val (.int 17), .val (.ref (A 17)), .unset] [(.ref (A 17))] s₁ #[(.int p1)] maxLocals := fun t k => z2 t (by
      show own_Y p e below s₁ m 7 #[.val (.int p1), .unset, .unset, .unset] [(.int ((p1 &&& (2147483647 : Int32)) % 28))] _
      rw [z0]
      show own_Y p e below s₁ m 7 #[.val (.int p1), .unset, .unset, .unset] [(.int 17)] _
      refine XS.istoreN X0.here hx rfl (hb hby at_7) rfl (l' := #[.val (.int p1), .val (.int 17), .unset, .unset]) rfl ?_
      refine XS.iloadN X0.here hx rfl (hb hby at_8) rfl ?_
      refine zd0 _ ?_
      show own_Y p e below z65 m 12 #[.val (.int p1), .val (.int 17), .unset, .unset] [(.ref (A 17))] _
      refine XS.astoreN z2h.here hx rfl (hb hby at_12) rfl rfl (l' := #[.val (.int p1), .val (.int 17), .val (.ref (A 17)), .unset]) rfl ?_
      refine XS.aloadN z2h.here hx rfl (hb hby at_13) rfl rfl ?_
      exact k)
    obtain ⟨sa388, ztx, zd1, kk388, sb388, kc388, zty, zd2, zd3, hS388, ztz, hZ, hown, Es388, Cs388, Vs388, As388, la388, lb388, C388, -, -, zu0⟩ := ldcCH (s := s) z2h hx hZ hown (own_W hw 8 rfl) (own_strAtoms a0 Z hw) ztu hS0 z1 (own_EW a0 Z hw) (List.mem_of_getElem? (i := 3) rfl) H0 (vs := [(.int 48), (.int 48)]) (z := (2 : Int32)) ⟨by decide, by decide⟩ (by decide) (by decide) (g := (mkF m 14 #[.val (.int p1), .val (.int 17), .val (.ref (A 17)), .unset] [(.ref (A 17))])) rfl (hb hby at_14) (n := 8) (by decide) (by decide) (by decide) (by decide)
    have z3h := OL0.ext zd3
    have z13m := KK0.ext zd3
    obtain ⟨cq392, kq392, zu1, z13n, zu2⟩ := isOf hZ zd2 (EN.2.2.2.2.1.2.2.2.1.ext z3h.2)
    obtain ⟨_, _, ⟨zd4, L392, z13o, n392⟩, -, z1c, ⟨Lc392, zd5, l392, y392, z392⟩, zd6⟩ := zty.virtualBack hx (y := own_m0) (z := own_m0) hown (mvT hZ (own_W hw 16 rfl)) (mvT hZ (own_W hw 17 rfl)) (notFace_of_selects (args := #[]) (mvT hZ (own_W hw 19 rfl))) (mvT hZ (own_W hw 19 rfl)) (mvT hZ (own_W hw 18 rfl)) (by decide) (backOf (W := 0) (rm57 l Z a0 hw [] zd1 n0 p1 A K cs (A 17) (17 : Int32) sb388 sa388 kc388 EN EN.2.2.2.2.1.2.2.2.1 EN.2.2.2.2.2.2.2.2.2.2.1.2.1 (by decide) z3h Es388 Vs388 As388 Cs388) hZ (own_W hw 20 rfl) (own_W hw 6 rfl) (by decide) (by decide)) zu1 zu2 (g := (mkF m 16 #[.val (.int p1), .val (.int 17), .val (.ref (A 17)), .unset] [(.ref sa388), (.ref (A 17))])) rfl (by rw [hml]; rfl) (Steps.refl _) (argsL := [(.ref sa388)]) (rest := []) (lenOf own_pd5 rfl) rfl (by show 2 * 0 + _ ≤ _; exact Nat.le_of_eq rfl) (hb hby at_16) (fun _ _ => ⟨rfl, zd2, (by decide : 2 + 0 ≤ _), (by decide : 12 + 0 ≤ _)⟩)
    dsimp only [Pt.U, Pt.locs, Pt.cells, Pt.slots] at z1c l392 y392 z392 zd6 zd5
    replace z1c := own_sub z1c l392 y392 z392
    obtain ⟨rfl, zu3, zd7⟩ := zd5
    have zu4 := Fr.app ztv zu3
    obtain ⟨cq393, kq393, zu5, z13p, zu6⟩ := isOf hZ zd7 (EN.2.2.2.2.1.2.2.2.1.ext z3h.2)
    obtain ⟨_, _, ⟨z66, L393, z13q, n393⟩, -, zl, ⟨Lc393, zd8, l393, y393, z393⟩, zd9⟩ := z1c.virtualBack hx (y := own_m2) (z := own_m2) hown (mvT hZ (own_W hw 88 rfl)) (mvT hZ (own_W hw 89 rfl)) (notFace_of_selects (args := #[]) (mvT hZ (own_W hw 91 rfl))) (mvT hZ (own_W hw 91 rfl)) (mvT hZ (own_W hw 90 rfl)) (by decide) (backOf (W := 0) (rm30 l Z a0 hw [] zd1 n0 p1 A K cs (A 17) (17 : Int32) EN EN.2.2.2.2.1.2.2.2.1 EN.2.2.2.2.2.2.2.2.2.2.1.2.1 (Fld.ne EN.2.2.2.2.2.2.2.2.2.2.1.2.1 EN.2.2.2.2.2.2.2.1.2.2.2.2.1 (fun h => by injection h with h; exact absurd h (by decide))) z3h) hZ (own_W hw 92 rfl) (own_W hw 6 rfl) (by decide) (by decide)) zu5 zu6 (g := (mkF m 38 #[.val (.int p1), .val (.int 17), .val (.ref (A 17)), .val (.int 0)] [(.ref (A 17))])) rfl (by rw [hml]; rfl) (Steps.refl _) (argsL := []) (rest := []) (lenOf own_pd6 rfl) rfl (by show 2 * 0 + _ ≤ _; exact Nat.le_of_eq rfl) (hb hby at_38) (fun _ _ => ⟨rfl, zd7, (by decide : 2 + 0 ≤ _), (by decide : 12 + 0 ≤ _)⟩)
    dsimp only [Pt.U, Pt.locs, Pt.cells, Pt.slots] at zl l393 y393 z393 zd9 zd8
    replace zl := own_sub zl l393 y393 z393
    obtain ⟨rfl, zu7, zu8⟩ := zd8
    have zu9 := Fr.app zu4 zu7
    obtain ⟨fs, hr, hrun, hended, hEW⟩ := zl.leaveW (s := s) hS388 (by rw [zu8]; exact ztz) (v := some (.int 1)) (fun h => by rw [Bd.returns] at h; cases h)
    refine ⟨_, _, ztw _ ?_, hrun, hended, _, _, rfl, ?_, hEW.1, hEW.2.1, hEW.2.2.1, hEW.2.2.2.mono (by decide) (by decide)⟩
    · show own_Y p e below z65 m 14 #[.val (.int p1), .val (.int 17), .val (.ref (A 17)), .unset] [(.ref (A 17))] _
      refine zu0 _ ?_
      show own_Y p e below ztx m 16 #[.val (.int p1), .val (.int 17), .val (.ref (A 17)), .unset] [(.ref sa388), (.ref (A 17))] _
      refine zd6.trans ?_
      show own_Y p e below zd4 m 19 #[.val (.int p1), .val (.int 17), .val (.ref (A 17)), .unset] [(.int 0)] _
      refine XS.ifYes z1c.here hx rfl (pc0 := 19) (pc' := 35) rfl (hb hby at_19) rfl ((if0 _ _).trans (teq (by decide : (0 : Int32) = (0 : Int32))).1) (by decide) (by decide) ?_
      show own_Y p e below zd4 m 35 #[.val (.int p1), .val (.int 17), .val (.ref (A 17)), .unset] [] _
      refine XS.iconst z1c.here hx rfl (hb hby at_35) ?_
      refine XS.istoreN z1c.here hx rfl (hb hby at_36) rfl (l' := #[.val (.int p1), .val (.int 17), .val (.ref (A 17)), .val (.int 0)]) rfl ?_
      refine XS.aloadN z1c.here hx rfl (hb hby at_37) rfl rfl ?_
      refine zd9.trans ?_
      show own_Y p e below z66 m 41 #[.val (.int p1), .val (.int 17), .val (.ref (A 17)), .val (.int 0)] [(.int 0)] _
      refine XS.iloadN zl.here hx rfl (hb hby at_41) rfl ?_
      refine XS.icmpNo zl.here hx rfl (hb hby at_42) rfl (teq (by decide : (0 : Int32) = (0 : Int32))).2 ?_
      show own_Y p e below z66 m 45 #[.val (.int p1), .val (.int 17), .val (.ref (A 17)), .val (.int 0)] [] _
      refine XS.iconst zl.here hx rfl (hb hby at_45) ?_
      refine XS.goto zl.here hx rfl (pc0 := 46) (pc' := 50) rfl (hb hby at_46) (by decide) (by decide) ?_
      exact retN zl hx (t := .boolean) Bd.returns (by simp) (hb hby at_50) hr
    · show LQ n0 _ z66.heap _
      exact ⟨rfl, zu9, trivial⟩
  | 18, _, z0 =>
    obtain ⟨_, _, ⟨z67, L394, z13r, n394⟩, -, z2i, ⟨Lc394, zda, l394, y394, z394⟩, zdb⟩ := Jvm.LawKit.callS X0 hx (y := own_m5) hown (mvT hZ (own_W hw 1 rfl)) (mvT hZ (own_W hw 2 rfl)) (mvT hZ (own_W hw 3 rfl)) (mvT hZ (own_W hw 4 rfl)) (by decide) (backOf (W := 0) (rmPick l Z a0 hw [] h0 n0 p1 A K cs (18 : Int32) (A 18) EN ⟨18, by decide, rfl⟩ (congrArg A (by decide)) OL0) hZ (own_W hw 4 rfl) (own_W hw 3 rfl) (by decide) (by decide)) (g := (mkF m 9 #[.val (.int p1), .val (.int 18), .unset, .unset] [(.int 18)])) rfl (by rw [hml]; rfl) (argsL := [(.int 18)]) (rest := []) (lenOf own_pd0 rfl) rfl (by show 2 * 0 + _ ≤ _; exact Nat.le_of_eq rfl) (hb hby at_9) (fun _ _ => ⟨rfl, e0, (by decide : 0 + 0 ≤ _), (by decide : 0 + 0 ≤ _)⟩)
    dsimp only [Pt.U, Pt.locs, Pt.cells, Pt.slots] at z2i l394 y394 z394 zdb zda
    replace z2i := own_sub z2i l394 y394 z394
    obtain ⟨rfl, zua, zub⟩ := zda
    have zuc := Fr.app N0 zua
    have zud : own_P p e below z67 m 14 #[.val (.int p1), .val (.int 18), .val (.ref (A 18)), .unset] [(.ref (A 18))] s₁ #[(.int p1)] maxLocals := fun t k => z2 t (by
      show own_Y p e below s₁ m 7 #[.val (.int p1), .unset, .unset, .unset] [(.int ((p1 &&& (2147483647 : Int32)) % 28))] _
      rw [z0]
      show own_Y p e below s₁ m 7 #[.val (.int p1), .unset, .unset, .unset] [(.int 18)] _
      refine XS.istoreN X0.here hx rfl (hb hby at_7) rfl (l' := #[.val (.int p1), .val (.int 18), .unset, .unset]) rfl ?_
      refine XS.iloadN X0.here hx rfl (hb hby at_8) rfl ?_
      refine zdb _ ?_
      show own_Y p e below z67 m 12 #[.val (.int p1), .val (.int 18), .unset, .unset] [(.ref (A 18))] _
      refine XS.astoreN z2i.here hx rfl (hb hby at_12) rfl rfl (l' := #[.val (.int p1), .val (.int 18), .val (.ref (A 18)), .unset]) rfl ?_
      refine XS.aloadN z2i.here hx rfl (hb hby at_13) rfl rfl ?_
      exact k)
    obtain ⟨sa396, zue, zuf, kk396, sb396, kc396, zug, zdc, zdd, hS396, zuh, hZ, hown, Es396, Cs396, Vs396, As396, la396, lb396, C396, -, -, zui⟩ := ldcCH (s := s) z2i hx hZ hown (own_W hw 8 rfl) (own_strAtoms a0 Z hw) zub hS0 z1 (own_EW a0 Z hw) (List.mem_of_getElem? (i := 3) rfl) H0 (vs := [(.int 48), (.int 48)]) (z := (2 : Int32)) ⟨by decide, by decide⟩ (by decide) (by decide) (g := (mkF m 14 #[.val (.int p1), .val (.int 18), .val (.ref (A 18)), .unset] [(.ref (A 18))])) rfl (hb hby at_14) (n := 8) (by decide) (by decide) (by decide) (by decide)
    have z68 := OL0.ext zdd
    have zuj := KK0.ext zdd
    obtain ⟨cq400, kq400, zuk, z13s, zul⟩ := isOf hZ zdc (EN.2.2.2.2.1.2.2.2.2.2.1.ext z68.2)
    obtain ⟨_, _, ⟨z3i, L400, z13t, n400⟩, -, z2j, ⟨Lc400, zde, l400, y400, z400⟩, zdf⟩ := zug.virtualBack hx (y := own_m0) (z := own_m0) hown (mvT hZ (own_W hw 16 rfl)) (mvT hZ (own_W hw 17 rfl)) (notFace_of_selects (args := #[]) (mvT hZ (own_W hw 19 rfl))) (mvT hZ (own_W hw 19 rfl)) (mvT hZ (own_W hw 18 rfl)) (by decide) (backOf (W := 0) (rm58 l Z a0 hw [] zuf n0 p1 A K cs (A 18) (18 : Int32) sb396 sa396 kc396 EN EN.2.2.2.2.1.2.2.2.2.2.1 EN.2.2.2.2.2.2.2.2.1.1 (by decide) z68 Es396 Vs396 As396 Cs396) hZ (own_W hw 20 rfl) (own_W hw 6 rfl) (by decide) (by decide)) zuk zul (g := (mkF m 16 #[.val (.int p1), .val (.int 18), .val (.ref (A 18)), .unset] [(.ref sa396), (.ref (A 18))])) rfl (by rw [hml]; rfl) (Steps.refl _) (argsL := [(.ref sa396)]) (rest := []) (lenOf own_pd5 rfl) rfl (by show 2 * 0 + _ ≤ _; exact Nat.le_of_eq rfl) (hb hby at_16) (fun _ _ => ⟨rfl, zdc, (by decide : 2 + 0 ≤ _), (by decide : 12 + 0 ≤ _)⟩)
    dsimp only [Pt.U, Pt.locs, Pt.cells, Pt.slots] at z2j l400 y400 z400 zdf zde
    replace z2j := own_sub z2j l400 y400 z400
    obtain ⟨rfl, zum, zun⟩ := zde
    have zuo := Fr.app zuc zum
    have zup : own_P p e below z3i m 23 #[.val (.int p1), .val (.int 18), .val (.ref (A 18)), .unset] [(.ref (A 18))] s₁ #[(.int p1)] maxLocals := fun t k => zud t (by
      show own_Y p e below z67 m 14 #[.val (.int p1), .val (.int 18), .val (.ref (A 18)), .unset] [(.ref (A 18))] _
      refine zui _ ?_
      show own_Y p e below zue m 16 #[.val (.int p1), .val (.int 18), .val (.ref (A 18)), .unset] [(.ref sa396), (.ref (A 18))] _
      refine zdf.trans ?_
      show own_Y p e below z3i m 19 #[.val (.int p1), .val (.int 18), .val (.ref (A 18)), .unset] [(.int 1)] _
      refine XS.ifNo z2j.here hx rfl (hb hby at_19) rfl ((if0 _ _).trans (feq (by decide : ¬ ((1 : Int32) = (0 : Int32)))).1) ?_
      show own_Y p e below z3i m 22 #[.val (.int p1), .val (.int 18), .val (.ref (A 18)), .unset] [] _
      refine XS.aloadN z2j.here hx rfl (hb hby at_22) rfl rfl ?_
      exact k)
    obtain ⟨sa402, zuq, zdg, kk402, sb402, kc402, zur, zdh, zdi, hS402, zus, hZ, hown, Es402, Cs402, Vs402, As402, la402, lb402, C402, -, -, zut⟩ := ldcCH (s := s) z2j hx hZ hown (own_W hw 87 rfl) (own_strAtoms a0 Z hw) zun hS396 zuh (own_EW a0 Z hw) (List.mem_of_getElem? (i := 4) rfl) C396.1 (vs := [(.int 45), (.int 48)]) (z := (2 : Int32)) ⟨by decide, by decide⟩ (by decide) (by decide) (g := (mkF m 23 #[.val (.int p1), .val (.int 18), .val (.ref (A 18)), .unset] [(.ref (A 18))])) rfl (hb hby at_23) (n := 8) (by decide) (by decide) (by decide) (by decide)
    have z3j := z68.ext zdi
    have z13u := zuj.ext zdi
    obtain ⟨cq406, kq406, zuu, z13v, zuv⟩ := isOf hZ zdh (EN.2.2.2.2.1.2.2.2.2.2.1.ext z3j.2)
    obtain ⟨_, _, ⟨zdj, L406, z13w, n406⟩, -, z1d, ⟨Lc406, zdk, l406, y406, z406⟩, zdl⟩ := zur.virtualBack hx (y := own_m0) (z := own_m0) hown (mvT hZ (own_W hw 16 rfl)) (mvT hZ (own_W hw 17 rfl)) (notFace_of_selects (args := #[]) (mvT hZ (own_W hw 19 rfl))) (mvT hZ (own_W hw 19 rfl)) (mvT hZ (own_W hw 18 rfl)) (by decide) (backOf (W := 0) (rm59 l Z a0 hw [] zdg n0 p1 A K cs (A 18) (18 : Int32) sb402 sa402 kc402 EN EN.2.2.2.2.1.2.2.2.2.2.1 EN.2.2.2.2.2.2.2.2.1.1 (by decide) z3j Es402 Vs402 As402 Cs402) hZ (own_W hw 20 rfl) (own_W hw 6 rfl) (by decide) (by decide)) zuu zuv (g := (mkF m 25 #[.val (.int p1), .val (.int 18), .val (.ref (A 18)), .unset] [(.ref sa402), (.ref (A 18))])) rfl (by rw [hml]; rfl) (Steps.refl _) (argsL := [(.ref sa402)]) (rest := []) (lenOf own_pd5 rfl) rfl (by show 2 * 0 + _ ≤ _; exact Nat.le_of_eq rfl) (hb hby at_25) (fun _ _ => ⟨rfl, zdh, (by decide : 4 + 0 ≤ _), (by decide : 24 + 0 ≤ _)⟩)
    dsimp only [Pt.U, Pt.locs, Pt.cells, Pt.slots] at z1d l406 y406 z406 zdl zdk
    replace z1d := own_sub z1d l406 y406 z406
    obtain ⟨rfl, zuw, zdm⟩ := zdk
    have zux := Fr.app zuo zuw
    obtain ⟨cq407, kq407, zuy, z13x, zuz⟩ := isOf hZ zdm (EN.2.2.2.2.1.2.2.2.2.2.1.ext z3j.2)
    obtain ⟨_, _, ⟨z69, L407, z13y, n407⟩, -, zm, ⟨Lc407, zdn, l407, y407, z407⟩, zdo⟩ := z1d.virtualBack hx (y := own_m2) (z := own_m2) hown (mvT hZ (own_W hw 88 rfl)) (mvT hZ (own_W hw 89 rfl)) (notFace_of_selects (args := #[]) (mvT hZ (own_W hw 91 rfl))) (mvT hZ (own_W hw 91 rfl)) (mvT hZ (own_W hw 90 rfl)) (by decide) (backOf (W := 0) (rm30 l Z a0 hw [] zdg n0 p1 A K cs (A 18) (18 : Int32) EN EN.2.2.2.2.1.2.2.2.2.2.1 EN.2.2.2.2.2.2.2.2.1.1 (Fld.ne EN.2.2.2.2.2.2.2.2.1.1 EN.2.2.2.2.2.2.2.1.2.2.2.2.1 (fun h => by injection h with h; exact absurd h (by decide))) z3j) hZ (own_W hw 92 rfl) (own_W hw 6 rfl) (by decide) (by decide)) zuy zuz (g := (mkF m 38 #[.val (.int p1), .val (.int 18), .val (.ref (A 18)), .val (.int 0)] [(.ref (A 18))])) rfl (by rw [hml]; rfl) (Steps.refl _) (argsL := []) (rest := []) (lenOf own_pd6 rfl) rfl (by show 2 * 0 + _ ≤ _; exact Nat.le_of_eq rfl) (hb hby at_38) (fun _ _ => ⟨rfl, zdm, (by decide : 4 + 0 ≤ _), (by decide : 24 + 0 ≤ _)⟩)
    dsimp only [Pt.U, Pt.locs, Pt.cells, Pt.slots] at zm l407 y407 z407 zdo zdn
    replace zm := own_sub zm l407 y407 z407
    obtain ⟨rfl, zv0, zv1⟩ := zdn
    have zv2 := Fr.app zux zv0
    obtain ⟨fs, hr, hrun, hended, hEW⟩ := zm.leaveW (s := s) hS402 (by rw [zv1]; exact zus) (v := some (.int 1)) (fun h => by rw [Bd.returns] at h; cases h)
    refine ⟨_, _, zup _ ?_, hrun, hended, _, _, rfl, ?_, hEW.1, hEW.2.1, hEW.2.2.1, hEW.2.2.2.mono (by decide) (by decide)⟩
    · show own_Y p e below z3i m 23 #[.val (.int p1), .val (.int 18), .val (.ref (A 18)), .unset] [(.ref (A 18))] _
      refine zut _ ?_
      show own_Y p e below zuq m 25 #[.val (.int p1), .val (.int 18), .val (.ref (A 18)), .unset] [(.ref sa402), (.ref (A 18))] _
      refine zdl.trans ?_
      show own_Y p e below zdj m 28 #[.val (.int p1), .val (.int 18), .val (.ref (A 18)), .unset] [(.int 1)] _
      refine XS.ifYes z1d.here hx rfl (pc0 := 28) (pc' := 35) rfl (hb hby at_28) rfl ((if0 _ _).trans (feq (by decide : ¬ ((1 : Int32) = (0 : Int32)))).2) (by decide) (by decide) ?_
      show own_Y p e below zdj m 35 #[.val (.int p1), .val (.int 18), .val (.ref (A 18)), .unset] [] _
      refine XS.iconst z1d.here hx rfl (hb hby at_35) ?_
      refine XS.istoreN z1d.here hx rfl (hb hby at_36) rfl (l' := #[.val (.int p1), .val (.int 18), .val (.ref (A 18)), .val (.int 0)]) rfl ?_
      refine XS.aloadN z1d.here hx rfl (hb hby at_37) rfl rfl ?_
      refine zdo.trans ?_
      show own_Y p e below z69 m 41 #[.val (.int p1), .val (.int 18), .val (.ref (A 18)), .val (.int 0)] [(.int 0)] _
      refine XS.iloadN zm.here hx rfl (hb hby at_41) rfl ?_
      refine XS.icmpNo zm.here hx rfl (hb hby at_42) rfl (teq (by decide : (0 : Int32) = (0 : Int32))).2 ?_
      show own_Y p e below z69 m 45 #[.val (.int p1), .val (.int 18), .val (.ref (A 18)), .val (.int 0)] [] _
      refine XS.iconst zm.here hx rfl (hb hby at_45) ?_
      refine XS.goto zm.here hx rfl (pc0 := 46) (pc' := 50) rfl (hb hby at_46) (by decide) (by decide) ?_
      exact retN zm hx (t := .boolean) Bd.returns (by simp) (hb hby at_50) hr
    · show LQ n0 _ z69.heap _
      exact ⟨rfl, zv2, trivial⟩
  | 19, _, z0 =>
    obtain ⟨_, _, ⟨z6a, L408, z13z, n408⟩, -, z2k, ⟨Lc408, zdp, l408, y408, z408⟩, zdq⟩ := Jvm.LawKit.callS X0 hx (y := own_m5) hown (mvT hZ (own_W hw 1 rfl)) (mvT hZ (own_W hw 2 rfl)) (mvT hZ (own_W hw 3 rfl)) (mvT hZ (own_W hw 4 rfl)) (by decide) (backOf (W := 0) (rmPick l Z a0 hw [] h0 n0 p1 A K cs (19 : Int32) (A 19) EN ⟨19, by decide, rfl⟩ (congrArg A (by decide)) OL0) hZ (own_W hw 4 rfl) (own_W hw 3 rfl) (by decide) (by decide)) (g := (mkF m 9 #[.val (.int p1), .val (.int 19), .unset, .unset] [(.int 19)])) rfl (by rw [hml]; rfl) (argsL := [(.int 19)]) (rest := []) (lenOf own_pd0 rfl) rfl (by show 2 * 0 + _ ≤ _; exact Nat.le_of_eq rfl) (hb hby at_9) (fun _ _ => ⟨rfl, e0, (by decide : 0 + 0 ≤ _), (by decide : 0 + 0 ≤ _)⟩)
    dsimp only [Pt.U, Pt.locs, Pt.cells, Pt.slots] at z2k l408 y408 z408 zdq zdp
    replace z2k := own_sub z2k l408 y408 z408
    obtain ⟨rfl, zv3, zv4⟩ := zdp
    have zv5 := Fr.app N0 zv3
    have zv6 : own_P p e below z6a m 14 #[.val (.int p1), .val (.int 19), .val (.ref (A 19)), .unset] [(.ref (A 19))] s₁ #[(.int p1)] maxLocals := fun t k => z2 t (by
      show own_Y p e below s₁ m 7 #[.val (.int p1), .unset, .unset, .unset] [(.int ((p1 &&& (2147483647 : Int32)) % 28))] _
      rw [z0]
      show own_Y p e below s₁ m 7 #[.val (.int p1), .unset, .unset, .unset] [(.int 19)] _
      refine XS.istoreN X0.here hx rfl (hb hby at_7) rfl (l' := #[.val (.int p1), .val (.int 19), .unset, .unset]) rfl ?_
      refine XS.iloadN X0.here hx rfl (hb hby at_8) rfl ?_
      refine zdq _ ?_
      show own_Y p e below z6a m 12 #[.val (.int p1), .val (.int 19), .unset, .unset] [(.ref (A 19))] _
      refine XS.astoreN z2k.here hx rfl (hb hby at_12) rfl rfl (l' := #[.val (.int p1), .val (.int 19), .val (.ref (A 19)), .unset]) rfl ?_
      refine XS.aloadN z2k.here hx rfl (hb hby at_13) rfl rfl ?_
      exact k)
    obtain ⟨sa410, zv7, zdr, kk410, sb410, kc410, zv8, zds, zdt, hS410, zv9, hZ, hown, Es410, Cs410, Vs410, As410, la410, lb410, C410, -, -, zva⟩ := ldcCH (s := s) z2k hx hZ hown (own_W hw 8 rfl) (own_strAtoms a0 Z hw) zv4 hS0 z1 (own_EW a0 Z hw) (List.mem_of_getElem? (i := 3) rfl) H0 (vs := [(.int 48), (.int 48)]) (z := (2 : Int32)) ⟨by decide, by decide⟩ (by decide) (by decide) (g := (mkF m 14 #[.val (.int p1), .val (.int 19), .val (.ref (A 19)), .unset] [(.ref (A 19))])) rfl (hb hby at_14) (n := 8) (by decide) (by decide) (by decide) (by decide)
    have z3k := OL0.ext zdt
    have z140 := KK0.ext zdt
    obtain ⟨cq420, kq420, zvb, z141, zvc⟩ := isOf hZ zds (EN.2.2.2.2.1.2.2.2.2.2.2.2.1.ext z3k.2)
    obtain ⟨_, _, ⟨zdu, L420, z142, n420⟩, -, z1e, ⟨Lc420, zdv, l420, y420, z420⟩, zdw⟩ := zv8.virtualBack hx (y := own_m0) (z := own_m0) hown (mvT hZ (own_W hw 16 rfl)) (mvT hZ (own_W hw 17 rfl)) (notFace_of_selects (args := #[]) (mvT hZ (own_W hw 19 rfl))) (mvT hZ (own_W hw 19 rfl)) (mvT hZ (own_W hw 18 rfl)) (by decide) (backOf (W := 0) (rm60 l Z a0 hw [] zdr n0 p1 A K cs (A 19) (19 : Int32) sb410 sa410 kc410 EN EN.2.2.2.2.1.2.2.2.2.2.2.2.1 EN.2.2.2.2.2.2.2.2.2.1.1 (by decide) z3k Es410 Vs410 As410 Cs410) hZ (own_W hw 20 rfl) (own_W hw 6 rfl) (by decide) (by decide)) zvb zvc (g := (mkF m 16 #[.val (.int p1), .val (.int 19), .val (.ref (A 19)), .unset] [(.ref sa410), (.ref (A 19))])) rfl (by rw [hml]; rfl) (Steps.refl _) (argsL := [(.ref sa410)]) (rest := []) (lenOf own_pd5 rfl) rfl (by show 2 * 0 + _ ≤ _; exact Nat.le_of_eq rfl) (hb hby at_16) (fun _ _ => ⟨rfl, zds, (by decide : 2 + 0 ≤ _), (by decide : 12 + 0 ≤ _)⟩)
    dsimp only [Pt.U, Pt.locs, Pt.cells, Pt.slots] at z1e l420 y420 z420 zdw zdv
    replace z1e := own_sub z1e l420 y420 z420
    obtain ⟨rfl, zvd, zdx⟩ := zdv
    have zve := Fr.app zv5 zvd
    obtain ⟨cq421, kq421, zvf, z143, zvg⟩ := isOf hZ zdx (EN.2.2.2.2.1.2.2.2.2.2.2.2.1.ext z3k.2)
    obtain ⟨_, _, ⟨z6b, L421, z145, n421⟩, -, zn, ⟨Lc421, zdy, l421, y421, z421⟩, zdz⟩ := z1e.virtualBack hx (y := own_m2) (z := own_m2) hown (mvT hZ (own_W hw 88 rfl)) (mvT hZ (own_W hw 89 rfl)) (notFace_of_selects (args := #[]) (mvT hZ (own_W hw 91 rfl))) (mvT hZ (own_W hw 91 rfl)) (mvT hZ (own_W hw 90 rfl)) (by decide) (backOf (W := 0) (rm30 l Z a0 hw [] zdr n0 p1 A K cs (A 19) (19 : Int32) EN EN.2.2.2.2.1.2.2.2.2.2.2.2.1 EN.2.2.2.2.2.2.2.2.2.1.1 (Fld.ne EN.2.2.2.2.2.2.2.2.2.1.1 EN.2.2.2.2.2.2.2.1.2.2.2.2.1 (fun h => by injection h with h; exact absurd h (by decide))) z3k) hZ (own_W hw 92 rfl) (own_W hw 6 rfl) (by decide) (by decide)) zvf zvg (g := (mkF m 38 #[.val (.int p1), .val (.int 19), .val (.ref (A 19)), .val (.int 0)] [(.ref (A 19))])) rfl (by rw [hml]; rfl) (Steps.refl _) (argsL := []) (rest := []) (lenOf own_pd6 rfl) rfl (by show 2 * 0 + _ ≤ _; exact Nat.le_of_eq rfl) (hb hby at_38) (fun _ _ => ⟨rfl, zdx, (by decide : 2 + 0 ≤ _), (by decide : 12 + 0 ≤ _)⟩)
    dsimp only [Pt.U, Pt.locs, Pt.cells, Pt.slots] at zn l421 y421 z421 zdz zdy
    replace zn := own_sub zn l421 y421 z421
    obtain ⟨rfl, zvh, zvi⟩ := zdy
    have zvj := Fr.app zve zvh
    obtain ⟨fs, hr, hrun, hended, hEW⟩ := zn.leaveW (s := s) hS410 (by rw [zvi]; exact zv9) (v := some (.int 1)) (fun h => by rw [Bd.returns] at h; cases h)
    refine ⟨_, _, zv6 _ ?_, hrun, hended, _, _, rfl, ?_, hEW.1, hEW.2.1, hEW.2.2.1, hEW.2.2.2.mono (by decide) (by decide)⟩
    · show own_Y p e below z6a m 14 #[.val (.int p1), .val (.int 19), .val (.ref (A 19)), .unset] [(.ref (A 19))] _
      refine zva _ ?_
      show own_Y p e below zv7 m 16 #[.val (.int p1), .val (.int 19), .val (.ref (A 19)), .unset] [(.ref sa410), (.ref (A 19))] _
      refine zdw.trans ?_
      show own_Y p e below zdu m 19 #[.val (.int p1), .val (.int 19), .val (.ref (A 19)), .unset] [(.int 0)] _
      refine XS.ifYes z1e.here hx rfl (pc0 := 19) (pc' := 35) rfl (hb hby at_19) rfl ((if0 _ _).trans (teq (by decide : (0 : Int32) = (0 : Int32))).1) (by decide) (by decide) ?_
      show own_Y p e below zdu m 35 #[.val (.int p1), .val (.int 19), .val (.ref (A 19)), .unset] [] _
      refine XS.iconst z1e.here hx rfl (hb hby at_35) ?_
      refine XS.istoreN z1e.here hx rfl (hb hby at_36) rfl (l' := #[.val (.int p1), .val (.int 19), .val (.ref (A 19)), .val (.int 0)]) rfl ?_
      refine XS.aloadN z1e.here hx rfl (hb hby at_37) rfl rfl ?_
      refine zdz.trans ?_
      show own_Y p e below z6b m 41 #[.val (.int p1), .val (.int 19), .val (.ref (A 19)), .val (.int 0)] [(.int 0)] _
      refine XS.iloadN zn.here hx rfl (hb hby at_41) rfl ?_
      refine XS.icmpNo zn.here hx rfl (hb hby at_42) rfl (teq (by decide : (0 : Int32) = (0 : Int32))).2 ?_
      show own_Y p e below z6b m 45 #[.val (.int p1), .val (.int 19), .val (.ref (A 19)), .val (.int 0)] [] _
      refine XS.iconst zn.here hx rfl (hb hby at_45) ?_
      refine XS.goto zn.here hx rfl (pc0 := 46) (pc' := 50) rfl (hb hby at_46) (by decide) (by decide) ?_
      exact retN zn hx (t := .boolean) Bd.returns (by simp) (hb hby at_50) hr
    · show LQ n0 _ z6b.heap _
      exact ⟨rfl, zvj, trivial⟩
  | 20, _, z0 =>
    obtain ⟨_, _, ⟨z6c, L422, z148, n422⟩, -, z2l, ⟨Lc422, ze0, l422, y422, z422⟩, ze1⟩ := Jvm.LawKit.callS X0 hx (y := own_m5) hown (mvT hZ (own_W hw 1 rfl)) (mvT hZ (own_W hw 2 rfl)) (mvT hZ (own_W hw 3 rfl)) (mvT hZ (own_W hw 4 rfl)) (by decide) (backOf (W := 0) (rmPick l Z a0 hw [] h0 n0 p1 A K cs (20 : Int32) (A 20) EN ⟨20, by decide, rfl⟩ (congrArg A (by decide)) OL0) hZ (own_W hw 4 rfl) (own_W hw 3 rfl) (by decide) (by decide)) (g := (mkF m 9 #[.val (.int p1), .val (.int 20), .unset, .unset] [(.int 20)])) rfl (by rw [hml]; rfl) (argsL := [(.int 20)]) (rest := []) (lenOf own_pd0 rfl) rfl (by show 2 * 0 + _ ≤ _; exact Nat.le_of_eq rfl) (hb hby at_9) (fun _ _ => ⟨rfl, e0, (by decide : 0 + 0 ≤ _), (by decide : 0 + 0 ≤ _)⟩)
    dsimp only [Pt.U, Pt.locs, Pt.cells, Pt.slots] at z2l l422 y422 z422 ze1 ze0
    replace z2l := own_sub z2l l422 y422 z422
    obtain ⟨rfl, zvk, zvl⟩ := ze0
    have zvm := Fr.app N0 zvk
    have zvn : own_P p e below z6c m 14 #[.val (.int p1), .val (.int 20), .val (.ref (A 20)), .unset] [(.ref (A 20))] s₁ #[(.int p1)] maxLocals := fun t k => z2 t (by
      show own_Y p e below s₁ m 7 #[.val (.int p1), .unset, .unset, .unset] [(.int ((p1 &&& (2147483647 : Int32)) % 28))] _
      rw [z0]
      show own_Y p e below s₁ m 7 #[.val (.int p1), .unset, .unset, .unset] [(.int 20)] _
      refine XS.istoreN X0.here hx rfl (hb hby at_7) rfl (l' := #[.val (.int p1), .val (.int 20), .unset, .unset]) rfl ?_
      refine XS.iloadN X0.here hx rfl (hb hby at_8) rfl ?_
      refine ze1 _ ?_
      show own_Y p e below z6c m 12 #[.val (.int p1), .val (.int 20), .unset, .unset] [(.ref (A 20))] _
      refine XS.astoreN z2l.here hx rfl (hb hby at_12) rfl rfl (l' := #[.val (.int p1), .val (.int 20), .val (.ref (A 20)), .unset]) rfl ?_
      refine XS.aloadN z2l.here hx rfl (hb hby at_13) rfl rfl ?_
      exact k)
    obtain ⟨sa424, zvo, ze2, kk424, sb424, kc424, zvp, ze3, ze4, hS424, zvq, hZ, hown, Es424, Cs424, Vs424, As424, la424, lb424, C424, -, -, zvr⟩ := ldcCH (s := s) z2l hx hZ hown (own_W hw 8 rfl) (own_strAtoms a0 Z hw) zvl hS0 z1 (own_EW a0 Z hw) (List.mem_of_getElem? (i := 3) rfl) H0 (vs := [(.int 48), (.int 48)]) (z := (2 : Int32)) ⟨by decide, by decide⟩ (by decide) (by decide) (g := (mkF m 14 #[.val (.int p1), .val (.int 20), .val (.ref (A 20)), .unset] [(.ref (A 20))])) rfl (hb hby at_14) (n := 8) (by decide) (by decide) (by decide) (by decide)
    have z3l := OL0.ext ze4
    have z149 := KK0.ext ze4
    obtain ⟨cq425, kq425, zvs, z14a, zvt⟩ := isOf hZ ze3 (EN.2.2.2.2.2.1.2.1.ext z3l.2)
    obtain ⟨_, _, ⟨ze5, L425, z14b, n425⟩, -, z1f, ⟨Lc425, ze6, l425, y425, z425⟩, ze7⟩ := zvp.virtualBack hx (y := own_m0) (z := own_m0) hown (mvT hZ (own_W hw 16 rfl)) (mvT hZ (own_W hw 17 rfl)) (notFace_of_selects (args := #[]) (mvT hZ (own_W hw 19 rfl))) (mvT hZ (own_W hw 19 rfl)) (mvT hZ (own_W hw 18 rfl)) (by decide) (backOf (W := 0) (rm60 l Z a0 hw [] ze2 n0 p1 A K cs (A 20) (20 : Int32) sb424 sa424 kc424 EN EN.2.2.2.2.2.1.2.1 EN.2.2.2.2.2.2.2.2.2.1.2.2.2.2.1 (by decide) z3l Es424 Vs424 As424 Cs424) hZ (own_W hw 20 rfl) (own_W hw 6 rfl) (by decide) (by decide)) zvs zvt (g := (mkF m 16 #[.val (.int p1), .val (.int 20), .val (.ref (A 20)), .unset] [(.ref sa424), (.ref (A 20))])) rfl (by rw [hml]; rfl) (Steps.refl _) (argsL := [(.ref sa424)]) (rest := []) (lenOf own_pd5 rfl) rfl (by show 2 * 0 + _ ≤ _; exact Nat.le_of_eq rfl) (hb hby at_16) (fun _ _ => ⟨rfl, ze3, (by decide : 2 + 0 ≤ _), (by decide : 12 + 0 ≤ _)⟩)
    dsimp only [Pt.U, Pt.locs, Pt.cells, Pt.slots] at z1f l425 y425 z425 ze7 ze6
    replace z1f := own_sub z1f l425 y425 z425
    obtain ⟨rfl, zvu, ze8⟩ := ze6
    have zvv := Fr.app zvm zvu
    obtain ⟨cq426, kq426, zvw, z14c, zvx⟩ := isOf hZ ze8 (EN.2.2.2.2.2.1.2.1.ext z3l.2)
    obtain ⟨_, _, ⟨z6d, L426, z14d, n426⟩, -, zo, ⟨Lc426, ze9, l426, y426, z426⟩, zea⟩ := z1f.virtualBack hx (y := own_m2) (z := own_m2) hown (mvT hZ (own_W hw 88 rfl)) (mvT hZ (own_W hw 89 rfl)) (notFace_of_selects (args := #[]) (mvT hZ (own_W hw 91 rfl))) (mvT hZ (own_W hw 91 rfl)) (mvT hZ (own_W hw 90 rfl)) (by decide) (backOf (W := 0) (rm30 l Z a0 hw [] ze2 n0 p1 A K cs (A 20) (20 : Int32) EN EN.2.2.2.2.2.1.2.1 EN.2.2.2.2.2.2.2.2.2.1.2.2.2.2.1 (Fld.ne EN.2.2.2.2.2.2.2.2.2.1.2.2.2.2.1 EN.2.2.2.2.2.2.2.1.2.2.2.2.1 (fun h => by injection h with h; exact absurd h (by decide))) z3l) hZ (own_W hw 92 rfl) (own_W hw 6 rfl) (by decide) (by decide)) zvw zvx (g := (mkF m 38 #[.val (.int p1), .val (.int 20), .val (.ref (A 20)), .val (.int 0)] [(.ref (A 20))])) rfl (by rw [hml]; rfl) (Steps.refl _) (argsL := []) (rest := []) (lenOf own_pd6 rfl) rfl (by show 2 * 0 + _ ≤ _; exact Nat.le_of_eq rfl) (hb hby at_38) (fun _ _ => ⟨rfl, ze8, (by decide : 2 + 0 ≤ _), (by decide : 12 + 0 ≤ _)⟩)
    dsimp only [Pt.U, Pt.locs, Pt.cells, Pt.slots] at zo l426 y426 z426 zea ze9
    replace zo := own_sub zo l426 y426 z426
    obtain ⟨rfl, zvy, zvz⟩ := ze9
    have zw0 := Fr.app zvv zvy
    obtain ⟨fs, hr, hrun, hended, hEW⟩ := zo.leaveW (s := s) hS424 (by rw [zvz]; exact zvq) (v := some (.int 1)) (fun h => by rw [Bd.returns] at h; cases h)
    refine ⟨_, _, zvn _ ?_, hrun, hended, _, _, rfl, ?_, hEW.1, hEW.2.1, hEW.2.2.1, hEW.2.2.2.mono (by decide) (by decide)⟩
    · show own_Y p e below z6c m 14 #[.val (.int p1), .val (.int 20), .val (.ref (A 20)), .unset] [(.ref (A 20))] _
      refine zvr _ ?_
      show own_Y p e below zvo m 16 #[.val (.int p1), .val (.int 20), .val (.ref (A 20)), .unset] [(.ref sa424), (.ref (A 20))] _
      refine ze7.trans ?_
      show own_Y p e below ze5 m 19 #[.val (.int p1), .val (.int 20), .val (.ref (A 20)), .unset] [(.int 0)] _
      refine XS.ifYes z1f.here hx rfl (pc0 := 19) (pc' := 35) rfl (hb hby at_19) rfl ((if0 _ _).trans (teq (by decide : (0 : Int32) = (0 : Int32))).1) (by decide) (by decide) ?_
      show own_Y p e below ze5 m 35 #[.val (.int p1), .val (.int 20), .val (.ref (A 20)), .unset] [] _
      refine XS.iconst z1f.here hx rfl (hb hby at_35) ?_
      refine XS.istoreN z1f.here hx rfl (hb hby at_36) rfl (l' := #[.val (.int p1), .val (.int 20), .val (.ref (A 20)), .val (.int 0)]) rfl ?_
      refine XS.aloadN z1f.here hx rfl (hb hby at_37) rfl rfl ?_
      refine zea.trans ?_
      show own_Y p e below z6d m 41 #[.val (.int p1), .val (.int 20), .val (.ref (A 20)), .val (.int 0)] [(.int 0)] _
      refine XS.iloadN zo.here hx rfl (hb hby at_41) rfl ?_
      refine XS.icmpNo zo.here hx rfl (hb hby at_42) rfl (teq (by decide : (0 : Int32) = (0 : Int32))).2 ?_
      show own_Y p e below z6d m 45 #[.val (.int p1), .val (.int 20), .val (.ref (A 20)), .val (.int 0)] [] _
      refine XS.iconst zo.here hx rfl (hb hby at_45) ?_
      refine XS.goto zo.here hx rfl (pc0 := 46) (pc' := 50) rfl (hb hby at_46) (by decide) (by decide) ?_
      exact retN zo hx (t := .boolean) Bd.returns (by simp) (hb hby at_50) hr
    · show LQ n0 _ z6d.heap _
      exact ⟨rfl, zw0, trivial⟩
  | 21, _, z0 =>
    obtain ⟨_, _, ⟨z6e, L427, z14e, n427⟩, -, z2m, ⟨Lc427, zeb, l427, y427, z427⟩, zec⟩ := Jvm.LawKit.callS X0 hx (y := own_m5) hown (mvT hZ (own_W hw 1 rfl)) (mvT hZ (own_W hw 2 rfl)) (mvT hZ (own_W hw 3 rfl)) (mvT hZ (own_W hw 4 rfl)) (by decide) (backOf (W := 0) (rmPick l Z a0 hw [] h0 n0 p1 A K cs (21 : Int32) (A 21) EN ⟨21, by decide, rfl⟩ (congrArg A (by decide)) OL0) hZ (own_W hw 4 rfl) (own_W hw 3 rfl) (by decide) (by decide)) (g := (mkF m 9 #[.val (.int p1), .val (.int 21), .unset, .unset] [(.int 21)])) rfl (by rw [hml]; rfl) (argsL := [(.int 21)]) (rest := []) (lenOf own_pd0 rfl) rfl (by show 2 * 0 + _ ≤ _; exact Nat.le_of_eq rfl) (hb hby at_9) (fun _ _ => ⟨rfl, e0, (by decide : 0 + 0 ≤ _), (by decide : 0 + 0 ≤ _)⟩)
    dsimp only [Pt.U, Pt.locs, Pt.cells, Pt.slots] at z2m l427 y427 z427 zec zeb
    replace z2m := own_sub z2m l427 y427 z427
    obtain ⟨rfl, zw1, zw2⟩ := zeb
    have zw3 := Fr.app N0 zw1
    have zw4 : own_P p e below z6e m 14 #[.val (.int p1), .val (.int 21), .val (.ref (A 21)), .unset] [(.ref (A 21))] s₁ #[(.int p1)] maxLocals := fun t k => z2 t (by
      show own_Y p e below s₁ m 7 #[.val (.int p1), .unset, .unset, .unset] [(.int ((p1 &&& (2147483647 : Int32)) % 28))] _
      rw [z0]
      show own_Y p e below s₁ m 7 #[.val (.int p1), .unset, .unset, .unset] [(.int 21)] _
      refine XS.istoreN X0.here hx rfl (hb hby at_7) rfl (l' := #[.val (.int p1), .val (.int 21), .unset, .unset]) rfl ?_
      refine XS.iloadN X0.here hx rfl (hb hby at_8) rfl ?_
      refine zec _ ?_
      show own_Y p e below z6e m 12 #[.val (.int p1), .val (.int 21), .unset, .unset] [(.ref (A 21))] _
      refine XS.astoreN z2m.here hx rfl (hb hby at_12) rfl rfl (l' := #[.val (.int p1), .val (.int 21), .val (.ref (A 21)), .unset]) rfl ?_
      refine XS.aloadN z2m.here hx rfl (hb hby at_13) rfl rfl ?_
      exact k)
    obtain ⟨sa429, zw5, zed, kk429, sb429, kc429, zw6, zee, zef, hS429, zw7, hZ, hown, Es429, Cs429, Vs429, As429, la429, lb429, C429, -, -, zw8⟩ := ldcCH (s := s) z2m hx hZ hown (own_W hw 8 rfl) (own_strAtoms a0 Z hw) zw2 hS0 z1 (own_EW a0 Z hw) (List.mem_of_getElem? (i := 3) rfl) H0 (vs := [(.int 48), (.int 48)]) (z := (2 : Int32)) ⟨by decide, by decide⟩ (by decide) (by decide) (g := (mkF m 14 #[.val (.int p1), .val (.int 21), .val (.ref (A 21)), .unset] [(.ref (A 21))])) rfl (hb hby at_14) (n := 8) (by decide) (by decide) (by decide) (by decide)
    have z3m := OL0.ext zef
    have z14f := KK0.ext zef
    obtain ⟨cq438, kq438, zw9, z14g, zwa⟩ := isOf hZ zee (EN.2.2.2.2.2.1.2.2.2.1.ext z3m.2)
    obtain ⟨_, _, ⟨zeg, L438, z14h, n438⟩, -, z1g, ⟨Lc438, zeh, l438, y438, z438⟩, zei⟩ := zw6.virtualBack hx (y := own_m0) (z := own_m0) hown (mvT hZ (own_W hw 16 rfl)) (mvT hZ (own_W hw 17 rfl)) (notFace_of_selects (args := #[]) (mvT hZ (own_W hw 19 rfl))) (mvT hZ (own_W hw 19 rfl)) (mvT hZ (own_W hw 18 rfl)) (by decide) (backOf (W := 0) (rm66 l Z a0 hw [] zed n0 p1 A K cs (A 21) (21 : Int32) sb429 sa429 kc429 EN EN.2.2.2.2.2.1.2.2.2.1 EN.2.2.2.2.2.2.2.2.2.2.1.2.2.2.2.2.2.1 (by decide) z3m Es429 Vs429 As429 Cs429) hZ (own_W hw 20 rfl) (own_W hw 6 rfl) (by decide) (by decide)) zw9 zwa (g := (mkF m 16 #[.val (.int p1), .val (.int 21), .val (.ref (A 21)), .unset] [(.ref sa429), (.ref (A 21))])) rfl (by rw [hml]; rfl) (Steps.refl _) (argsL := [(.ref sa429)]) (rest := []) (lenOf own_pd5 rfl) rfl (by show 2 * 0 + _ ≤ _; exact Nat.le_of_eq rfl) (hb hby at_16) (fun _ _ => ⟨rfl, zee, (by decide : 2 + 0 ≤ _), (by decide : 12 + 0 ≤ _)⟩)
    dsimp only [Pt.U, Pt.locs, Pt.cells, Pt.slots] at z1g l438 y438 z438 zei zeh
    replace z1g := own_sub z1g l438 y438 z438
    obtain ⟨rfl, zwb, zej⟩ := zeh
    have zwc := Fr.app zw3 zwb
    obtain ⟨cq439, kq439, zwd, z14i, zwe⟩ := isOf hZ zej (EN.2.2.2.2.2.1.2.2.2.1.ext z3m.2)
    obtain ⟨_, _, ⟨z6f, L439, z14j, n439⟩, -, zp, ⟨Lc439, zek, l439, y439, z439⟩, zel⟩ := z1g.virtualBack hx (y := own_m2) (z := own_m2) hown (mvT hZ (own_W hw 88 rfl)) (mvT hZ (own_W hw 89 rfl)) (notFace_of_selects (args := #[]) (mvT hZ (own_W hw 91 rfl))) (mvT hZ (own_W hw 91 rfl)) (mvT hZ (own_W hw 90 rfl)) (by decide) (backOf (W := 0) (rm30 l Z a0 hw [] zed n0 p1 A K cs (A 21) (21 : Int32) EN EN.2.2.2.2.2.1.2.2.2.1 EN.2.2.2.2.2.2.2.2.2.2.1.2.2.2.2.2.2.1 (Fld.ne EN.2.2.2.2.2.2.2.2.2.2.1.2.2.2.2.2.2.1 EN.2.2.2.2.2.2.2.1.2.2.2.2.1 (fun h => by injection h with h; exact absurd h (by decide))) z3m) hZ (own_W hw 92 rfl) (own_W hw 6 rfl) (by decide) (by decide)) zwd zwe (g := (mkF m 38 #[.val (.int p1), .val (.int 21), .val (.ref (A 21)), .val (.int 0)] [(.ref (A 21))])) rfl (by rw [hml]; rfl) (Steps.refl _) (argsL := []) (rest := []) (lenOf own_pd6 rfl) rfl (by show 2 * 0 + _ ≤ _; exact Nat.le_of_eq rfl) (hb hby at_38) (fun _ _ => ⟨rfl, zej, (by decide : 2 + 0 ≤ _), (by decide : 12 + 0 ≤ _)⟩)
    dsimp only [Pt.U, Pt.locs, Pt.cells, Pt.slots] at zp l439 y439 z439 zel zek
    replace zp := own_sub zp l439 y439 z439
    obtain ⟨rfl, zwf, zwg⟩ := zek
    have zwh := Fr.app zwc zwf
    obtain ⟨fs, hr, hrun, hended, hEW⟩ := zp.leaveW (s := s) hS429 (by rw [zwg]; exact zw7) (v := some (.int 1)) (fun h => by rw [Bd.returns] at h; cases h)
    refine ⟨_, _, zw4 _ ?_, hrun, hended, _, _, rfl, ?_, hEW.1, hEW.2.1, hEW.2.2.1, hEW.2.2.2.mono (by decide) (by decide)⟩
    · show own_Y p e below z6e m 14 #[.val (.int p1), .val (.int 21), .val (.ref (A 21)), .unset] [(.ref (A 21))] _
      refine zw8 _ ?_
      show own_Y p e below zw5 m 16 #[.val (.int p1), .val (.int 21), .val (.ref (A 21)), .unset] [(.ref sa429), (.ref (A 21))] _
      refine zei.trans ?_
      show own_Y p e below zeg m 19 #[.val (.int p1), .val (.int 21), .val (.ref (A 21)), .unset] [(.int 0)] _
      refine XS.ifYes z1g.here hx rfl (pc0 := 19) (pc' := 35) rfl (hb hby at_19) rfl ((if0 _ _).trans (teq (by decide : (0 : Int32) = (0 : Int32))).1) (by decide) (by decide) ?_
      show own_Y p e below zeg m 35 #[.val (.int p1), .val (.int 21), .val (.ref (A 21)), .unset] [] _
      refine XS.iconst z1g.here hx rfl (hb hby at_35) ?_
      refine XS.istoreN z1g.here hx rfl (hb hby at_36) rfl (l' := #[.val (.int p1), .val (.int 21), .val (.ref (A 21)), .val (.int 0)]) rfl ?_
      refine XS.aloadN z1g.here hx rfl (hb hby at_37) rfl rfl ?_
      refine zel.trans ?_
      show own_Y p e below z6f m 41 #[.val (.int p1), .val (.int 21), .val (.ref (A 21)), .val (.int 0)] [(.int 0)] _
      refine XS.iloadN zp.here hx rfl (hb hby at_41) rfl ?_
      refine XS.icmpNo zp.here hx rfl (hb hby at_42) rfl (teq (by decide : (0 : Int32) = (0 : Int32))).2 ?_
      show own_Y p e below z6f m 45 #[.val (.int p1), .val (.int 21), .val (.ref (A 21)), .val (.int 0)] [] _
      refine XS.iconst zp.here hx rfl (hb hby at_45) ?_
      refine XS.goto zp.here hx rfl (pc0 := 46) (pc' := 50) rfl (hb hby at_46) (by decide) (by decide) ?_
      exact retN zp hx (t := .boolean) Bd.returns (by simp) (hb hby at_50) hr
    · show LQ n0 _ z6f.heap _
      exact ⟨rfl, zwh, trivial⟩
  | 22, _, z0 =>
    obtain ⟨_, _, ⟨z6g, L440, z14k, n440⟩, -, z2n, ⟨Lc440, zem, l440, y440, z440⟩, zen⟩ := Jvm.LawKit.callS X0 hx (y := own_m5) hown (mvT hZ (own_W hw 1 rfl)) (mvT hZ (own_W hw 2 rfl)) (mvT hZ (own_W hw 3 rfl)) (mvT hZ (own_W hw 4 rfl)) (by decide) (backOf (W := 0) (rmPick l Z a0 hw [] h0 n0 p1 A K cs (22 : Int32) (A 22) EN ⟨22, by decide, rfl⟩ (congrArg A (by decide)) OL0) hZ (own_W hw 4 rfl) (own_W hw 3 rfl) (by decide) (by decide)) (g := (mkF m 9 #[.val (.int p1), .val (.int 22), .unset, .unset] [(.int 22)])) rfl (by rw [hml]; rfl) (argsL := [(.int 22)]) (rest := []) (lenOf own_pd0 rfl) rfl (by show 2 * 0 + _ ≤ _; exact Nat.le_of_eq rfl) (hb hby at_9) (fun _ _ => ⟨rfl, e0, (by decide : 0 + 0 ≤ _), (by decide : 0 + 0 ≤ _)⟩)
    dsimp only [Pt.U, Pt.locs, Pt.cells, Pt.slots] at z2n l440 y440 z440 zen zem
    replace z2n := own_sub z2n l440 y440 z440
    obtain ⟨rfl, zwi, zwj⟩ := zem
    have zwk := Fr.app N0 zwi
    have zwl : own_P p e below z6g m 14 #[.val (.int p1), .val (.int 22), .val (.ref (A 22)), .unset] [(.ref (A 22))] s₁ #[(.int p1)] maxLocals := fun t k => z2 t (by
      show own_Y p e below s₁ m 7 #[.val (.int p1), .unset, .unset, .unset] [(.int ((p1 &&& (2147483647 : Int32)) % 28))] _
      rw [z0]
      show own_Y p e below s₁ m 7 #[.val (.int p1), .unset, .unset, .unset] [(.int 22)] _
      refine XS.istoreN X0.here hx rfl (hb hby at_7) rfl (l' := #[.val (.int p1), .val (.int 22), .unset, .unset]) rfl ?_
      refine XS.iloadN X0.here hx rfl (hb hby at_8) rfl ?_
      refine zen _ ?_
      show own_Y p e below z6g m 12 #[.val (.int p1), .val (.int 22), .unset, .unset] [(.ref (A 22))] _
      refine XS.astoreN z2n.here hx rfl (hb hby at_12) rfl rfl (l' := #[.val (.int p1), .val (.int 22), .val (.ref (A 22)), .unset]) rfl ?_
      refine XS.aloadN z2n.here hx rfl (hb hby at_13) rfl rfl ?_
      exact k)
    obtain ⟨sa442, zwm, zeo, kk442, sb442, kc442, zwn, zep, zeq, hS442, zwo, hZ, hown, Es442, Cs442, Vs442, As442, la442, lb442, C442, -, -, zwp⟩ := ldcCH (s := s) z2n hx hZ hown (own_W hw 8 rfl) (own_strAtoms a0 Z hw) zwj hS0 z1 (own_EW a0 Z hw) (List.mem_of_getElem? (i := 3) rfl) H0 (vs := [(.int 48), (.int 48)]) (z := (2 : Int32)) ⟨by decide, by decide⟩ (by decide) (by decide) (g := (mkF m 14 #[.val (.int p1), .val (.int 22), .val (.ref (A 22)), .unset] [(.ref (A 22))])) rfl (hb hby at_14) (n := 8) (by decide) (by decide) (by decide) (by decide)
    have z3n := OL0.ext zeq
    have z14l := KK0.ext zeq
    obtain ⟨cq458, kq458, zwq, z14m, zwr⟩ := isOf hZ zep (EN.2.2.2.2.2.1.2.2.2.2.2.1.ext z3n.2)
    obtain ⟨_, _, ⟨zer, L458, z14n, n458⟩, -, z1h, ⟨Lc458, zes, l458, y458, z458⟩, zet⟩ := zwn.virtualBack hx (y := own_m0) (z := own_m0) hown (mvT hZ (own_W hw 16 rfl)) (mvT hZ (own_W hw 17 rfl)) (notFace_of_selects (args := #[]) (mvT hZ (own_W hw 19 rfl))) (mvT hZ (own_W hw 19 rfl)) (mvT hZ (own_W hw 18 rfl)) (by decide) (backOf (W := 0) (rm69 l Z a0 hw [] zeo n0 p1 A K cs (A 22) (22 : Int32) sb442 sa442 kc442 EN EN.2.2.2.2.2.1.2.2.2.2.2.1 EN.2.2.2.2.2.2.2.2.2.2.1.1 (by decide) z3n Es442 Vs442 As442 Cs442) hZ (own_W hw 20 rfl) (own_W hw 6 rfl) (by decide) (by decide)) zwq zwr (g := (mkF m 16 #[.val (.int p1), .val (.int 22), .val (.ref (A 22)), .unset] [(.ref sa442), (.ref (A 22))])) rfl (by rw [hml]; rfl) (Steps.refl _) (argsL := [(.ref sa442)]) (rest := []) (lenOf own_pd5 rfl) rfl (by show 2 * 0 + _ ≤ _; exact Nat.le_of_eq rfl) (hb hby at_16) (fun _ _ => ⟨rfl, zep, (by decide : 2 + 0 ≤ _), (by decide : 12 + 0 ≤ _)⟩)
    dsimp only [Pt.U, Pt.locs, Pt.cells, Pt.slots] at z1h l458 y458 z458 zet zes
    replace z1h := own_sub z1h l458 y458 z458
    obtain ⟨rfl, zws, zeu⟩ := zes
    have zwt := Fr.app zwk zws
    obtain ⟨cq459, kq459, zwu, z14o, zwv⟩ := isOf hZ zeu (EN.2.2.2.2.2.1.2.2.2.2.2.1.ext z3n.2)
    obtain ⟨_, _, ⟨z6h, L459, z14p, n459⟩, -, zq, ⟨Lc459, zev, l459, y459, z459⟩, zew⟩ := z1h.virtualBack hx (y := own_m2) (z := own_m2) hown (mvT hZ (own_W hw 88 rfl)) (mvT hZ (own_W hw 89 rfl)) (notFace_of_selects (args := #[]) (mvT hZ (own_W hw 91 rfl))) (mvT hZ (own_W hw 91 rfl)) (mvT hZ (own_W hw 90 rfl)) (by decide) (backOf (W := 0) (rm30 l Z a0 hw [] zeo n0 p1 A K cs (A 22) (22 : Int32) EN EN.2.2.2.2.2.1.2.2.2.2.2.1 EN.2.2.2.2.2.2.2.2.2.2.1.1 (Fld.ne EN.2.2.2.2.2.2.2.2.2.2.1.1 EN.2.2.2.2.2.2.2.1.2.2.2.2.1 (fun h => by injection h with h; exact absurd h (by decide))) z3n) hZ (own_W hw 92 rfl) (own_W hw 6 rfl) (by decide) (by decide)) zwu zwv (g := (mkF m 38 #[.val (.int p1), .val (.int 22), .val (.ref (A 22)), .val (.int 0)] [(.ref (A 22))])) rfl (by rw [hml]; rfl) (Steps.refl _) (argsL := []) (rest := []) (lenOf own_pd6 rfl) rfl (by show 2 * 0 + _ ≤ _; exact Nat.le_of_eq rfl) (hb hby at_38) (fun _ _ => ⟨rfl, zeu, (by decide : 2 + 0 ≤ _), (by decide : 12 + 0 ≤ _)⟩)
    dsimp only [Pt.U, Pt.locs, Pt.cells, Pt.slots] at zq l459 y459 z459 zew zev
    replace zq := own_sub zq l459 y459 z459
    obtain ⟨rfl, zww, zwx⟩ := zev
    have zwy := Fr.app zwt zww
    obtain ⟨fs, hr, hrun, hended, hEW⟩ := zq.leaveW (s := s) hS442 (by rw [zwx]; exact zwo) (v := some (.int 1)) (fun h => by rw [Bd.returns] at h; cases h)
    refine ⟨_, _, zwl _ ?_, hrun, hended, _, _, rfl, ?_, hEW.1, hEW.2.1, hEW.2.2.1, hEW.2.2.2.mono (by decide) (by decide)⟩
    · show own_Y p e below z6g m 14 #[.val (.int p1), .val (.int 22), .val (.ref (A 22)), .unset] [(.ref (A 22))] _
      refine zwp _ ?_
      show own_Y p e below zwm m 16 #[.val (.int p1), .val (.int 22), .val (.ref (A 22)), .unset] [(.ref sa442), (.ref (A 22))] _
      refine zet.trans ?_
      show own_Y p e below zer m 19 #[.val (.int p1), .val (.int 22), .val (.ref (A 22)), .unset] [(.int 0)] _
      refine XS.ifYes z1h.here hx rfl (pc0 := 19) (pc' := 35) rfl (hb hby at_19) rfl ((if0 _ _).trans (teq (by decide : (0 : Int32) = (0 : Int32))).1) (by decide) (by decide) ?_
      show own_Y p e below zer m 35 #[.val (.int p1), .val (.int 22), .val (.ref (A 22)), .unset] [] _
      refine XS.iconst z1h.here hx rfl (hb hby at_35) ?_
      refine XS.istoreN z1h.here hx rfl (hb hby at_36) rfl (l' := #[.val (.int p1), .val (.int 22), .val (.ref (A 22)), .val (.int 0)]) rfl ?_
      refine XS.aloadN z1h.here hx rfl (hb hby at_37) rfl rfl ?_
      refine zew.trans ?_
      show own_Y p e below z6h m 41 #[.val (.int p1), .val (.int 22), .val (.ref (A 22)), .val (.int 0)] [(.int 0)] _
      refine XS.iloadN zq.here hx rfl (hb hby at_41) rfl ?_
      refine XS.icmpNo zq.here hx rfl (hb hby at_42) rfl (teq (by decide : (0 : Int32) = (0 : Int32))).2 ?_
      show own_Y p e below z6h m 45 #[.val (.int p1), .val (.int 22), .val (.ref (A 22)), .val (.int 0)] [] _
      refine XS.iconst zq.here hx rfl (hb hby at_45) ?_
      refine XS.goto zq.here hx rfl (pc0 := 46) (pc' := 50) rfl (hb hby at_46) (by decide) (by decide) ?_
      exact retN zq hx (t := .boolean) Bd.returns (by simp) (hb hby at_50) hr
    · show LQ n0 _ z6h.heap _
      exact ⟨rfl, zwy, trivial⟩
  | 23, _, z0 =>
    obtain ⟨_, _, ⟨z6i, L460, z14q, n460⟩, -, z2o, ⟨Lc460, zex, l460, y460, z460⟩, zey⟩ := Jvm.LawKit.callS X0 hx (y := own_m5) hown (mvT hZ (own_W hw 1 rfl)) (mvT hZ (own_W hw 2 rfl)) (mvT hZ (own_W hw 3 rfl)) (mvT hZ (own_W hw 4 rfl)) (by decide) (backOf (W := 0) (rmPick l Z a0 hw [] h0 n0 p1 A K cs (23 : Int32) (A 23) EN ⟨23, by decide, rfl⟩ (congrArg A (by decide)) OL0) hZ (own_W hw 4 rfl) (own_W hw 3 rfl) (by decide) (by decide)) (g := (mkF m 9 #[.val (.int p1), .val (.int 23), .unset, .unset] [(.int 23)])) rfl (by rw [hml]; rfl) (argsL := [(.int 23)]) (rest := []) (lenOf own_pd0 rfl) rfl (by show 2 * 0 + _ ≤ _; exact Nat.le_of_eq rfl) (hb hby at_9) (fun _ _ => ⟨rfl, e0, (by decide : 0 + 0 ≤ _), (by decide : 0 + 0 ≤ _)⟩)
    dsimp only [Pt.U, Pt.locs, Pt.cells, Pt.slots] at z2o l460 y460 z460 zey zex
    replace z2o := own_sub z2o l460 y460 z460
    obtain ⟨rfl, zwz, zx0⟩ := zex
    have zx1 := Fr.app N0 zwz
    have zx2 : own_P p e below z6i m 14 #[.val (.int p1), .val (.int 23), .val (.ref (A 23)), .unset] [(.ref (A 23))] s₁ #[(.int p1)] maxLocals := fun t k => z2 t (by
      show own_Y p e below s₁ m 7 #[.val (.int p1), .unset, .unset, .unset] [(.int ((p1 &&& (2147483647 : Int32)) % 28))] _
      rw [z0]
      show own_Y p e below s₁ m 7 #[.val (.int p1), .unset, .unset, .unset] [(.int 23)] _
      refine XS.istoreN X0.here hx rfl (hb hby at_7) rfl (l' := #[.val (.int p1), .val (.int 23), .unset, .unset]) rfl ?_
      refine XS.iloadN X0.here hx rfl (hb hby at_8) rfl ?_
      refine zey _ ?_
      show own_Y p e below z6i m 12 #[.val (.int p1), .val (.int 23), .unset, .unset] [(.ref (A 23))] _
      refine XS.astoreN z2o.here hx rfl (hb hby at_12) rfl rfl (l' := #[.val (.int p1), .val (.int 23), .val (.ref (A 23)), .unset]) rfl ?_
      refine XS.aloadN z2o.here hx rfl (hb hby at_13) rfl rfl ?_
      exact k)
    obtain ⟨sa462, zx3, zez, kk462, sb462, kc462, zx4, zf0, zf1, hS462, zx5, hZ, hown, Es462, Cs462, Vs462, As462, la462, lb462, C462, -, -, zx6⟩ := ldcCH (s := s) z2o hx hZ hown (own_W hw 8 rfl) (own_strAtoms a0 Z hw) zx0 hS0 z1 (own_EW a0 Z hw) (List.mem_of_getElem? (i := 3) rfl) H0 (vs := [(.int 48), (.int 48)]) (z := (2 : Int32)) ⟨by decide, by decide⟩ (by decide) (by decide) (g := (mkF m 14 #[.val (.int p1), .val (.int 23), .val (.ref (A 23)), .unset] [(.ref (A 23))])) rfl (hb hby at_14) (n := 8) (by decide) (by decide) (by decide) (by decide)
    have z3o := OL0.ext zf1
    have z14r := KK0.ext zf1
    obtain ⟨cq482, kq482, zx7, z14s, zx8⟩ := isOf hZ zf0 (EN.2.2.2.2.2.1.2.2.2.2.2.2.2.1.ext z3o.2)
    obtain ⟨_, _, ⟨zf2, L482, z14t, n482⟩, -, z1i, ⟨Lc482, zf3, l482, y482, z482⟩, zf4⟩ := zx4.virtualBack hx (y := own_m0) (z := own_m0) hown (mvT hZ (own_W hw 16 rfl)) (mvT hZ (own_W hw 17 rfl)) (notFace_of_selects (args := #[]) (mvT hZ (own_W hw 19 rfl))) (mvT hZ (own_W hw 19 rfl)) (mvT hZ (own_W hw 18 rfl)) (by decide) (backOf (W := 0) (rm80 l Z a0 hw [] zez n0 p1 A K cs (A 23) (23 : Int32) sb462 sa462 kc462 EN EN.2.2.2.2.2.1.2.2.2.2.2.2.2.1 EN.2.2.2.2.2.2.2.2.2.1.2.2.2.2.2.1 (by decide) z3o Es462 Vs462 As462 Cs462) hZ (own_W hw 20 rfl) (own_W hw 6 rfl) (by decide) (by decide)) zx7 zx8 (g := (mkF m 16 #[.val (.int p1), .val (.int 23), .val (.ref (A 23)), .unset] [(.ref sa462), (.ref (A 23))])) rfl (by rw [hml]; rfl) (Steps.refl _) (argsL := [(.ref sa462)]) (rest := []) (lenOf own_pd5 rfl) rfl (by show 2 * 0 + _ ≤ _; exact Nat.le_of_eq rfl) (hb hby at_16) (fun _ _ => ⟨rfl, zf0, (by decide : 2 + 0 ≤ _), (by decide : 12 + 0 ≤ _)⟩)
    dsimp only [Pt.U, Pt.locs, Pt.cells, Pt.slots] at z1i l482 y482 z482 zf4 zf3
    replace z1i := own_sub z1i l482 y482 z482
    obtain ⟨rfl, zx9, zf5⟩ := zf3
    have zxa := Fr.app zx1 zx9
    obtain ⟨cq483, kq483, zxb, z14u, zxc⟩ := isOf hZ zf5 (EN.2.2.2.2.2.1.2.2.2.2.2.2.2.1.ext z3o.2)
    obtain ⟨_, _, ⟨z6j, L483, z14v, n483⟩, -, zr, ⟨Lc483, zf6, l483, y483, z483⟩, zf7⟩ := z1i.virtualBack hx (y := own_m2) (z := own_m2) hown (mvT hZ (own_W hw 88 rfl)) (mvT hZ (own_W hw 89 rfl)) (notFace_of_selects (args := #[]) (mvT hZ (own_W hw 91 rfl))) (mvT hZ (own_W hw 91 rfl)) (mvT hZ (own_W hw 90 rfl)) (by decide) (backOf (W := 0) (rm30 l Z a0 hw [] zez n0 p1 A K cs (A 23) (23 : Int32) EN EN.2.2.2.2.2.1.2.2.2.2.2.2.2.1 EN.2.2.2.2.2.2.2.2.2.1.2.2.2.2.2.1 (Fld.ne EN.2.2.2.2.2.2.2.2.2.1.2.2.2.2.2.1 EN.2.2.2.2.2.2.2.1.2.2.2.2.1 (fun h => by injection h with h; exact absurd h (by decide))) z3o) hZ (own_W hw 92 rfl) (own_W hw 6 rfl) (by decide) (by decide)) zxb zxc (g := (mkF m 38 #[.val (.int p1), .val (.int 23), .val (.ref (A 23)), .val (.int 0)] [(.ref (A 23))])) rfl (by rw [hml]; rfl) (Steps.refl _) (argsL := []) (rest := []) (lenOf own_pd6 rfl) rfl (by show 2 * 0 + _ ≤ _; exact Nat.le_of_eq rfl) (hb hby at_38) (fun _ _ => ⟨rfl, zf5, (by decide : 2 + 0 ≤ _), (by decide : 12 + 0 ≤ _)⟩)
    dsimp only [Pt.U, Pt.locs, Pt.cells, Pt.slots] at zr l483 y483 z483 zf7 zf6
    replace zr := own_sub zr l483 y483 z483
    obtain ⟨rfl, zxd, zxe⟩ := zf6
    have zxf := Fr.app zxa zxd
    obtain ⟨fs, hr, hrun, hended, hEW⟩ := zr.leaveW (s := s) hS462 (by rw [zxe]; exact zx5) (v := some (.int 1)) (fun h => by rw [Bd.returns] at h; cases h)
    refine ⟨_, _, zx2 _ ?_, hrun, hended, _, _, rfl, ?_, hEW.1, hEW.2.1, hEW.2.2.1, hEW.2.2.2.mono (by decide) (by decide)⟩
    · show own_Y p e below z6i m 14 #[.val (.int p1), .val (.int 23), .val (.ref (A 23)), .unset] [(.ref (A 23))] _
      refine zx6 _ ?_
      show own_Y p e below zx3 m 16 #[.val (.int p1), .val (.int 23), .val (.ref (A 23)), .unset] [(.ref sa462), (.ref (A 23))] _
      refine zf4.trans ?_
      show own_Y p e below zf2 m 19 #[.val (.int p1), .val (.int 23), .val (.ref (A 23)), .unset] [(.int 0)] _
      refine XS.ifYes z1i.here hx rfl (pc0 := 19) (pc' := 35) rfl (hb hby at_19) rfl ((if0 _ _).trans (teq (by decide : (0 : Int32) = (0 : Int32))).1) (by decide) (by decide) ?_
      show own_Y p e below zf2 m 35 #[.val (.int p1), .val (.int 23), .val (.ref (A 23)), .unset] [] _
      refine XS.iconst z1i.here hx rfl (hb hby at_35) ?_
      refine XS.istoreN z1i.here hx rfl (hb hby at_36) rfl (l' := #[.val (.int p1), .val (.int 23), .val (.ref (A 23)), .val (.int 0)]) rfl ?_
      refine XS.aloadN z1i.here hx rfl (hb hby at_37) rfl rfl ?_
      refine zf7.trans ?_
      show own_Y p e below z6j m 41 #[.val (.int p1), .val (.int 23), .val (.ref (A 23)), .val (.int 0)] [(.int 0)] _
      refine XS.iloadN zr.here hx rfl (hb hby at_41) rfl ?_
      refine XS.icmpNo zr.here hx rfl (hb hby at_42) rfl (teq (by decide : (0 : Int32) = (0 : Int32))).2 ?_
      show own_Y p e below z6j m 45 #[.val (.int p1), .val (.int 23), .val (.ref (A 23)), .val (.int 0)] [] _
      refine XS.iconst zr.here hx rfl (hb hby at_45) ?_
      refine XS.goto zr.here hx rfl (pc0 := 46) (pc' := 50) rfl (hb hby at_46) (by decide) (by decide) ?_
      exact retN zr hx (t := .boolean) Bd.returns (by simp) (hb hby at_50) hr
    · show LQ n0 _ z6j.heap _
      exact ⟨rfl, zxf, trivial⟩
  | 24, _, z0 =>
    obtain ⟨_, _, ⟨z6k, L484, z14w, n484⟩, -, z2p, ⟨Lc484, zf8, l484, y484, z484⟩, zf9⟩ := Jvm.LawKit.callS X0 hx (y := own_m5) hown (mvT hZ (own_W hw 1 rfl)) (mvT hZ (own_W hw 2 rfl)) (mvT hZ (own_W hw 3 rfl)) (mvT hZ (own_W hw 4 rfl)) (by decide) (backOf (W := 0) (rmPick l Z a0 hw [] h0 n0 p1 A K cs (24 : Int32) (A 24) EN ⟨24, by decide, rfl⟩ (congrArg A (by decide)) OL0) hZ (own_W hw 4 rfl) (own_W hw 3 rfl) (by decide) (by decide)) (g := (mkF m 9 #[.val (.int p1), .val (.int 24), .unset, .unset] [(.int 24)])) rfl (by rw [hml]; rfl) (argsL := [(.int 24)]) (rest := []) (lenOf own_pd0 rfl) rfl (by show 2 * 0 + _ ≤ _; exact Nat.le_of_eq rfl) (hb hby at_9) (fun _ _ => ⟨rfl, e0, (by decide : 0 + 0 ≤ _), (by decide : 0 + 0 ≤ _)⟩)
    dsimp only [Pt.U, Pt.locs, Pt.cells, Pt.slots] at z2p l484 y484 z484 zf9 zf8
    replace z2p := own_sub z2p l484 y484 z484
    obtain ⟨rfl, zxg, zxh⟩ := zf8
    have zxi := Fr.app N0 zxg
    have zxj : own_P p e below z6k m 14 #[.val (.int p1), .val (.int 24), .val (.ref (A 24)), .unset] [(.ref (A 24))] s₁ #[(.int p1)] maxLocals := fun t k => z2 t (by
      show own_Y p e below s₁ m 7 #[.val (.int p1), .unset, .unset, .unset] [(.int ((p1 &&& (2147483647 : Int32)) % 28))] _
      rw [z0]
      show own_Y p e below s₁ m 7 #[.val (.int p1), .unset, .unset, .unset] [(.int 24)] _
      refine XS.istoreN X0.here hx rfl (hb hby at_7) rfl (l' := #[.val (.int p1), .val (.int 24), .unset, .unset]) rfl ?_
      refine XS.iloadN X0.here hx rfl (hb hby at_8) rfl ?_
      refine zf9 _ ?_
      show own_Y p e below z6k m 12 #[.val (.int p1), .val (.int 24), .unset, .unset] [(.ref (A 24))] _
      refine XS.astoreN z2p.here hx rfl (hb hby at_12) rfl rfl (l' := #[.val (.int p1), .val (.int 24), .val (.ref (A 24)), .unset]) rfl ?_
      refine XS.aloadN z2p.here hx rfl (hb hby at_13) rfl rfl ?_
      exact k)
    obtain ⟨sa486, zxk, zfa, kk486, sb486, kc486, zxl, zfb, zfc, hS486, zxm, hZ, hown, Es486, Cs486, Vs486, As486, la486, lb486, C486, -, -, zxn⟩ := ldcCH (s := s) z2p hx hZ hown (own_W hw 8 rfl) (own_strAtoms a0 Z hw) zxh hS0 z1 (own_EW a0 Z hw) (List.mem_of_getElem? (i := 3) rfl) H0 (vs := [(.int 48), (.int 48)]) (z := (2 : Int32)) ⟨by decide, by decide⟩ (by decide) (by decide) (g := (mkF m 14 #[.val (.int p1), .val (.int 24), .val (.ref (A 24)), .unset] [(.ref (A 24))])) rfl (hb hby at_14) (n := 8) (by decide) (by decide) (by decide) (by decide)
    have z3p := OL0.ext zfc
    have z14x := KK0.ext zfc
    obtain ⟨cq499, kq499, zxo, z14y, zxp⟩ := isOf hZ zfb (EN.2.2.2.2.2.2.1.2.1.ext z3p.2)
    obtain ⟨_, _, ⟨zfd, L499, z14z, n499⟩, -, z1j, ⟨Lc499, zfe, l499, y499, z499⟩, zff⟩ := zxl.virtualBack hx (y := own_m0) (z := own_m0) hown (mvT hZ (own_W hw 16 rfl)) (mvT hZ (own_W hw 17 rfl)) (notFace_of_selects (args := #[]) (mvT hZ (own_W hw 19 rfl))) (mvT hZ (own_W hw 19 rfl)) (mvT hZ (own_W hw 18 rfl)) (by decide) (backOf (W := 0) (rm85 l Z a0 hw [] zfa n0 p1 A K cs (A 24) (24 : Int32) sb486 sa486 kc486 EN EN.2.2.2.2.2.2.1.2.1 EN.2.2.2.2.2.2.2.2.1.2.2.2.1 (by decide) z3p Es486 Vs486 As486 Cs486) hZ (own_W hw 20 rfl) (own_W hw 6 rfl) (by decide) (by decide)) zxo zxp (g := (mkF m 16 #[.val (.int p1), .val (.int 24), .val (.ref (A 24)), .unset] [(.ref sa486), (.ref (A 24))])) rfl (by rw [hml]; rfl) (Steps.refl _) (argsL := [(.ref sa486)]) (rest := []) (lenOf own_pd5 rfl) rfl (by show 2 * 0 + _ ≤ _; exact Nat.le_of_eq rfl) (hb hby at_16) (fun _ _ => ⟨rfl, zfb, (by decide : 2 + 0 ≤ _), (by decide : 12 + 0 ≤ _)⟩)
    dsimp only [Pt.U, Pt.locs, Pt.cells, Pt.slots] at z1j l499 y499 z499 zff zfe
    replace z1j := own_sub z1j l499 y499 z499
    obtain ⟨rfl, zxq, zfg⟩ := zfe
    have zxr := Fr.app zxi zxq
    obtain ⟨cq500, kq500, zxs, z151, zxt⟩ := isOf hZ zfg (EN.2.2.2.2.2.2.1.2.1.ext z3p.2)
    obtain ⟨_, _, ⟨z6l, L500, z152, n500⟩, -, zs, ⟨Lc500, zfh, l500, y500, z500⟩, zfi⟩ := z1j.virtualBack hx (y := own_m2) (z := own_m2) hown (mvT hZ (own_W hw 88 rfl)) (mvT hZ (own_W hw 89 rfl)) (notFace_of_selects (args := #[]) (mvT hZ (own_W hw 91 rfl))) (mvT hZ (own_W hw 91 rfl)) (mvT hZ (own_W hw 90 rfl)) (by decide) (backOf (W := 0) (rm30 l Z a0 hw [] zfa n0 p1 A K cs (A 24) (24 : Int32) EN EN.2.2.2.2.2.2.1.2.1 EN.2.2.2.2.2.2.2.2.1.2.2.2.1 (Fld.ne EN.2.2.2.2.2.2.2.2.1.2.2.2.1 EN.2.2.2.2.2.2.2.1.2.2.2.2.1 (fun h => by injection h with h; exact absurd h (by decide))) z3p) hZ (own_W hw 92 rfl) (own_W hw 6 rfl) (by decide) (by decide)) zxs zxt (g := (mkF m 38 #[.val (.int p1), .val (.int 24), .val (.ref (A 24)), .val (.int 0)] [(.ref (A 24))])) rfl (by rw [hml]; rfl) (Steps.refl _) (argsL := []) (rest := []) (lenOf own_pd6 rfl) rfl (by show 2 * 0 + _ ≤ _; exact Nat.le_of_eq rfl) (hb hby at_38) (fun _ _ => ⟨rfl, zfg, (by decide : 2 + 0 ≤ _), (by decide : 12 + 0 ≤ _)⟩)
    dsimp only [Pt.U, Pt.locs, Pt.cells, Pt.slots] at zs l500 y500 z500 zfi zfh
    replace zs := own_sub zs l500 y500 z500
    obtain ⟨rfl, zxu, zxv⟩ := zfh
    have zxw := Fr.app zxr zxu
    obtain ⟨fs, hr, hrun, hended, hEW⟩ := zs.leaveW (s := s) hS486 (by rw [zxv]; exact zxm) (v := some (.int 1)) (fun h => by rw [Bd.returns] at h; cases h)
    refine ⟨_, _, zxj _ ?_, hrun, hended, _, _, rfl, ?_, hEW.1, hEW.2.1, hEW.2.2.1, hEW.2.2.2.mono (by decide) (by decide)⟩
    · show own_Y p e below z6k m 14 #[.val (.int p1), .val (.int 24), .val (.ref (A 24)), .unset] [(.ref (A 24))] _
      refine zxn _ ?_
      show own_Y p e below zxk m 16 #[.val (.int p1), .val (.int 24), .val (.ref (A 24)), .unset] [(.ref sa486), (.ref (A 24))] _
      refine zff.trans ?_
      show own_Y p e below zfd m 19 #[.val (.int p1), .val (.int 24), .val (.ref (A 24)), .unset] [(.int 0)] _
      refine XS.ifYes z1j.here hx rfl (pc0 := 19) (pc' := 35) rfl (hb hby at_19) rfl ((if0 _ _).trans (teq (by decide : (0 : Int32) = (0 : Int32))).1) (by decide) (by decide) ?_
      show own_Y p e below zfd m 35 #[.val (.int p1), .val (.int 24), .val (.ref (A 24)), .unset] [] _
      refine XS.iconst z1j.here hx rfl (hb hby at_35) ?_
      refine XS.istoreN z1j.here hx rfl (hb hby at_36) rfl (l' := #[.val (.int p1), .val (.int 24), .val (.ref (A 24)), .val (.int 0)]) rfl ?_
      refine XS.aloadN z1j.here hx rfl (hb hby at_37) rfl rfl ?_
      refine zfi.trans ?_
      show own_Y p e below z6l m 41 #[.val (.int p1), .val (.int 24), .val (.ref (A 24)), .val (.int 0)] [(.int 0)] _
      refine XS.iloadN zs.here hx rfl (hb hby at_41) rfl ?_
      refine XS.icmpNo zs.here hx rfl (hb hby at_42) rfl (teq (by decide : (0 : Int32) = (0 : Int32))).2 ?_
      show own_Y p e below z6l m 45 #[.val (.int p1), .val (.int 24), .val (.ref (A 24)), .val (.int 0)] [] _
      refine XS.iconst zs.here hx rfl (hb hby at_45) ?_
      refine XS.goto zs.here hx rfl (pc0 := 46) (pc' := 50) rfl (hb hby at_46) (by decide) (by decide) ?_
      exact retN zs hx (t := .boolean) Bd.returns (by simp) (hb hby at_50) hr
    · show LQ n0 _ z6l.heap _
      exact ⟨rfl, zxw, trivial⟩
  | 25, _, z0 =>
    obtain ⟨_, _, ⟨z6m, L501, z156, n501⟩, -, z2q, ⟨Lc501, zfj, l501, y501, z501⟩, zfk⟩ := Jvm.LawKit.callS X0 hx (y := own_m5) hown (mvT hZ (own_W hw 1 rfl)) (mvT hZ (own_W hw 2 rfl)) (mvT hZ (own_W hw 3 rfl)) (mvT hZ (own_W hw 4 rfl)) (by decide) (backOf (W := 0) (rmPick l Z a0 hw [] h0 n0 p1 A K cs (25 : Int32) (A 25) EN ⟨25, by decide, rfl⟩ (congrArg A (by decide)) OL0) hZ (own_W hw 4 rfl) (own_W hw 3 rfl) (by decide) (by decide)) (g := (mkF m 9 #[.val (.int p1), .val (.int 25), .unset, .unset] [(.int 25)])) rfl (by rw [hml]; rfl) (argsL := [(.int 25)]) (rest := []) (lenOf own_pd0 rfl) rfl (by show 2 * 0 + _ ≤ _; exact Nat.le_of_eq rfl) (hb hby at_9) (fun _ _ => ⟨rfl, e0, (by decide : 0 + 0 ≤ _), (by decide : 0 + 0 ≤ _)⟩)
    dsimp only [Pt.U, Pt.locs, Pt.cells, Pt.slots] at z2q l501 y501 z501 zfk zfj
    replace z2q := own_sub z2q l501 y501 z501
    obtain ⟨rfl, zxx, zxy⟩ := zfj
    have zxz := Fr.app N0 zxx
    have zy0 : own_P p e below z6m m 14 #[.val (.int p1), .val (.int 25), .val (.ref (A 25)), .unset] [(.ref (A 25))] s₁ #[(.int p1)] maxLocals := fun t k => z2 t (by
      show own_Y p e below s₁ m 7 #[.val (.int p1), .unset, .unset, .unset] [(.int ((p1 &&& (2147483647 : Int32)) % 28))] _
      rw [z0]
      show own_Y p e below s₁ m 7 #[.val (.int p1), .unset, .unset, .unset] [(.int 25)] _
      refine XS.istoreN X0.here hx rfl (hb hby at_7) rfl (l' := #[.val (.int p1), .val (.int 25), .unset, .unset]) rfl ?_
      refine XS.iloadN X0.here hx rfl (hb hby at_8) rfl ?_
      refine zfk _ ?_
      show own_Y p e below z6m m 12 #[.val (.int p1), .val (.int 25), .unset, .unset] [(.ref (A 25))] _
      refine XS.astoreN z2q.here hx rfl (hb hby at_12) rfl rfl (l' := #[.val (.int p1), .val (.int 25), .val (.ref (A 25)), .unset]) rfl ?_
      refine XS.aloadN z2q.here hx rfl (hb hby at_13) rfl rfl ?_
      exact k)
    obtain ⟨sa503, zy1, zfl, kk503, sb503, kc503, zy2, zfm, zfn, hS503, zy3, hZ, hown, Es503, Cs503, Vs503, As503, la503, lb503, C503, -, -, zy4⟩ := ldcCH (s := s) z2q hx hZ hown (own_W hw 8 rfl) (own_strAtoms a0 Z hw) zxy hS0 z1 (own_EW a0 Z hw) (List.mem_of_getElem? (i := 3) rfl) H0 (vs := [(.int 48), (.int 48)]) (z := (2 : Int32)) ⟨by decide, by decide⟩ (by decide) (by decide) (g := (mkF m 14 #[.val (.int p1), .val (.int 25), .val (.ref (A 25)), .unset] [(.ref (A 25))])) rfl (hb hby at_14) (n := 8) (by decide) (by decide) (by decide) (by decide)
    have z3q := OL0.ext zfn
    have z157 := KK0.ext zfn
    obtain ⟨cq514, kq514, zy5, z158, zy6⟩ := isOf hZ zfm (EN.2.2.2.2.2.2.1.2.2.2.1.ext z3q.2)
    obtain ⟨_, _, ⟨zfo, L514, z159, n514⟩, -, z1k, ⟨Lc514, zfp, l514, y514, z514⟩, zfq⟩ := zy2.virtualBack hx (y := own_m0) (z := own_m0) hown (mvT hZ (own_W hw 16 rfl)) (mvT hZ (own_W hw 17 rfl)) (notFace_of_selects (args := #[]) (mvT hZ (own_W hw 19 rfl))) (mvT hZ (own_W hw 19 rfl)) (mvT hZ (own_W hw 18 rfl)) (by decide) (backOf (W := 0) (rm90 l Z a0 hw [] zfl n0 p1 A K cs (A 25) (25 : Int32) sb503 sa503 kc503 EN EN.2.2.2.2.2.2.1.2.2.2.1 EN.2.2.2.2.2.2.2.2.2.2.1.2.2.2.2.2.1 (by decide) z3q Es503 Vs503 As503 Cs503) hZ (own_W hw 20 rfl) (own_W hw 6 rfl) (by decide) (by decide)) zy5 zy6 (g := (mkF m 16 #[.val (.int p1), .val (.int 25), .val (.ref (A 25)), .unset] [(.ref sa503), (.ref (A 25))])) rfl (by rw [hml]; rfl) (Steps.refl _) (argsL := [(.ref sa503)]) (rest := []) (lenOf own_pd5 rfl) rfl (by show 2 * 0 + _ ≤ _; exact Nat.le_of_eq rfl) (hb hby at_16) (fun _ _ => ⟨rfl, zfm, (by decide : 2 + 0 ≤ _), (by decide : 12 + 0 ≤ _)⟩)
    dsimp only [Pt.U, Pt.locs, Pt.cells, Pt.slots] at z1k l514 y514 z514 zfq zfp
    replace z1k := own_sub z1k l514 y514 z514
    obtain ⟨rfl, zy7, zfr⟩ := zfp
    have zy8 := Fr.app zxz zy7
    obtain ⟨cq515, kq515, zy9, z15a, zya⟩ := isOf hZ zfr (EN.2.2.2.2.2.2.1.2.2.2.1.ext z3q.2)
    obtain ⟨_, _, ⟨z6n, L515, z15b, n515⟩, -, zt, ⟨Lc515, zfs, l515, y515, z515⟩, zft⟩ := z1k.virtualBack hx (y := own_m2) (z := own_m2) hown (mvT hZ (own_W hw 88 rfl)) (mvT hZ (own_W hw 89 rfl)) (notFace_of_selects (args := #[]) (mvT hZ (own_W hw 91 rfl))) (mvT hZ (own_W hw 91 rfl)) (mvT hZ (own_W hw 90 rfl)) (by decide) (backOf (W := 0) (rm30 l Z a0 hw [] zfl n0 p1 A K cs (A 25) (25 : Int32) EN EN.2.2.2.2.2.2.1.2.2.2.1 EN.2.2.2.2.2.2.2.2.2.2.1.2.2.2.2.2.1 (Fld.ne EN.2.2.2.2.2.2.2.2.2.2.1.2.2.2.2.2.1 EN.2.2.2.2.2.2.2.1.2.2.2.2.1 (fun h => by injection h with h; exact absurd h (by decide))) z3q) hZ (own_W hw 92 rfl) (own_W hw 6 rfl) (by decide) (by decide)) zy9 zya (g := (mkF m 38 #[.val (.int p1), .val (.int 25), .val (.ref (A 25)), .val (.int 0)] [(.ref (A 25))])) rfl (by rw [hml]; rfl) (Steps.refl _) (argsL := []) (rest := []) (lenOf own_pd6 rfl) rfl (by show 2 * 0 + _ ≤ _; exact Nat.le_of_eq rfl) (hb hby at_38) (fun _ _ => ⟨rfl, zfr, (by decide : 2 + 0 ≤ _), (by decide : 12 + 0 ≤ _)⟩)
    dsimp only [Pt.U, Pt.locs, Pt.cells, Pt.slots] at zt l515 y515 z515 zft zfs
    replace zt := own_sub zt l515 y515 z515
    obtain ⟨rfl, zyb, zyc⟩ := zfs
    have zyd := Fr.app zy8 zyb
    obtain ⟨fs, hr, hrun, hended, hEW⟩ := zt.leaveW (s := s) hS503 (by rw [zyc]; exact zy3) (v := some (.int 1)) (fun h => by rw [Bd.returns] at h; cases h)
    refine ⟨_, _, zy0 _ ?_, hrun, hended, _, _, rfl, ?_, hEW.1, hEW.2.1, hEW.2.2.1, hEW.2.2.2.mono (by decide) (by decide)⟩
    · show own_Y p e below z6m m 14 #[.val (.int p1), .val (.int 25), .val (.ref (A 25)), .unset] [(.ref (A 25))] _
      refine zy4 _ ?_
      show own_Y p e below zy1 m 16 #[.val (.int p1), .val (.int 25), .val (.ref (A 25)), .unset] [(.ref sa503), (.ref (A 25))] _
      refine zfq.trans ?_
      show own_Y p e below zfo m 19 #[.val (.int p1), .val (.int 25), .val (.ref (A 25)), .unset] [(.int 0)] _
      refine XS.ifYes z1k.here hx rfl (pc0 := 19) (pc' := 35) rfl (hb hby at_19) rfl ((if0 _ _).trans (teq (by decide : (0 : Int32) = (0 : Int32))).1) (by decide) (by decide) ?_
      show own_Y p e below zfo m 35 #[.val (.int p1), .val (.int 25), .val (.ref (A 25)), .unset] [] _
      refine XS.iconst z1k.here hx rfl (hb hby at_35) ?_
      refine XS.istoreN z1k.here hx rfl (hb hby at_36) rfl (l' := #[.val (.int p1), .val (.int 25), .val (.ref (A 25)), .val (.int 0)]) rfl ?_
      refine XS.aloadN z1k.here hx rfl (hb hby at_37) rfl rfl ?_
      refine zft.trans ?_
      show own_Y p e below z6n m 41 #[.val (.int p1), .val (.int 25), .val (.ref (A 25)), .val (.int 0)] [(.int 0)] _
      refine XS.iloadN zt.here hx rfl (hb hby at_41) rfl ?_
      refine XS.icmpNo zt.here hx rfl (hb hby at_42) rfl (teq (by decide : (0 : Int32) = (0 : Int32))).2 ?_
      show own_Y p e below z6n m 45 #[.val (.int p1), .val (.int 25), .val (.ref (A 25)), .val (.int 0)] [] _
      refine XS.iconst zt.here hx rfl (hb hby at_45) ?_
      refine XS.goto zt.here hx rfl (pc0 := 46) (pc' := 50) rfl (hb hby at_46) (by decide) (by decide) ?_
      exact retN zt hx (t := .boolean) Bd.returns (by simp) (hb hby at_50) hr
    · show LQ n0 _ z6n.heap _
      exact ⟨rfl, zyd, trivial⟩
  | 26, _, z0 =>
    obtain ⟨_, _, ⟨z6o, L516, z15c, n516⟩, -, z2r, ⟨Lc516, zfu, l516, y516, z516⟩, zfv⟩ := Jvm.LawKit.callS X0 hx (y := own_m5) hown (mvT hZ (own_W hw 1 rfl)) (mvT hZ (own_W hw 2 rfl)) (mvT hZ (own_W hw 3 rfl)) (mvT hZ (own_W hw 4 rfl)) (by decide) (backOf (W := 0) (rmPick l Z a0 hw [] h0 n0 p1 A K cs (26 : Int32) (A 26) EN ⟨26, by decide, rfl⟩ (congrArg A (by decide)) OL0) hZ (own_W hw 4 rfl) (own_W hw 3 rfl) (by decide) (by decide)) (g := (mkF m 9 #[.val (.int p1), .val (.int 26), .unset, .unset] [(.int 26)])) rfl (by rw [hml]; rfl) (argsL := [(.int 26)]) (rest := []) (lenOf own_pd0 rfl) rfl (by show 2 * 0 + _ ≤ _; exact Nat.le_of_eq rfl) (hb hby at_9) (fun _ _ => ⟨rfl, e0, (by decide : 0 + 0 ≤ _), (by decide : 0 + 0 ≤ _)⟩)
    dsimp only [Pt.U, Pt.locs, Pt.cells, Pt.slots] at z2r l516 y516 z516 zfv zfu
    replace z2r := own_sub z2r l516 y516 z516
    obtain ⟨rfl, zye, zyf⟩ := zfu
    have zyg := Fr.app N0 zye
    have zyh : own_P p e below z6o m 14 #[.val (.int p1), .val (.int 26), .val (.ref (A 26)), .unset] [(.ref (A 26))] s₁ #[(.int p1)] maxLocals := fun t k => z2 t (by
      show own_Y p e below s₁ m 7 #[.val (.int p1), .unset, .unset, .unset] [(.int ((p1 &&& (2147483647 : Int32)) % 28))] _
      rw [z0]
      show own_Y p e below s₁ m 7 #[.val (.int p1), .unset, .unset, .unset] [(.int 26)] _
      refine XS.istoreN X0.here hx rfl (hb hby at_7) rfl (l' := #[.val (.int p1), .val (.int 26), .unset, .unset]) rfl ?_
      refine XS.iloadN X0.here hx rfl (hb hby at_8) rfl ?_
      refine zfv _ ?_
      show own_Y p e below z6o m 12 #[.val (.int p1), .val (.int 26), .unset, .unset] [(.ref (A 26))] _
      refine XS.astoreN z2r.here hx rfl (hb hby at_12) rfl rfl (l' := #[.val (.int p1), .val (.int 26), .val (.ref (A 26)), .unset]) rfl ?_
      refine XS.aloadN z2r.here hx rfl (hb hby at_13) rfl rfl ?_
      exact k)
    obtain ⟨sa518, zyi, zyj, kk518, sb518, kc518, zyk, zfw, zfx, hS518, zyl, hZ, hown, Es518, Cs518, Vs518, As518, la518, lb518, C518, -, -, zym⟩ := ldcCH (s := s) z2r hx hZ hown (own_W hw 8 rfl) (own_strAtoms a0 Z hw) zyf hS0 z1 (own_EW a0 Z hw) (List.mem_of_getElem? (i := 3) rfl) H0 (vs := [(.int 48), (.int 48)]) (z := (2 : Int32)) ⟨by decide, by decide⟩ (by decide) (by decide) (g := (mkF m 14 #[.val (.int p1), .val (.int 26), .val (.ref (A 26)), .unset] [(.ref (A 26))])) rfl (hb hby at_14) (n := 8) (by decide) (by decide) (by decide) (by decide)
    have z6p := OL0.ext zfx
    have zyn := KK0.ext zfx
    obtain ⟨cq519, kq519, zyo, z15d, zyp⟩ := isOf hZ zfw (EN.2.2.2.2.2.2.1.2.2.2.2.2.1.ext z6p.2)
    obtain ⟨_, _, ⟨z3r, L519, z15e, n519⟩, -, z2s, ⟨Lc519, zfy, l519, y519, z519⟩, zfz⟩ := zyk.virtualBack hx (y := own_m0) (z := own_m0) hown (mvT hZ (own_W hw 16 rfl)) (mvT hZ (own_W hw 17 rfl)) (notFace_of_selects (args := #[]) (mvT hZ (own_W hw 19 rfl))) (mvT hZ (own_W hw 19 rfl)) (mvT hZ (own_W hw 18 rfl)) (by decide) (backOf (W := 0) (rm53 l Z a0 hw [] zyj n0 p1 A K cs (A 26) (26 : Int32) sb518 sa518 kc518 EN EN.2.2.2.2.2.2.1.2.2.2.2.2.1 EN.2.2.2.2.2.2.2.1.2.2.2.2.2.2.1 (by decide) z6p Es518 Vs518 As518 Cs518) hZ (own_W hw 20 rfl) (own_W hw 6 rfl) (by decide) (by decide)) zyo zyp (g := (mkF m 16 #[.val (.int p1), .val (.int 26), .val (.ref (A 26)), .unset] [(.ref sa518), (.ref (A 26))])) rfl (by rw [hml]; rfl) (Steps.refl _) (argsL := [(.ref sa518)]) (rest := []) (lenOf own_pd5 rfl) rfl (by show 2 * 0 + _ ≤ _; exact Nat.le_of_eq rfl) (hb hby at_16) (fun _ _ => ⟨rfl, zfw, (by decide : 2 + 0 ≤ _), (by decide : 12 + 0 ≤ _)⟩)
    dsimp only [Pt.U, Pt.locs, Pt.cells, Pt.slots] at z2s l519 y519 z519 zfz zfy
    replace z2s := own_sub z2s l519 y519 z519
    obtain ⟨rfl, zyq, zyr⟩ := zfy
    have zys := Fr.app zyg zyq
    have zyt : own_P p e below z3r m 23 #[.val (.int p1), .val (.int 26), .val (.ref (A 26)), .unset] [(.ref (A 26))] s₁ #[(.int p1)] maxLocals := fun t k => zyh t (by
      show own_Y p e below z6o m 14 #[.val (.int p1), .val (.int 26), .val (.ref (A 26)), .unset] [(.ref (A 26))] _
      refine zym _ ?_
      show own_Y p e below zyi m 16 #[.val (.int p1), .val (.int 26), .val (.ref (A 26)), .unset] [(.ref sa518), (.ref (A 26))] _
      refine zfz.trans ?_
      show own_Y p e below z3r m 19 #[.val (.int p1), .val (.int 26), .val (.ref (A 26)), .unset] [(.int 1)] _
      refine XS.ifNo z2s.here hx rfl (hb hby at_19) rfl ((if0 _ _).trans (feq (by decide : ¬ ((1 : Int32) = (0 : Int32)))).1) ?_
      show own_Y p e below z3r m 22 #[.val (.int p1), .val (.int 26), .val (.ref (A 26)), .unset] [] _
      refine XS.aloadN z2s.here hx rfl (hb hby at_22) rfl rfl ?_
      exact k)
    obtain ⟨sa521, zyu, zg0, kk521, sb521, kc521, zyv, zg1, zg2, hS521, zyw, hZ, hown, Es521, Cs521, Vs521, As521, la521, lb521, C521, -, -, zyx⟩ := ldcCH (s := s) z2s hx hZ hown (own_W hw 87 rfl) (own_strAtoms a0 Z hw) zyr hS518 zyl (own_EW a0 Z hw) (List.mem_of_getElem? (i := 4) rfl) C518.1 (vs := [(.int 45), (.int 48)]) (z := (2 : Int32)) ⟨by decide, by decide⟩ (by decide) (by decide) (g := (mkF m 23 #[.val (.int p1), .val (.int 26), .val (.ref (A 26)), .unset] [(.ref (A 26))])) rfl (hb hby at_23) (n := 8) (by decide) (by decide) (by decide) (by decide)
    have z3s := z6p.ext zg2
    have z15f := zyn.ext zg2
    obtain ⟨cq522, kq522, zyy, z15g, zyz⟩ := isOf hZ zg1 (EN.2.2.2.2.2.2.1.2.2.2.2.2.1.ext z3s.2)
    obtain ⟨_, _, ⟨zg3, L522, z15h, n522⟩, -, z1l, ⟨Lc522, zg4, l522, y522, z522⟩, zg5⟩ := zyv.virtualBack hx (y := own_m0) (z := own_m0) hown (mvT hZ (own_W hw 16 rfl)) (mvT hZ (own_W hw 17 rfl)) (notFace_of_selects (args := #[]) (mvT hZ (own_W hw 19 rfl))) (mvT hZ (own_W hw 19 rfl)) (mvT hZ (own_W hw 18 rfl)) (by decide) (backOf (W := 0) (rm54 l Z a0 hw [] zg0 n0 p1 A K cs (A 26) (26 : Int32) sb521 sa521 kc521 EN EN.2.2.2.2.2.2.1.2.2.2.2.2.1 EN.2.2.2.2.2.2.2.1.2.2.2.2.2.2.1 (by decide) z3s Es521 Vs521 As521 Cs521) hZ (own_W hw 20 rfl) (own_W hw 6 rfl) (by decide) (by decide)) zyy zyz (g := (mkF m 25 #[.val (.int p1), .val (.int 26), .val (.ref (A 26)), .unset] [(.ref sa521), (.ref (A 26))])) rfl (by rw [hml]; rfl) (Steps.refl _) (argsL := [(.ref sa521)]) (rest := []) (lenOf own_pd5 rfl) rfl (by show 2 * 0 + _ ≤ _; exact Nat.le_of_eq rfl) (hb hby at_25) (fun _ _ => ⟨rfl, zg1, (by decide : 4 + 0 ≤ _), (by decide : 24 + 0 ≤ _)⟩)
    dsimp only [Pt.U, Pt.locs, Pt.cells, Pt.slots] at z1l l522 y522 z522 zg5 zg4
    replace z1l := own_sub z1l l522 y522 z522
    obtain ⟨rfl, zz0, zg6⟩ := zg4
    have zz1 := Fr.app zys zz0
    obtain ⟨cq523, kq523, zz2, z15i, zz3⟩ := isOf hZ zg6 (EN.2.2.2.2.2.2.1.2.2.2.2.2.1.ext z3s.2)
    obtain ⟨_, _, ⟨z6q, L523, z15j, n523⟩, -, zu, ⟨Lc523, zg7, l523, y523, z523⟩, zg8⟩ := z1l.virtualBack hx (y := own_m2) (z := own_m2) hown (mvT hZ (own_W hw 88 rfl)) (mvT hZ (own_W hw 89 rfl)) (notFace_of_selects (args := #[]) (mvT hZ (own_W hw 91 rfl))) (mvT hZ (own_W hw 91 rfl)) (mvT hZ (own_W hw 90 rfl)) (by decide) (backOf (W := 0) (rm30 l Z a0 hw [] zg0 n0 p1 A K cs (A 26) (26 : Int32) EN EN.2.2.2.2.2.2.1.2.2.2.2.2.1 EN.2.2.2.2.2.2.2.1.2.2.2.2.2.2.1 (Fld.ne EN.2.2.2.2.2.2.2.1.2.2.2.2.2.2.1 EN.2.2.2.2.2.2.2.1.2.2.2.2.1 (fun h => by injection h with h; exact absurd h (by decide))) z3s) hZ (own_W hw 92 rfl) (own_W hw 6 rfl) (by decide) (by decide)) zz2 zz3 (g := (mkF m 38 #[.val (.int p1), .val (.int 26), .val (.ref (A 26)), .val (.int 0)] [(.ref (A 26))])) rfl (by rw [hml]; rfl) (Steps.refl _) (argsL := []) (rest := []) (lenOf own_pd6 rfl) rfl (by show 2 * 0 + _ ≤ _; exact Nat.le_of_eq rfl) (hb hby at_38) (fun _ _ => ⟨rfl, zg6, (by decide : 4 + 0 ≤ _), (by decide : 24 + 0 ≤ _)⟩)
    dsimp only [Pt.U, Pt.locs, Pt.cells, Pt.slots] at zu l523 y523 z523 zg8 zg7
    replace zu := own_sub zu l523 y523 z523
    obtain ⟨rfl, zz4, zz5⟩ := zg7
    have zz6 := Fr.app zz1 zz4
    obtain ⟨fs, hr, hrun, hended, hEW⟩ := zu.leaveW (s := s) hS521 (by rw [zz5]; exact zyw) (v := some (.int 1)) (fun h => by rw [Bd.returns] at h; cases h)
    refine ⟨_, _, zyt _ ?_, hrun, hended, _, _, rfl, ?_, hEW.1, hEW.2.1, hEW.2.2.1, hEW.2.2.2.mono (by decide) (by decide)⟩
    · show own_Y p e below z3r m 23 #[.val (.int p1), .val (.int 26), .val (.ref (A 26)), .unset] [(.ref (A 26))] _
      refine zyx _ ?_
      show own_Y p e below zyu m 25 #[.val (.int p1), .val (.int 26), .val (.ref (A 26)), .unset] [(.ref sa521), (.ref (A 26))] _
      refine zg5.trans ?_
      show own_Y p e below zg3 m 28 #[.val (.int p1), .val (.int 26), .val (.ref (A 26)), .unset] [(.int 1)] _
      refine XS.ifYes z1l.here hx rfl (pc0 := 28) (pc' := 35) rfl (hb hby at_28) rfl ((if0 _ _).trans (feq (by decide : ¬ ((1 : Int32) = (0 : Int32)))).2) (by decide) (by decide) ?_
      show own_Y p e below zg3 m 35 #[.val (.int p1), .val (.int 26), .val (.ref (A 26)), .unset] [] _
      refine XS.iconst z1l.here hx rfl (hb hby at_35) ?_
      refine XS.istoreN z1l.here hx rfl (hb hby at_36) rfl (l' := #[.val (.int p1), .val (.int 26), .val (.ref (A 26)), .val (.int 0)]) rfl ?_
      refine XS.aloadN z1l.here hx rfl (hb hby at_37) rfl rfl ?_
      refine zg8.trans ?_
      show own_Y p e below z6q m 41 #[.val (.int p1), .val (.int 26), .val (.ref (A 26)), .val (.int 0)] [(.int 0)] _
      refine XS.iloadN zu.here hx rfl (hb hby at_41) rfl ?_
      refine XS.icmpNo zu.here hx rfl (hb hby at_42) rfl (teq (by decide : (0 : Int32) = (0 : Int32))).2 ?_
      show own_Y p e below z6q m 45 #[.val (.int p1), .val (.int 26), .val (.ref (A 26)), .val (.int 0)] [] _
      refine XS.iconst zu.here hx rfl (hb hby at_45) ?_
      refine XS.goto zu.here hx rfl (pc0 := 46) (pc' := 50) rfl (hb hby at_46) (by decide) (by decide) ?_
      exact retN zu hx (t := .boolean) Bd.returns (by simp) (hb hby at_50) hr
    · show LQ n0 _ z6q.heap _
      exact ⟨rfl, zz6, trivial⟩
  | 27, _, z0 =>
    obtain ⟨_, _, ⟨z6r, L524, z15k, n524⟩, -, z2t, ⟨Lc524, zg9, l524, y524, z524⟩, zga⟩ := Jvm.LawKit.callS X0 hx (y := own_m5) hown (mvT hZ (own_W hw 1 rfl)) (mvT hZ (own_W hw 2 rfl)) (mvT hZ (own_W hw 3 rfl)) (mvT hZ (own_W hw 4 rfl)) (by decide) (backOf (W := 0) (rmPick l Z a0 hw [] h0 n0 p1 A K cs (27 : Int32) (A 27) EN ⟨27, by decide, rfl⟩ (congrArg A (by decide)) OL0) hZ (own_W hw 4 rfl) (own_W hw 3 rfl) (by decide) (by decide)) (g := (mkF m 9 #[.val (.int p1), .val (.int 27), .unset, .unset] [(.int 27)])) rfl (by rw [hml]; rfl) (argsL := [(.int 27)]) (rest := []) (lenOf own_pd0 rfl) rfl (by show 2 * 0 + _ ≤ _; exact Nat.le_of_eq rfl) (hb hby at_9) (fun _ _ => ⟨rfl, e0, (by decide : 0 + 0 ≤ _), (by decide : 0 + 0 ≤ _)⟩)
    dsimp only [Pt.U, Pt.locs, Pt.cells, Pt.slots] at z2t l524 y524 z524 zga zg9
    replace z2t := own_sub z2t l524 y524 z524
    obtain ⟨rfl, zz7, zz8⟩ := zg9
    have zz9 := Fr.app N0 zz7
    have zza : own_P p e below z6r m 14 #[.val (.int p1), .val (.int 27), .val (.ref (A 27)), .unset] [(.ref (A 27))] s₁ #[(.int p1)] maxLocals := fun t k => z2 t (by
      show own_Y p e below s₁ m 7 #[.val (.int p1), .unset, .unset, .unset] [(.int ((p1 &&& (2147483647 : Int32)) % 28))] _
      rw [z0]
      show own_Y p e below s₁ m 7 #[.val (.int p1), .unset, .unset, .unset] [(.int 27)] _
      refine XS.istoreN X0.here hx rfl (hb hby at_7) rfl (l' := #[.val (.int p1), .val (.int 27), .unset, .unset]) rfl ?_
      refine XS.iloadN X0.here hx rfl (hb hby at_8) rfl ?_
      refine zga _ ?_
      show own_Y p e below z6r m 12 #[.val (.int p1), .val (.int 27), .unset, .unset] [(.ref (A 27))] _
      refine XS.astoreN z2t.here hx rfl (hb hby at_12) rfl rfl (l' := #[.val (.int p1), .val (.int 27), .val (.ref (A 27)), .unset]) rfl ?_
      refine XS.aloadN z2t.here hx rfl (hb hby at_13) rfl rfl ?_
      exact k)
    obtain ⟨sa526, zzb, zzc, kk526, sb526, kc526, zzd, zgb, zgc, hS526, zze, hZ, hown, Es526, Cs526, Vs526, As526, la526, lb526, C526, -, -, zzf⟩ := ldcCH (s := s) z2t hx hZ hown (own_W hw 8 rfl) (own_strAtoms a0 Z hw) zz8 hS0 z1 (own_EW a0 Z hw) (List.mem_of_getElem? (i := 3) rfl) H0 (vs := [(.int 48), (.int 48)]) (z := (2 : Int32)) ⟨by decide, by decide⟩ (by decide) (by decide) (g := (mkF m 14 #[.val (.int p1), .val (.int 27), .val (.ref (A 27)), .unset] [(.ref (A 27))])) rfl (hb hby at_14) (n := 8) (by decide) (by decide) (by decide) (by decide)
    have z6s := OL0.ext zgc
    have zzg := KK0.ext zgc
    obtain ⟨cq527, kq527, zzh, z15l, zzi⟩ := isOf hZ zgb (EN.2.2.2.2.2.2.1.2.2.2.2.2.2.2.1.ext z6s.2)
    obtain ⟨_, _, ⟨z3t, L527, z15m, n527⟩, -, z2u, ⟨Lc527, zgd, l527, y527, z527⟩, zge⟩ := zzd.virtualBack hx (y := own_m0) (z := own_m0) hown (mvT hZ (own_W hw 16 rfl)) (mvT hZ (own_W hw 17 rfl)) (notFace_of_selects (args := #[]) (mvT hZ (own_W hw 19 rfl))) (mvT hZ (own_W hw 19 rfl)) (mvT hZ (own_W hw 18 rfl)) (by decide) (backOf (W := 0) (rm53 l Z a0 hw [] zzc n0 p1 A K cs (A 27) (27 : Int32) sb526 sa526 kc526 EN EN.2.2.2.2.2.2.1.2.2.2.2.2.2.2.1 EN.2.2.2.2.2.2.2.1.2.2.2.2.2.2.2.1 (by decide) z6s Es526 Vs526 As526 Cs526) hZ (own_W hw 20 rfl) (own_W hw 6 rfl) (by decide) (by decide)) zzh zzi (g := (mkF m 16 #[.val (.int p1), .val (.int 27), .val (.ref (A 27)), .unset] [(.ref sa526), (.ref (A 27))])) rfl (by rw [hml]; rfl) (Steps.refl _) (argsL := [(.ref sa526)]) (rest := []) (lenOf own_pd5 rfl) rfl (by show 2 * 0 + _ ≤ _; exact Nat.le_of_eq rfl) (hb hby at_16) (fun _ _ => ⟨rfl, zgb, (by decide : 2 + 0 ≤ _), (by decide : 12 + 0 ≤ _)⟩)
    dsimp only [Pt.U, Pt.locs, Pt.cells, Pt.slots] at z2u l527 y527 z527 zge zgd
    replace z2u := own_sub z2u l527 y527 z527
    obtain ⟨rfl, zzj, zzk⟩ := zgd
    have zzl := Fr.app zz9 zzj
    have zzm : own_P p e below z3t m 23 #[.val (.int p1), .val (.int 27), .val (.ref (A 27)), .unset] [(.ref (A 27))] s₁ #[(.int p1)] maxLocals := fun t k => zza t (by
      show own_Y p e below z6r m 14 #[.val (.int p1), .val (.int 27), .val (.ref (A 27)), .unset] [(.ref (A 27))] _
      refine zzf _ ?_
      show own_Y p e below zzb m 16 #[.val (.int p1), .val (.int 27), .val (.ref (A 27)), .unset] [(.ref sa526), (.ref (A 27))] _
      refine zge.trans ?_
      show own_Y p e below z3t m 19 #[.val (.int p1), .val (.int 27), .val (.ref (A 27)), .unset] [(.int 1)] _
      refine XS.ifNo z2u.here hx rfl (hb hby at_19) rfl ((if0 _ _).trans (feq (by decide : ¬ ((1 : Int32) = (0 : Int32)))).1) ?_
      show own_Y p e below z3t m 22 #[.val (.int p1), .val (.int 27), .val (.ref (A 27)), .unset] [] _
      refine XS.aloadN z2u.here hx rfl (hb hby at_22) rfl rfl ?_
      exact k)
    obtain ⟨sa529, zzn, zgf, kk529, sb529, kc529, zzo, zgg, zgh, hS529, zzp, hZ, hown, Es529, Cs529, Vs529, As529, la529, lb529, C529, -, -, zzq⟩ := ldcCH (s := s) z2u hx hZ hown (own_W hw 87 rfl) (own_strAtoms a0 Z hw) zzk hS526 zze (own_EW a0 Z hw) (List.mem_of_getElem? (i := 4) rfl) C526.1 (vs := [(.int 45), (.int 48)]) (z := (2 : Int32)) ⟨by decide, by decide⟩ (by decide) (by decide) (g := (mkF m 23 #[.val (.int p1), .val (.int 27), .val (.ref (A 27)), .unset] [(.ref (A 27))])) rfl (hb hby at_23) (n := 8) (by decide) (by decide) (by decide) (by decide)
    have z3u := z6s.ext zgh
    have z15n := zzg.ext zgh
    obtain ⟨cq530, kq530, zzr, z15o, zzs⟩ := isOf hZ zgg (EN.2.2.2.2.2.2.1.2.2.2.2.2.2.2.1.ext z3u.2)
    obtain ⟨_, _, ⟨zgi, L530, z15p, n530⟩, -, z1m, ⟨Lc530, zgj, l530, y530, z530⟩, zgk⟩ := zzo.virtualBack hx (y := own_m0) (z := own_m0) hown (mvT hZ (own_W hw 16 rfl)) (mvT hZ (own_W hw 17 rfl)) (notFace_of_selects (args := #[]) (mvT hZ (own_W hw 19 rfl))) (mvT hZ (own_W hw 19 rfl)) (mvT hZ (own_W hw 18 rfl)) (by decide) (backOf (W := 0) (rm54 l Z a0 hw [] zgf n0 p1 A K cs (A 27) (27 : Int32) sb529 sa529 kc529 EN EN.2.2.2.2.2.2.1.2.2.2.2.2.2.2.1 EN.2.2.2.2.2.2.2.1.2.2.2.2.2.2.2.1 (by decide) z3u Es529 Vs529 As529 Cs529) hZ (own_W hw 20 rfl) (own_W hw 6 rfl) (by decide) (by decide)) zzr zzs (g := (mkF m 25 #[.val (.int p1), .val (.int 27), .val (.ref (A 27)), .unset] [(.ref sa529), (.ref (A 27))])) rfl (by rw [hml]; rfl) (Steps.refl _) (argsL := [(.ref sa529)]) (rest := []) (lenOf own_pd5 rfl) rfl (by show 2 * 0 + _ ≤ _; exact Nat.le_of_eq rfl) (hb hby at_25) (fun _ _ => ⟨rfl, zgg, (by decide : 4 + 0 ≤ _), (by decide : 24 + 0 ≤ _)⟩)
    dsimp only [Pt.U, Pt.locs, Pt.cells, Pt.slots] at z1m l530 y530 z530 zgk zgj
    replace z1m := own_sub z1m l530 y530 z530
    obtain ⟨rfl, zzt, zgl⟩ := zgj
    have zzu := Fr.app zzl zzt
    obtain ⟨cq531, kq531, zzv, z15q, zzw⟩ := isOf hZ zgl (EN.2.2.2.2.2.2.1.2.2.2.2.2.2.2.1.ext z3u.2)
    obtain ⟨_, _, ⟨z6t, L531, z15r, n531⟩, -, zv, ⟨Lc531, zgm, l531, y531, z531⟩, zgn⟩ := z1m.virtualBack hx (y := own_m2) (z := own_m2) hown (mvT hZ (own_W hw 88 rfl)) (mvT hZ (own_W hw 89 rfl)) (notFace_of_selects (args := #[]) (mvT hZ (own_W hw 91 rfl))) (mvT hZ (own_W hw 91 rfl)) (mvT hZ (own_W hw 90 rfl)) (by decide) (backOf (W := 0) (rm30 l Z a0 hw [] zgf n0 p1 A K cs (A 27) (27 : Int32) EN EN.2.2.2.2.2.2.1.2.2.2.2.2.2.2.1 EN.2.2.2.2.2.2.2.1.2.2.2.2.2.2.2.1 (Fld.ne EN.2.2.2.2.2.2.2.1.2.2.2.2.2.2.2.1 EN.2.2.2.2.2.2.2.1.2.2.2.2.1 (fun h => by injection h with h; exact absurd h (by decide))) z3u) hZ (own_W hw 92 rfl) (own_W hw 6 rfl) (by decide) (by decide)) zzv zzw (g := (mkF m 38 #[.val (.int p1), .val (.int 27), .val (.ref (A 27)), .val (.int 0)] [(.ref (A 27))])) rfl (by rw [hml]; rfl) (Steps.refl _) (argsL := []) (rest := []) (lenOf own_pd6 rfl) rfl (by show 2 * 0 + _ ≤ _; exact Nat.le_of_eq rfl) (hb hby at_38) (fun _ _ => ⟨rfl, zgl, (by decide : 4 + 0 ≤ _), (by decide : 24 + 0 ≤ _)⟩)
    dsimp only [Pt.U, Pt.locs, Pt.cells, Pt.slots] at zv l531 y531 z531 zgn zgm
    replace zv := own_sub zv l531 y531 z531
    obtain ⟨rfl, zzx, zzy⟩ := zgm
    have zzz := Fr.app zzu zzx
    obtain ⟨fs, hr, hrun, hended, hEW⟩ := zv.leaveW (s := s) hS529 (by rw [zzy]; exact zzp) (v := some (.int 1)) (fun h => by rw [Bd.returns] at h; cases h)
    refine ⟨_, _, zzm _ ?_, hrun, hended, _, _, rfl, ?_, hEW.1, hEW.2.1, hEW.2.2.1, hEW.2.2.2.mono (by decide) (by decide)⟩
    · show own_Y p e below z3t m 23 #[.val (.int p1), .val (.int 27), .val (.ref (A 27)), .unset] [(.ref (A 27))] _
      refine zzq _ ?_
      show own_Y p e below zzn m 25 #[.val (.int p1), .val (.int 27), .val (.ref (A 27)), .unset] [(.ref sa529), (.ref (A 27))] _
      refine zgk.trans ?_
      show own_Y p e below zgi m 28 #[.val (.int p1), .val (.int 27), .val (.ref (A 27)), .unset] [(.int 1)] _
      refine XS.ifYes z1m.here hx rfl (pc0 := 28) (pc' := 35) rfl (hb hby at_28) rfl ((if0 _ _).trans (feq (by decide : ¬ ((1 : Int32) = (0 : Int32)))).2) (by decide) (by decide) ?_
      show own_Y p e below zgi m 35 #[.val (.int p1), .val (.int 27), .val (.ref (A 27)), .unset] [] _
      refine XS.iconst z1m.here hx rfl (hb hby at_35) ?_
      refine XS.istoreN z1m.here hx rfl (hb hby at_36) rfl (l' := #[.val (.int p1), .val (.int 27), .val (.ref (A 27)), .val (.int 0)]) rfl ?_
      refine XS.aloadN z1m.here hx rfl (hb hby at_37) rfl rfl ?_
      refine zgn.trans ?_
      show own_Y p e below z6t m 41 #[.val (.int p1), .val (.int 27), .val (.ref (A 27)), .val (.int 0)] [(.int 0)] _
      refine XS.iloadN zv.here hx rfl (hb hby at_41) rfl ?_
      refine XS.icmpNo zv.here hx rfl (hb hby at_42) rfl (teq (by decide : (0 : Int32) = (0 : Int32))).2 ?_
      show own_Y p e below z6t m 45 #[.val (.int p1), .val (.int 27), .val (.ref (A 27)), .val (.int 0)] [] _
      refine XS.iconst zv.here hx rfl (hb hby at_45) ?_
      refine XS.goto zv.here hx rfl (pc0 := 46) (pc' := 50) rfl (hb hby at_46) (by decide) (by decide) ?_
      exact retN zv hx (t := .boolean) Bd.returns (by simp) (hb hby at_50) hr
    · show LQ n0 _ z6t.heap _
      exact ⟨rfl, zzz, trivial⟩
  | kk + 28, h, _ => exact absurd h (by omega)
theorem comes_1 {Post : Tables → Env → Array Value → State → Outcome → State → Prop} (hpost : ∀ tb e args s v u, (limb_1_1.after args s (.returned v) u = true ∧ limb_1_2.after args s (.returned v) u = true ∧ True) → ReturnedEndW s (.returned v) u (Jvm.fieldLocs frame_1_writes args s ++ Jvm.arrayLocs frame_1_arrays args s ++ Jvm.staticLocs frame_1_statics s) 16 5184 → Post tb e args s (.returned v) u) :
    ArmFor flags0 classFile x code maxLocals ret World_1 tables_1 room_1 Calls_1 rest_1 Pre_1 Post := by
  intro l hfl _ _ p e ha hc hk s m args below hf hA hF happ hP
  obtain ⟨hcalls, hrest, hpre⟩ := hP
  obtain ⟨-, -, -, hnamed, -, -, -, hat⟩ := (Spec.applies_iff hf).mp happ
  obtain ⟨hg, hn⟩ := and_e (Cond.before_iff.mp (show (Jvm.Cond.and given_1 narrow_1).before args s = true from hpre))
  obtain ⟨gA0, gB0⟩ := and_e hg
  obtain ⟨w0, rfl⟩ : ∃ w0 : Value, args = #[w0] := by
    have hs : args.size = 1 := by simpa [Cond.value, given_1] using gA0
    obtain ⟨L⟩ := args
    match L, hs with
    | [w0], _ => exact ⟨w0, rfl⟩
  have hw := fun d (hd : d ∈ tables_1) => atoms_spec (ws := Jvm.Cond.code x code maxLocals ret :: tables_1) hat d (List.mem_cons_of_mem _ hd)
  have hfit : Fit s := fun {y c} hc i hi => by
    obtain ⟨ha, rfl⟩ := Array.getElem?_eq_some_iff.mp hc
    have q := List.all_eq_true.mp ((Array.all_eq_true_iff_forall_mem.mp hF) _ (Array.getElem_mem ha)) i (List.mem_range.mpr hi)
    simpa [Array.getElem?_eq_getElem hi] using q
  obtain ⟨hsets, hown0⟩ := atoms_of _ (rest_1_c_eq ▸ (show rest_1_c.before _ s = true from hrest))
  have hr0 := Cond.before_iff.mp hown0
  obtain ⟨i0, ei0⟩ := is_v gB0
  obtain rfl : w0 = (.int i0) := Option.some.inj ei0
  obtain ⟨hx0, hr0⟩ := and_e hn
  obtain ⟨hx1, hr1⟩ := and_e hr0
  obtain ⟨hx2, hr2⟩ := and_e hr1
  obtain ⟨hx3, hr3⟩ := and_e hr2
  obtain ⟨hx4, hr4⟩ := and_e hr3
  obtain ⟨hx5, hr5⟩ := and_e hr4
  obtain ⟨hx6, hr6⟩ := and_e hr5
  obtain ⟨hx7, hr7⟩ := and_e hr6
  obtain ⟨hx8, hr8⟩ := and_e hr7
  obtain ⟨hx9, hr9⟩ := and_e hr8
  obtain ⟨hx10, hr10⟩ := and_e hr9
  obtain ⟨hx11, hr11⟩ := and_e hr10
  obtain ⟨hx12, hr12⟩ := and_e hr11
  obtain ⟨hx13, hr13⟩ := and_e hr12
  obtain ⟨hx14, hr14⟩ := and_e hr13
  obtain ⟨hx15, hr15⟩ := and_e hr14
  obtain ⟨hx16, hr16⟩ := and_e hr15
  obtain ⟨hx17, hr17⟩ := and_e hr16
  obtain ⟨hx18, hr18⟩ := and_e hr17
  obtain ⟨hx19, hr19⟩ := and_e hr18
  obtain ⟨hx20, hr20⟩ := and_e hr19
  obtain ⟨hx21, hr21⟩ := and_e hr20
  obtain ⟨hx22, hr22⟩ := and_e hr21
  obtain ⟨hx23, hr23⟩ := and_e hr22
  obtain ⟨hx24, hr24⟩ := and_e hr23
  obtain ⟨hx25, hr25⟩ := and_e hr24
  obtain ⟨hx26, hr26⟩ := and_e hr25
  obtain ⟨hx27, hr27⟩ := and_e hr26
  obtain ⟨hx28, hr28⟩ := and_e hr27
  obtain ⟨hx29, hr29⟩ := and_e hr28
  obtain ⟨hx30, hr30⟩ := and_e hr29
  obtain ⟨hx31, hr31⟩ := and_e hr30
  obtain ⟨hx32, hr32⟩ := and_e hr31
  obtain ⟨hx33, hr33⟩ := and_e hr32
  obtain ⟨hx34, hr34⟩ := and_e hr33
  obtain ⟨hx35, hr35⟩ := and_e hr34
  obtain ⟨hx36, hr36⟩ := and_e hr35
  obtain ⟨hx37, hr37⟩ := and_e hr36
  obtain ⟨hx38, hr38⟩ := and_e hr37
  obtain ⟨hx39, hr39⟩ := and_e hr38
  obtain ⟨hx40, hr40⟩ := and_e hr39
  obtain ⟨hx41, hr41⟩ := and_e hr40
  obtain ⟨hx42, hr42⟩ := and_e hr41
  obtain ⟨hx43, hr43⟩ := and_e hr42
  obtain ⟨hx44, hr44⟩ := and_e hr43
  obtain ⟨hx45, hr45⟩ := and_e hr44
  obtain ⟨hx46, hr46⟩ := and_e hr45
  obtain ⟨hx47, hr47⟩ := and_e hr46
  obtain ⟨hx48, hr48⟩ := and_e hr47
  obtain ⟨hx49, hr49⟩ := and_e hr48
  obtain ⟨hx50, hr50⟩ := and_e hr49
  obtain ⟨hx51, hr51⟩ := and_e hr50
  obtain ⟨hx52, hr52⟩ := and_e hr51
  obtain ⟨hx53, hr53⟩ := and_e hr52
  obtain ⟨hx54, hr54⟩ := and_e hr53
  obtain ⟨aS0, eS0⟩ := exa_v hx0
  obtain ⟨aS1, eS1⟩ := exa_v hx20
  obtain ⟨aS2, eS2⟩ := exa_v hx2
  obtain ⟨aS3, eS3⟩ := exa_v hx4
  obtain ⟨aS4, eS4⟩ := exa_v hx40
  obtain ⟨aS5, eS5⟩ := exa_v hx48
  obtain ⟨aS6, eS6⟩ := exa_v hx32
  obtain ⟨aS7, eS7⟩ := exa_v hx12
  obtain ⟨aS8, eS8⟩ := exa_v hx18
  obtain ⟨aS9, eS9⟩ := exa_v hx24
  obtain ⟨aS10, eS10⟩ := exa_v hx22
  obtain ⟨aS11, eS11⟩ := exa_v hx14
  obtain ⟨aS12, eS12⟩ := exa_v hx50
  obtain ⟨aS13, eS13⟩ := exa_v hx38
  obtain ⟨aS14, eS14⟩ := exa_v hx46
  obtain ⟨aS15, eS15⟩ := exa_v hx30
  obtain ⟨aS16, eS16⟩ := exa_v hx28
  obtain ⟨aS17, eS17⟩ := exa_v hx44
  obtain ⟨aS18, eS18⟩ := exa_v hx10
  obtain ⟨aS19, eS19⟩ := exa_v hx26
  obtain ⟨aS20, eS20⟩ := exa_v hx34
  obtain ⟨aS21, eS21⟩ := exa_v hx54
  obtain ⟨aS22, eS22⟩ := exa_v hx42
  obtain ⟨aS23, eS23⟩ := exa_v hx36
  obtain ⟨aS24, eS24⟩ := exa_v hx16
  obtain ⟨aS25, eS25⟩ := exa_v hx52
  obtain ⟨aS26, eS26⟩ := exa_v hx6
  obtain ⟨aS27, eS27⟩ := exa_v hx8
  obtain ⟨cs, eCS⟩ := is_v (Cond.before_iff.mp (hsets _ (List.mem_of_getElem? (i := 1) rfl)))
  have hCS : ¬ (cs = (0 : Int32)) := own_csne eCS (Cond.before_iff.mp (hsets _ (List.mem_of_getElem? (i := 2) rfl)))
  have EN : own_St s (fun n => [aS0, aS1, aS2, aS3, aS4, aS5, aS6, aS7, aS8, aS9, aS10, aS11, aS12, aS13, aS14, aS15, aS16, aS17, aS18, aS19, aS20, aS21, aS22, aS23, aS24, aS25, aS26, aS27].getD n 0) (fun n => [].getD n 0) cs := ⟨⟨Sta.start eS0 (Or.inr ⟨(own_W hw 6 rfl), (own_W hw 7 rfl)⟩), Exa.start eS0 hx0, Sta.start eS1 (Or.inr ⟨(own_W hw 6 rfl), (own_W hw 157 rfl)⟩), Exa.start eS1 hx20, Sta.start eS2 (Or.inr ⟨(own_W hw 6 rfl), (own_W hw 94 rfl)⟩), Exa.start eS2 hx2, Sta.start eS3 (Or.inr ⟨(own_W hw 6 rfl), (own_W hw 96 rfl)⟩), Exa.start eS3 hx4, trivial⟩, ⟨Sta.start eS4 (Or.inr ⟨(own_W hw 6 rfl), (own_W hw 186 rfl)⟩), Exa.start eS4 hx40, Sta.start eS5 (Or.inr ⟨(own_W hw 6 rfl), (own_W hw 197 rfl)⟩), Exa.start eS5 hx48, Sta.start eS6 (Or.inr ⟨(own_W hw 6 rfl), (own_W hw 178 rfl)⟩), Exa.start eS6 hx32, Sta.start eS7 (Or.inr ⟨(own_W hw 6 rfl), (own_W hw 117 rfl)⟩), Exa.start eS7 hx12, trivial⟩, ⟨Sta.start eS8 (Or.inr ⟨(own_W hw 6 rfl), (own_W hw 155 rfl)⟩), Exa.start eS8 hx18, Sta.start eS9 (Or.inr ⟨(own_W hw 6 rfl), (own_W hw 161 rfl)⟩), Exa.start eS9 hx24, Sta.start eS10 (Or.inr ⟨(own_W hw 6 rfl), (own_W hw 159 rfl)⟩), Exa.start eS10 hx22, Sta.start eS11 (Or.inr ⟨(own_W hw 6 rfl), (own_W hw 127 rfl)⟩), Exa.start eS11 hx14, trivial⟩, ⟨Sta.start eS12 (Or.inr ⟨(own_W hw 6 rfl), (own_W hw 199 rfl)⟩), Exa.start eS12 hx50, Sta.start eS13 (Or.inr ⟨(own_W hw 6 rfl), (own_W hw 184 rfl)⟩), Exa.start eS13 hx38, Sta.start eS14 (Or.inr ⟨(own_W hw 6 rfl), (own_W hw 195 rfl)⟩), Exa.start eS14 hx46, Sta.start eS15 (Or.inr ⟨(own_W hw 6 rfl), (own_W hw 173 rfl)⟩), Exa.start eS15 hx30, trivial⟩, ⟨Sta.start eS16 (Or.inr ⟨(own_W hw 6 rfl), (own_W hw 171 rfl)⟩), Exa.start eS16 hx28, Sta.start eS17 (Or.inr ⟨(own_W hw 6 rfl), (own_W hw 193 rfl)⟩), Exa.start eS17 hx44, Sta.start eS18 (Or.inr ⟨(own_W hw 6 rfl), (own_W hw 115 rfl)⟩), Exa.start eS18 hx10, Sta.start eS19 (Or.inr ⟨(own_W hw 6 rfl), (own_W hw 163 rfl)⟩), Exa.start eS19 hx26, trivial⟩, ⟨Sta.start eS20 (Or.inr ⟨(own_W hw 6 rfl), (own_W hw 180 rfl)⟩), Exa.start eS20 hx34, Sta.start eS21 (Or.inr ⟨(own_W hw 6 rfl), (own_W hw 203 rfl)⟩), Exa.start eS21 hx54, Sta.start eS22 (Or.inr ⟨(own_W hw 6 rfl), (own_W hw 188 rfl)⟩), Exa.start eS22 hx42, Sta.start eS23 (Or.inr ⟨(own_W hw 6 rfl), (own_W hw 182 rfl)⟩), Exa.start eS23 hx36, trivial⟩, ⟨Sta.start eS24 (Or.inr ⟨(own_W hw 6 rfl), (own_W hw 141 rfl)⟩), Exa.start eS24 hx16, Sta.start eS25 (Or.inr ⟨(own_W hw 6 rfl), (own_W hw 201 rfl)⟩), Exa.start eS25 hx52, Sta.start eS26 (Or.inr ⟨(own_W hw 6 rfl), (own_W hw 111 rfl)⟩), Exa.start eS26 hx6, Sta.start eS27 (Or.inr ⟨(own_W hw 6 rfl), (own_W hw 113 rfl)⟩), Exa.start eS27 hx8, trivial⟩, ⟨Sta.start eCS (Or.inl (hsets _ (List.mem_of_getElem? (i := 0) rfl))), hCS, own_orref (Cond.before_iff.mp (hsets _ (List.mem_of_getElem? (i := 8) rfl))) (Or.inl (hsets _ (List.mem_of_getElem? (i := 7) rfl))), own_fld eS0 (own_eqv (Term.int_eval _) hx1), own_fld eS2 (own_eqv (Term.int_eval _) hx3), own_fld eS3 (own_eqv (Term.int_eval _) hx5), own_fld eS26 (own_eqv (Term.int_eval _) hx7), own_fld eS27 (own_eqv (Term.int_eval _) hx9), trivial⟩, ⟨own_fld eS18 (own_eqv (Term.int_eval _) hx11), own_fld eS7 (own_eqv (Term.int_eval _) hx13), own_fld eS11 (own_eqv (Term.int_eval _) hx15), own_fld eS24 (own_eqv (Term.int_eval _) hx17), own_fld eS8 (own_eqv (Term.int_eval _) hx19), own_fld eS1 (own_eqv (Term.int_eval _) hx21), own_fld eS10 (own_eqv (Term.int_eval _) hx23), own_fld eS9 (own_eqv (Term.int_eval _) hx25), trivial⟩, ⟨own_fld eS19 (own_eqv (Term.int_eval _) hx27), own_fld eS16 (own_eqv (Term.int_eval _) hx29), own_fld eS15 (own_eqv (Term.int_eval _) hx31), own_fld eS6 (own_eqv (Term.int_eval _) hx33), own_fld eS20 (own_eqv (Term.int_eval _) hx35), own_fld eS23 (own_eqv (Term.int_eval _) hx37), own_fld eS13 (own_eqv (Term.int_eval _) hx39), own_fld eS4 (own_eqv (Term.int_eval _) hx41), trivial⟩, ⟨own_fld eS22 (own_eqv (Term.int_eval _) hx43), own_fld eS17 (own_eqv (Term.int_eval _) hx45), own_fld eS14 (own_eqv (Term.int_eval _) hx47), own_fld eS5 (own_eqv (Term.int_eval _) hx49), own_fld eS12 (own_eqv (Term.int_eval _) hx51), own_fld eS25 (own_eqv (Term.int_eval _) hx53), own_fld eS21 (own_eqv (Term.int_eval _) hr54), trivial⟩, trivial⟩
  have hcw : Jvm.Lit.compactW.before _ s = true := hsets _ (List.mem_of_getElem? (i := 2) rfl)
  have HC0 : CHv s consts_1 s.vm s.heap := CHv.start (own_EW _ s hw) (fun p hp => hcalls.1 p hp) hcw (own_W hw 11 rfl) (own_W hw 10 rfl)
  obtain ⟨n, o, h1, h2, h3, _, L, rfl, hQ, hq⟩ := rm0 l s _ hw tables_1 s.heap s.heap.size i0 (fun n => [aS0, aS1, aS2, aS3, aS4, aS5, aS6, aS7, aS8, aS9, aS10, aS11, aS12, aS13, aS14, aS15, aS16, aS17, aS18, aS19, aS20, aS21, aS22, aS23, aS24, aS25, aS26, aS27].getD n 0) (fun n => [].getD n 0) cs EN HC0 rfl rfl p e ha hc hk s m _ below hf ((Spec.applies_iff_loose hf).mp happ).1 ⟨rfl, rfl, rfl⟩ trivial
  obtain ⟨rfl, N, -⟩ := hQ
  refine ⟨n, _, h1, h2, h3, hpost _ _ _ _ _ _ ⟨Cond.after_iff.mpr rfl, Cond.after_iff.mpr (eq_i res_at (Term.int_eval (1)) rfl), trivial⟩ ⟨hq.1, hq.2.1, hq.2.2.1, (hq.2.2.2.sift fun y hy => Or.inr (N y hy)).mono (by decide) (by decide)⟩⟩
theorem main_1_1 : Claimed_1_1 := comes_1 fun _ _ _ _ _ _ h hF => ⟨h.1, hF⟩
theorem main_1_2 : Claimed_1_2 := comes_1 fun _ _ _ _ _ _ h hF => ⟨h.2.1, hF⟩
end Jvm.Pilot.@@N@@
namespace Jvm.Pilot.@@N@@
open Jvm Jvm.ClassFile Sem Op Lib Jvm.Free Jvm.Stand Jvm.Pilot.@@N@@.Jvm.D
/-! MADE BY PROGRAM (witnessworld.py) out of the Statement's table words and the real class files: 17 classes; the members and pool entries that the words name. The judged class is class 1, her method 2. -/
namespace start1
open Jvm.ClassFile
def u (s : String) : CpInfo := .utf8 (stringToUtf16 s)
/-- a pool by its gaps: so many unusable entries, then the entry; so many at the end -/
def gap : Nat → List CpInfo → List CpInfo
  | 0, r => r
  | n + 1, r => .unusable :: gap n r
def poolList (es : List (Nat × CpInfo)) (last : Nat) : List CpInfo := es.foldr (fun e r => gap e.1 (e.2 :: r)) (gap last [])
def pool (es : List (Nat × CpInfo)) (last : Nat) : Array CpInfo := ⟨poolList es last⟩
def fileOf (pool : Array CpInfo) (this : Nat) (attrs : Array Attribute := #[]) (ms : Array MethodInfo := #[]) (fl : Nat := 33) (sup : Nat := 0) (ifs : Array Nat := #[]) (fds : Array FieldInfo := #[]) : ClassFile where
  minorVersion := 0
  majorVersion := 65
  constantPool := pool
  accessFlags := fl
  thisClass := this
  superClass := sup
  interfaces := ifs
  fields := fds
  methods := ms
  attributes := attrs
def plain (name : String) (sup : Option ClassId) : Class where
  name := name
  kind := .ordinary
  loader := none
  accessFlags := 33
  super := sup
  interfaces := #[]
  cf := none
  fields := #[]
  methods := #[]
  instanceTypes := #[]
  staticTypes := #[]
  resolved := #[]
  callSites := []
  init := .initialized
  statics := none
  mirror := none

def pool0 : Array CpInfo := pool [(5, u "<init>"), (0, u "()V"), (1, .class_ 10), (1, u "java/lang/Object")] 113

def k0m0 : Method := { name := "<init>", desc := "()V", sig := { parameters := [], returnType := none }, accessFlags := 1, code := none }
/-- java/lang/Object -/
def k0 : Class := { plain "java/lang/Object" none with
  accessFlags := 33
  interfaces := #[]
  cf := some (fileOf pool0 8 #[] #[{ accessFlags := 1, nameIndex := 5, descriptorIndex := 6, attributes := #[] }] 33 0 #[] #[])
  fields := #[]
  methods := #[k0m0]
  instanceTypes := #[]
  staticTypes := #[]
  resolved := Array.replicate 124 none
  statics := none }

def pool1 : Array CpInfo := pool [(2, .class_ 4), (1, u "java/lang/Object"), (0, u "<init>"), (0, u "()V"), (0, .fieldref 8 9), (0, .class_ 10), (0, .nameAndType 11 12), (0, u "com/example/tallywire/tallywire/wire/FieldType"), (0, u "INT"), (0, u "Lcom/example/tallywire/tallywire/wire/FieldType;"), (0, .fieldref 8 14), (0, .nameAndType 15 12), (0, u "SEQNUM"), (0, .fieldref 8 17), (0, .nameAndType 18 12), (0, u "LENGTH"), (0, .fieldref 8 20), (0, .nameAndType 21 12), (0, u "NUMINGROUP"), (0, .fieldref 8 23), (0, .nameAndType 24 12), (0, u "FLOAT"), (0, .fieldref 8 26), (0, .nameAndType 27 12), (0, u "QTY"), (0, .fieldref 8 29), (0, .nameAndType 30 12), (0, u "PRICE"), (0, .fieldref 8 32), (0, .nameAndType 33 12), (0, u "AMT"), (0, .fieldref 8 35), (0, .nameAndType 36 12), (0, u "PERCENTAGE"), (0, .fieldref 8 38), (0, .nameAndType 39 12), (0, u "PRICEOFFSET"), (0, .fieldref 8 41), (0, .nameAndType 42 12), (0, u "CHAR"), (0, .fieldref 8 44), (0, .nameAndType 45 12), (0, u "BOOLEAN"), (0, .fieldref 8 47), (0, .nameAndType 48 12), (0, u "STRING"), (0, .fieldref 8 50), (0, .nameAndType 51 12), (0, u "MULTIPLEVALUESTRING"), (0, .fieldref 8 53), (0, .nameAndType 54 12), (0, u "MULTIPLESTRINGVALUE"), (0, .fieldref 8 56), (0, .nameAndType 57 12), (0, u "MULTIPLECHARVALUE"), (0, .fieldref 8 59), (0, .nameAndType 60 12), (0, u "EXCHANGE"), (0, .fieldref 8 62), (0, .nameAndType 63 12), (0, u "CURRENCY"), (0, .fieldref 8 65), (0, .nameAndType 66 12), (0, u "COUNTRY"), (0, .fieldref 8 68), (0, .nameAndType 69 12), (0, u "LOCALMKTDATE"), (0, .fieldref 8 71), (0, .nameAndType 72 12), (0, u "UTCDATEONLY"), (0, .fieldref 8 74), (0, .nameAndType 75 12), (0, u "MONTHYEAR"), (0, .fieldref 8 77), (0, .nameAndType 78 12), (0, u "UTCTIMESTAMP"), (0, .fieldref 8 80), (0, .nameAndType 81 12), (0, u "UTCTIMEONLY"), (0, .fieldref 8 83), (0, .nameAndType 84 12), (0, u "TZTIMEONLY"), (0, .fieldref 8 86), (0, .nameAndType 87 12), (0, u "TZTIMESTAMP"), (0, .fieldref 8 89), (0, .nameAndType 90 12), (0, u "DATA"), (0, .fieldref 8 92), (0, .nameAndType 93 12), (0, u "XMLDATA"), (0, .integer 2147483647), (0, .methodref 96 97), (0, .class_ 98), (0, .nameAndType 99 100), (0, u "com/example/tallywire/tallywire/wire/FieldTypeIsLengthPinLaw"), (0, u "pick"), (0, u "(I)Lcom/example/tallywire/tallywire/wire/FieldType;"), (0, .string 102), (0, u "00"), (0, .methodref 8 104), (0, .nameAndType 105 106), (0, u "hasForm"), (0, u "(Ljava/lang/String;)Z"), (0, .string 108), (0, u "-0"), (0, .methodref 8 110), (0, .nameAndType 111 112), (0, u "isLength"), (0, u "()Z"), (3, u "law"), (0, u "(I)Z")] 2

def k1m0 : Method := { name := "<init>", desc := "()V", sig := { parameters := [], returnType := none }, accessFlags := 2, code := none }
def k1c1 : Code := { maxStack := 1, maxLocals := 1, code := method_2_code, exceptionTable := #[], attributes := #[] }
def k1m1 : Method := { name := "pick", desc := "(I)Lcom/example/tallywire/tallywire/wire/FieldType;", sig := { parameters := [.int], returnType := some (.object "com/example/tallywire/tallywire/wire/FieldType") }, accessFlags := 10, code := some k1c1 }
def k1c2 : Code := { maxStack := 2, maxLocals := 4, code := code, exceptionTable := #[], attributes := #[] }
def k1m2 : Method := { name := "law", desc := "(I)Z", sig := { parameters := [.int], returnType := some .boolean }, accessFlags := 9, code := some k1c2 }
/-- com/example/tallywire/tallywire/wire/FieldTypeIsLengthPinLaw -/
def k1 : Class := { plain "com/example/tallywire/tallywire/wire/FieldTypeIsLengthPinLaw" (some 0) with
  accessFlags := 49
  interfaces := #[]
  cf := some (fileOf pool1 96 #[] #[{ accessFlags := 2, nameIndex := 5, descriptorIndex := 6, attributes := #[] }, { accessFlags := 10, nameIndex := 99, descriptorIndex := 100, attributes := #[] }, { accessFlags := 9, nameIndex := 116, descriptorIndex := 117, attributes := #[] }] 49 2 #[] #[])
  fields := #[]
  methods := #[k1m0, k1m1, k1m2]
  instanceTypes := #[]
  staticTypes := #[]
  resolved := Array.replicate 120 none
  statics := none }

def pool2 : Array CpInfo := pool [(1, .class_ 2), (0, u "java/lang/constant/Constable"), (0, .class_ 4), (0, u "java/lang/Object")] 6

/-- java/lang/constant/Constable -/
def k2 : Class := { plain "java/lang/constant/Constable" (some 0) with
  accessFlags := 1537
  interfaces := #[]
  cf := some (fileOf pool2 1 #[] #[] 1537 3 #[] #[])
  fields := #[]
  methods := #[]
  instanceTypes := #[]
  staticTypes := #[]
  resolved := Array.replicate 11 none
  statics := none }

def pool3 : Array CpInfo := pool [(1, .class_ 2), (0, u "java/lang/Comparable"), (0, .class_ 4), (0, u "java/lang/Object")] 7

/-- java/lang/Comparable -/
def k3 : Class := { plain "java/lang/Comparable" (some 0) with
  accessFlags := 1537
  interfaces := #[]
  cf := some (fileOf pool3 1 #[] #[] 1537 3 #[] #[])
  fields := #[]
  methods := #[]
  instanceTypes := #[]
  staticTypes := #[]
  resolved := Array.replicate 12 none
  statics := none }

def pool4 : Array CpInfo := pool [(1, .class_ 2), (0, u "java/io/Serializable"), (0, .class_ 4), (0, u "java/lang/Object")] 2

/-- java/io/Serializable -/
def k4 : Class := { plain "java/io/Serializable" (some 0) with
  accessFlags := 1537
  interfaces := #[]
  cf := some (fileOf pool4 1 #[] #[] 1537 3 #[] #[])
  fields := #[]
  methods := #[]
  instanceTypes := #[]
  staticTypes := #[]
  resolved := Array.replicate 7 none
  statics := none }

def pool5 : Array CpInfo := pool [(2, .class_ 4), (1, u "java/lang/Enum"), (0, u "name"), (0, u "Ljava/lang/String;"), (0, .fieldref 2 8), (0, .nameAndType 9 10), (0, u "ordinal"), (0, u "I"), (1, .class_ 14), (1, u "java/lang/Object"), (4, u "hash"), (86, .class_ 108), (1, u "java/lang/Enum$EnumDesc"), (2, .class_ 112), (0, u "java/lang/constant/Constable"), (0, .class_ 114), (0, u "java/lang/Comparable"), (0, .class_ 116), (0, u "java/io/Serializable"), (9, u "()I")] 77

def k5c0 : Code := { maxStack := 1, maxLocals := 1, code := jdk_37_method_2_code, exceptionTable := #[], attributes := #[] }
def k5m0 : Method := { name := "ordinal", desc := "()I", sig := { parameters := [], returnType := some .int }, accessFlags := 17, code := some k5c0 }
/-- java/lang/Enum -/
def k5 : Class := { plain "java/lang/Enum" (some 0) with
  accessFlags := 1057
  interfaces := #[2, 3, 4]
  cf := some (fileOf pool5 2 #[.nestMembers #[106]] #[{ accessFlags := 17, nameIndex := 9, descriptorIndex := 126, attributes := #[] }] 1057 12 #[111, 113, 115] #[{ accessFlags := 18, nameIndex := 5, descriptorIndex := 6, attributes := #[] }, { accessFlags := 18, nameIndex := 9, descriptorIndex := 10, attributes := #[] }, { accessFlags := 2, nameIndex := 19, descriptorIndex := 10, attributes := #[] }])
  fields := #[{ name := "name", type := (.object "java/lang/String"), accessFlags := 18, slot := 0, constantValue := 0 }, { name := "ordinal", type := .int, accessFlags := 18, slot := 1, constantValue := 0 }, { name := "hash", type := .int, accessFlags := 2, slot := 2, constantValue := 0 }]
  methods := #[k5m0]
  instanceTypes := #[(.object "java/lang/String"), .int, .int]
  staticTypes := #[]
  resolved := Array.replicate 204 none
  statics := none }

def pool6 : Array CpInfo := pool [(1, .class_ 2), (0, u "com/example/tallywire/tallywire/wire/FieldType"), (2, u "INT"), (0, u "Lcom/example/tallywire/tallywire/wire/FieldType;"), (2, u "SEQNUM"), (0, .fieldref 1 11), (0, .nameAndType 12 6), (0, u "LENGTH"), (2, u "NUMINGROUP"), (2, u "FLOAT"), (2, u "QTY"), (2, u "PRICE"), (2, u "AMT"), (2, u "PERCENTAGE"), (2, u "PRICEOFFSET"), (2, u "CHAR"), (2, u "BOOLEAN"), (2, u "STRING"), (2, u "MULTIPLEVALUESTRING"), (2, u "MULTIPLESTRINGVALUE"), (2, u "MULTIPLECHARVALUE"), (2, u "EXCHANGE"), (2, u "CURRENCY"), (2, u "COUNTRY"), (2, u "LOCALMKTDATE"), (2, u "UTCDATEONLY"), (2, u "MONTHYEAR"), (2, u "UTCTIMESTAMP"), (2, u "UTCTIMEONLY"), (2, u "TZTIMEONLY"), (2, u "TZTIMESTAMP"), (2, u "DATA"), (2, u "XMLDATA"), (2, u "$VALUES"), (0, u "[Lcom/example/tallywire/tallywire/wire/FieldType;"), (6, .class_ 100), (1, u "java/lang/Enum"), (6, .methodref 108 109), (0, .class_ 110), (0, .nameAndType 111 112), (0, u "java/lang/String"), (0, u "length"), (0, u "()I"), (0, .methodref 1 114), (0, .nameAndType 115 112), (0, u "ordinal"), (5, .string 122), (0, u "-"), (0, .methodref 108 124), (0, .nameAndType 125 126), (0, u "startsWith"), (0, u "(Ljava/lang/String;)Z"), (0, .methodref 1 128), (0, .nameAndType 129 130), (0, u "digits"), (0, u "(Ljava/lang/String;I)I"), (0, .methodref 132 133), (0, .class_ 134), (0, .nameAndType 135 136), (0, u "com/example/tallywire/tallywire/wire/TagValue"), (0, u "parseNumber"), (0, u "(Ljava/lang/String;)J"), (0, .methodref 1 138), (0, .nameAndType 139 140), (0, u "decimal"), (0, u "(Ljava/lang/String;)I"), (0, .string 142), (0, u "Y"), (0, .methodref 108 144), (0, .nameAndType 145 146), (0, u "equals"), (0, u "(Ljava/lang/Object;)Z"), (0, .string 148), (0, u "N"), (0, .methodref 1 150), (0, .nameAndType 151 126), (0, u "isCharacterList"), (0, .methodref 1 153), (0, .nameAndType 154 130), (0, u "date"), (0, .methodref 1 156), (0, .nameAndType 157 140), (0, u "monthYear"), (0, .methodref 1 159), (0, .nameAndType 160 140), (0, u "dateAndDash"), (0, .methodref 1 162), (0, .nameAndType 163 164), (0, u "time"), (0, u "(Ljava/lang/String;IZZ)I"), (0, .methodref 1 166), (0, .nameAndType 167 130), (0, u "zone"), (0, .methodref 108 169), (0, .nameAndType 170 171), (0, u "charAt"), (0, u "(I)C"), (0, .methodref 1 173), (0, .nameAndType 174 175), (0, u "isDigit"), (0, u "(C)Z"), (0, .methodref 1 177), (0, .nameAndType 178 179), (0, u "isAt"), (0, u "(Ljava/lang/String;IC)Z"), (0, .methodref 1 181), (0, .nameAndType 182 183), (0, u "number"), (0, u "(Ljava/lang/String;IIII)I"), (0, .methodref 1 185), (0, .nameAndType 186 130), (0, u "yearAndMonth"), (0, .methodref 1 188), (0, .nameAndType 189 190), (0, u "character"), (0, u "(Ljava/lang/String;IC)I"), (33, u "MISSING"), (0, u "I"), (10, u "()Z"), (1, u "isLength"), (1, u "hasForm")] 4

def k6c0 : Code := { maxStack := 2, maxLocals := 1, code := prog_40_method_5_code, exceptionTable := #[], attributes := #[] }
def k6m0 : Method := { name := "isLength", desc := "()Z", sig := { parameters := [], returnType := some .boolean }, accessFlags := 1, code := some k6c0 }
def k6c1 : Code := { maxStack := 5, maxLocals := 3, code := prog_40_method_7_code, exceptionTable := #[], attributes := #[] }
def k6m1 : Method := { name := "hasForm", desc := "(Ljava/lang/String;)Z", sig := { parameters := [(.object "java/lang/String")], returnType := some .boolean }, accessFlags := 1, code := some k6c1 }
def k6c2 : Code := { maxStack := 2, maxLocals := 3, code := prog_40_method_8_code, exceptionTable := #[], attributes := #[] }
def k6m2 : Method := { name := "digits", desc := "(Ljava/lang/String;I)I", sig := { parameters := [(.object "java/lang/String"), .int], returnType := some .int }, accessFlags := 10, code := some k6c2 }
def k6c3 : Code := { maxStack := 3, maxLocals := 7, code := prog_40_method_9_code, exceptionTable := #[], attributes := #[] }
def k6m3 : Method := { name := "number", desc := "(Ljava/lang/String;IIII)I", sig := { parameters := [(.object "java/lang/String"), .int, .int, .int, .int], returnType := some .int }, accessFlags := 10, code := some k6c3 }
def k6c4 : Code := { maxStack := 3, maxLocals := 3, code := prog_40_method_10_code, exceptionTable := #[], attributes := #[] }
def k6m4 : Method := { name := "character", desc := "(Ljava/lang/String;IC)I", sig := { parameters := [(.object "java/lang/String"), .int, .char], returnType := some .int }, accessFlags := 10, code := some k6c4 }
def k6c5 : Code := { maxStack := 2, maxLocals := 3, code := prog_40_method_11_code, exceptionTable := #[], attributes := #[] }
def k6m5 : Method := { name := "isAt", desc := "(Ljava/lang/String;IC)Z", sig := { parameters := [(.object "java/lang/String"), .int, .char], returnType := some .boolean }, accessFlags := 10, code := some k6c5 }
def k6c6 : Code := { maxStack := 2, maxLocals := 1, code := prog_40_method_12_code, exceptionTable := #[], attributes := #[] }
def k6m6 : Method := { name := "isDigit", desc := "(C)Z", sig := { parameters := [.char], returnType := some .boolean }, accessFlags := 10, code := some k6c6 }
def k6c7 : Code := { maxStack := 3, maxLocals := 2, code := prog_40_method_13_code, exceptionTable := #[], attributes := #[] }
def k6m7 : Method := { name := "decimal", desc := "(Ljava/lang/String;)I", sig := { parameters := [(.object "java/lang/String")], returnType := some .int }, accessFlags := 10, code := some k6c7 }
def k6c8 : Code := { maxStack := 3, maxLocals := 2, code := prog_40_method_14_code, exceptionTable := #[], attributes := #[] }
def k6m8 : Method := { name := "isCharacterList", desc := "(Ljava/lang/String;)Z", sig := { parameters := [(.object "java/lang/String")], returnType := some .boolean }, accessFlags := 10, code := some k6c8 }
def k6c9 : Code := { maxStack := 6, maxLocals := 2, code := prog_40_method_15_code, exceptionTable := #[], attributes := #[] }
def k6m9 : Method := { name := "yearAndMonth", desc := "(Ljava/lang/String;I)I", sig := { parameters := [(.object "java/lang/String"), .int], returnType := some .int }, accessFlags := 10, code := some k6c9 }
def k6c10 : Code := { maxStack := 5, maxLocals := 2, code := prog_40_method_16_code, exceptionTable := #[], attributes := #[] }
def k6m10 : Method := { name := "date", desc := "(Ljava/lang/String;I)I", sig := { parameters := [(.object "java/lang/String"), .int], returnType := some .int }, accessFlags := 10, code := some k6c10 }
def k6c11 : Code := { maxStack := 3, maxLocals := 1, code := prog_40_method_17_code, exceptionTable := #[], attributes := #[] }
def k6m11 : Method := { name := "dateAndDash", desc := "(Ljava/lang/String;)I", sig := { parameters := [(.object "java/lang/String")], returnType := some .int }, accessFlags := 10, code := some k6c11 }
def k6c12 : Code := { maxStack := 5, maxLocals := 2, code := prog_40_method_18_code, exceptionTable := #[], attributes := #[] }
def k6m12 : Method := { name := "monthYear", desc := "(Ljava/lang/String;)I", sig := { parameters := [(.object "java/lang/String")], returnType := some .int }, accessFlags := 10, code := some k6c12 }
def k6c13 : Code := { maxStack := 7, maxLocals := 6, code := prog_40_method_19_code, exceptionTable := #[], attributes := #[] }
def k6m13 : Method := { name := "time", desc := "(Ljava/lang/String;IZZ)I", sig := { parameters := [(.object "java/lang/String"), .int, .boolean, .boolean], returnType := some .int }, accessFlags := 10, code := some k6c13 }
def k6c14 : Code := { maxStack := 5, maxLocals := 3, code := prog_40_method_20_code, exceptionTable := #[], attributes := #[] }
def k6m14 : Method := { name := "zone", desc := "(Ljava/lang/String;I)I", sig := { parameters := [(.object "java/lang/String"), .int], returnType := some .int }, accessFlags := 10, code := some k6c14 }
/-- com/example/tallywire/tallywire/wire/FieldType -/
def k6 : Class := { plain "com/example/tallywire/tallywire/wire/FieldType" (some 5) with
  accessFlags := 16433
  interfaces := #[]
  cf := some (fileOf pool6 1 #[] #[{ accessFlags := 1, nameIndex := 238, descriptorIndex := 236, attributes := #[] }, { accessFlags := 1, nameIndex := 240, descriptorIndex := 126, attributes := #[] }, { accessFlags := 10, nameIndex := 129, descriptorIndex := 130, attributes := #[] }, { accessFlags := 10, nameIndex := 182, descriptorIndex := 183, attributes := #[] }, { accessFlags := 10, nameIndex := 189, descriptorIndex := 190, attributes := #[] }, { accessFlags := 10, nameIndex := 178, descriptorIndex := 179, attributes := #[] }, { accessFlags := 10, nameIndex := 174, descriptorIndex := 175, attributes := #[] }, { accessFlags := 10, nameIndex := 139, descriptorIndex := 140, attributes := #[] }, { accessFlags := 10, nameIndex := 151, descriptorIndex := 126, attributes := #[] }, { accessFlags := 10, nameIndex := 186, descriptorIndex := 130, attributes := #[] }, { accessFlags := 10, nameIndex := 154, descriptorIndex := 130, attributes := #[] }, { accessFlags := 10, nameIndex := 160, descriptorIndex := 140, attributes := #[] }, { accessFlags := 10, nameIndex := 157, descriptorIndex := 140, attributes := #[] }, { accessFlags := 10, nameIndex := 163, descriptorIndex := 164, attributes := #[] }, { accessFlags := 10, nameIndex := 167, descriptorIndex := 130, attributes := #[] }] 16433 98 #[] #[{ accessFlags := 16409, nameIndex := 5, descriptorIndex := 6, attributes := #[] }, { accessFlags := 16409, nameIndex := 9, descriptorIndex := 6, attributes := #[] }, { accessFlags := 16409, nameIndex := 12, descriptorIndex := 6, attributes := #[] }, { accessFlags := 16409, nameIndex := 15, descriptorIndex := 6, attributes := #[] }, { accessFlags := 16409, nameIndex := 18, descriptorIndex := 6, attributes := #[] }, { accessFlags := 16409, nameIndex := 21, descriptorIndex := 6, attributes := #[] }, { accessFlags := 16409, nameIndex := 24, descriptorIndex := 6, attributes := #[] }, { accessFlags := 16409, nameIndex := 27, descriptorIndex := 6, attributes := #[] }, { accessFlags := 16409, nameIndex := 30, descriptorIndex := 6, attributes := #[] }, { accessFlags := 16409, nameIndex := 33, descriptorIndex := 6, attributes := #[] }, { accessFlags := 16409, nameIndex := 36, descriptorIndex := 6, attributes := #[] }, { accessFlags := 16409, nameIndex := 39, descriptorIndex := 6, attributes := #[] }, { accessFlags := 16409, nameIndex := 42, descriptorIndex := 6, attributes := #[] }, { accessFlags := 16409, nameIndex := 45, descriptorIndex := 6, attributes := #[] }, { accessFlags := 16409, nameIndex := 48, descriptorIndex := 6, attributes := #[] }, { accessFlags := 16409, nameIndex := 51, descriptorIndex := 6, attributes := #[] }, { accessFlags := 16409, nameIndex := 54, descriptorIndex := 6, attributes := #[] }, { accessFlags := 16409, nameIndex := 57, descriptorIndex := 6, attributes := #[] }, { accessFlags := 16409, nameIndex := 60, descriptorIndex := 6, attributes := #[] }, { accessFlags := 16409, nameIndex := 63, descriptorIndex := 6, attributes := #[] }, { accessFlags := 16409, nameIndex := 66, descriptorIndex := 6, attributes := #[] }, { accessFlags := 16409, nameIndex := 69, descriptorIndex := 6, attributes := #[] }, { accessFlags := 16409, nameIndex := 72, descriptorIndex := 6, attributes := #[] }, { accessFlags := 16409, nameIndex := 75, descriptorIndex := 6, attributes := #[] }, { accessFlags := 16409, nameIndex := 78, descriptorIndex := 6, attributes := #[] }, { accessFlags := 16409, nameIndex := 81, descriptorIndex := 6, attributes := #[] }, { accessFlags := 16409, nameIndex := 84, descriptorIndex := 6, attributes := #[] }, { accessFlags := 16409, nameIndex := 87, descriptorIndex := 6, attributes := #[] }, { accessFlags := 26, nameIndex := 224, descriptorIndex := 225, attributes := #[] }, { accessFlags := 4122, nameIndex := 90, descriptorIndex := 91, attributes := #[] }])
  fields := #[{ name := "INT", type := (.object "com/example/tallywire/tallywire/wire/FieldType"), accessFlags := 16409, slot := 0, constantValue := 0 }, { name := "SEQNUM", type := (.object "com/example/tallywire/tallywire/wire/FieldType"), accessFlags := 16409, slot := 1, constantValue := 0 }, { name := "LENGTH", type := (.object "com/example/tallywire/tallywire/wire/FieldType"), accessFlags := 16409, slot := 2, constantValue := 0 }, { name := "NUMINGROUP", type := (.object "com/example/tallywire/tallywire/wire/FieldType"), accessFlags := 16409, slot := 3, constantValue := 0 }, { name := "FLOAT", type := (.object "com/example/tallywire/tallywire/wire/FieldType"), accessFlags := 16409, slot := 4, constantValue := 0 }, { name := "QTY", type := (.object "com/example/tallywire/tallywire/wire/FieldType"), accessFlags := 16409, slot := 5, constantValue := 0 }, { name := "PRICE", type := (.object "com/example/tallywire/tallywire/wire/FieldType"), accessFlags := 16409, slot := 6, constantValue := 0 }, { name := "AMT", type := (.object "com/example/tallywire/tallywire/wire/FieldType"), accessFlags := 16409, slot := 7, constantValue := 0 }, { name := "PERCENTAGE", type := (.object "com/example/tallywire/tallywire/wire/FieldType"), accessFlags := 16409, slot := 8, constantValue := 0 }, { name := "PRICEOFFSET", type := (.object "com/example/tallywire/tallywire/wire/FieldType"), accessFlags := 16409, slot := 9, constantValue := 0 }, { name := "CHAR", type := (.object "com/example/tallywire/tallywire/wire/FieldType"), accessFlags := 16409, slot := 10, constantValue := 0 }, { name := "BOOLEAN", type := (.object "com/example/tallywire/tallywire/wire/FieldType"), accessFlags := 16409, slot := 11, constantValue := 0 }, { name := "STRING", type := (.object "com/example/tallywire/tallywire/wire/FieldType"), accessFlags := 16409, slot := 12, constantValue := 0 }, { name := "MULTIPLEVALUESTRING", type := (.object "com/example/tallywire/tallywire/wire/FieldType"), accessFlags := 16409, slot := 13, constantValue := 0 }, { name := "MULTIPLESTRINGVALUE", type := (.object "com/example/tallywire/tallywire/wire/FieldType"), accessFlags := 16409, slot := 14, constantValue := 0 }, { name := "MULTIPLECHARVALUE", type := (.object "com/example/tallywire/tallywire/wire/FieldType"), accessFlags := 16409, slot := 15, constantValue := 0 }, { name := "EXCHANGE", type := (.object "com/example/tallywire/tallywire/wire/FieldType"), accessFlags := 16409, slot := 16, constantValue := 0 }, { name := "CURRENCY", type := (.object "com/example/tallywire/tallywire/wire/FieldType"), accessFlags := 16409, slot := 17, constantValue := 0 }, { name := "COUNTRY", type := (.object "com/example/tallywire/tallywire/wire/FieldType"), accessFlags := 16409, slot := 18, constantValue := 0 }, { name := "LOCALMKTDATE", type := (.object "com/example/tallywire/tallywire/wire/FieldType"), accessFlags := 16409, slot := 19, constantValue := 0 }, { name := "UTCDATEONLY", type := (.object "com/example/tallywire/tallywire/wire/FieldType"), accessFlags := 16409, slot := 20, constantValue := 0 }, { name := "MONTHYEAR", type := (.object "com/example/tallywire/tallywire/wire/FieldType"), accessFlags := 16409, slot := 21, constantValue := 0 }, { name := "UTCTIMESTAMP", type := (.object "com/example/tallywire/tallywire/wire/FieldType"), accessFlags := 16409, slot := 22, constantValue := 0 }, { name := "UTCTIMEONLY", type := (.object "com/example/tallywire/tallywire/wire/FieldType"), accessFlags := 16409, slot := 23, constantValue := 0 }, { name := "TZTIMEONLY", type := (.object "com/example/tallywire/tallywire/wire/FieldType"), accessFlags := 16409, slot := 24, constantValue := 0 }, { name := "TZTIMESTAMP", type := (.object "com/example/tallywire/tallywire/wire/FieldType"), accessFlags := 16409, slot := 25, constantValue := 0 }, { name := "DATA", type := (.object "com/example/tallywire/tallywire/wire/FieldType"), accessFlags := 16409, slot := 26, constantValue := 0 }, { name := "XMLDATA", type := (.object "com/example/tallywire/tallywire/wire/FieldType"), accessFlags := 16409, slot := 27, constantValue := 0 }, { name := "MISSING", type := .int, accessFlags := 26, slot := 28, constantValue := 0 }, { name := "$VALUES", type := (.array (.object "com/example/tallywire/tallywire/wire/FieldType")), accessFlags := 4122, slot := 29, constantValue := 0 }]
  methods := #[k6m0, k6m1, k6m2, k6m3, k6m4, k6m5, k6m6, k6m7, k6m8, k6m9, k6m10, k6m11, k6m12, k6m13, k6m14]
  instanceTypes := #[(.object "java/lang/String"), .int, .int]
  staticTypes := #[(.object "com/example/tallywire/tallywire/wire/FieldType"), (.object "com/example/tallywire/tallywire/wire/FieldType"), (.object "com/example/tallywire/tallywire/wire/FieldType"), (.object "com/example/tallywire/tallywire/wire/FieldType"), (.object "com/example/tallywire/tallywire/wire/FieldType"), (.object "com/example/tallywire/tallywire/wire/FieldType"), (.object "com/example/tallywire/tallywire/wire/FieldType"), (.object "com/example/tallywire/tallywire/wire/FieldType"), (.object "com/example/tallywire/tallywire/wire/FieldType"), (.object "com/example/tallywire/tallywire/wire/FieldType"), (.object "com/example/tallywire/tallywire/wire/FieldType"), (.object "com/example/tallywire/tallywire/wire/FieldType"), (.object "com/example/tallywire/tallywire/wire/FieldType"), (.object "com/example/tallywire/tallywire/wire/FieldType"), (.object "com/example/tallywire/tallywire/wire/FieldType"), (.object "com/example/tallywire/tallywire/wire/FieldType"), (.object "com/example/tallywire/tallywire/wire/FieldType"), (.object "com/example/tallywire/tallywire/wire/FieldType"), (.object "com/example/tallywire/tallywire/wire/FieldType"), (.object "com/example/tallywire/tallywire/wire/FieldType"), (.object "com/example/tallywire/tallywire/wire/FieldType"), (.object "com/example/tallywire/tallywire/wire/FieldType"), (.object "com/example/tallywire/tallywire/wire/FieldType"), (.object "com/example/tallywire/tallywire/wire/FieldType"), (.object "com/example/tallywire/tallywire/wire/FieldType"), (.object "com/example/tallywire/tallywire/wire/FieldType"), (.object "com/example/tallywire/tallywire/wire/FieldType"), (.object "com/example/tallywire/tallywire/wire/FieldType"), .int, (.array (.object "com/example/tallywire/tallywire/wire/FieldType"))]
  resolved := Array.replicate 245 none
  statics := some 0 }

def pool7 : Array CpInfo := pool [(2, .class_ 4), (1, u "java/lang/CharSequence"), (42, .class_ 48), (0, u "java/lang/CharSequence$1CodePointIterator"), (10, .class_ 60), (0, u "java/lang/CharSequence$1CharIterator"), (5, .class_ 67), (0, u "java/lang/Object")] 63

/-- java/lang/CharSequence -/
def k7 : Class := { plain "java/lang/CharSequence" (some 0) with
  accessFlags := 1537
  interfaces := #[]
  cf := some (fileOf pool7 2 #[.nestMembers #[47, 59]] #[] 1537 66 #[] #[])
  fields := #[]
  methods := #[]
  instanceTypes := #[]
  staticTypes := #[]
  resolved := Array.replicate 131 none
  statics := none }

def pool8 : Array CpInfo := pool [(1, .class_ 2), (0, u "java/lang/constant/ConstantDesc"), (0, .class_ 4), (0, u "java/lang/Object")] 32

/-- java/lang/constant/ConstantDesc -/
def k8 : Class := { plain "java/lang/constant/ConstantDesc" (some 0) with
  accessFlags := 1537
  interfaces := #[]
  cf := some (fileOf pool8 1 #[] #[] 1537 3 #[] #[])
  fields := #[]
  methods := #[]
  instanceTypes := #[]
  staticTypes := #[]
  resolved := Array.replicate 37 none
  statics := none }

def pool9 : Array CpInfo := pool [(2, .class_ 4), (1, u "java/lang/Object"), (0, u "<init>"), (0, u "()V"), (2, .fieldref 10 11), (0, .class_ 12), (0, .nameAndType 13 14), (0, u "java/lang/String"), (0, u "value"), (0, u "[B"), (0, .fieldref 10 16), (0, .nameAndType 17 18), (0, u "coder"), (0, u "B"), (2, u "hash"), (0, u "I"), (2, u "hashIsZero"), (0, u "Z"), (11, .fieldref 10 39), (0, .nameAndType 40 26), (0, u "COMPACT_STRINGS"), (66, .class_ 109), (1, u "java/lang/StringLatin1"), (32, u "()Z"), (191, u "()I"), (0, .methodref 10 336), (0, .nameAndType 17 337), (0, u "()B"), (25, u "([BI)C"), (12, u "([BI[BII)I"), (14, u "(II)V"), (35, u "(I)C"), (64, .methodref 10 493), (0, .nameAndType 494 142), (0, u "isLatin1"), (0, .methodref 107 496), (0, .nameAndType 497 363), (0, u "charAt"), (3, u "checkIndex"), (3, .methodref 10 506), (0, .nameAndType 507 334), (0, u "length"), (33, .methodref 107 542), (0, .nameAndType 543 544), (0, u "equals"), (0, u "([B[B)Z"), (14, .class_ 561), (1, u "jdk/internal/util/ArraysSupport"), (0, u "mismatch"), (10, u "(Ljava/lang/Object;)Z"), (1, .class_ 576), (0, u "java/lang/CharSequence"), (22, u "CASE_INSENSITIVE_ORDER"), (0, u "Ljava/util/Comparator;"), (6, .methodref 559 608), (0, .nameAndType 562 376), (15, .methodref 10 625), (0, .nameAndType 626 627), (0, u "startsWith"), (0, u "(Ljava/lang/String;I)Z"), (64, u "isEmpty"), (360, .fieldref 1054 1055), (0, .class_ 1056), (0, .nameAndType 1057 1058), (0, u "jdk/internal/util/Preconditions"), (0, u "SIOOBE_FORMATTER"), (0, u "Ljava/util/function/BiFunction;"), (0, .methodref 1054 1060), (0, .nameAndType 501 1061), (0, u "(IILjava/util/function/BiFunction;)I"), (39, u "serialPersistentFields"), (0, u "[Ljava/io/ObjectStreamField;"), (0, .class_ 1104), (0, u "java/lang/String$CaseInsensitiveComparator"), (1, .class_ 1107), (0, u "java/io/Serializable"), (0, .class_ 1109), (0, u "java/lang/Comparable"), (0, .class_ 1111), (0, u "java/lang/constant/Constable"), (0, .class_ 1113), (0, u "java/lang/constant/ConstantDesc"), (2, u "serialVersionUID"), (0, u "J"), (3, u "REPL"), (0, u "C"), (2, u "LATIN1"), (1, u "UTF16"), (129, u "(Ljava/lang/String;)Z")] 193

def k9m0 : Method := { name := "<init>", desc := "()V", sig := { parameters := [], returnType := none }, accessFlags := 1, code := none }
def k9c1 : Code := { maxStack := 2, maxLocals := 1, code := jdk_42_method_54_code, exceptionTable := #[], attributes := #[] }
def k9m1 : Method := { name := "length", desc := "()I", sig := { parameters := [], returnType := some .int }, accessFlags := 1, code := some k9c1 }
def k9c2 : Code := { maxStack := 1, maxLocals := 1, code := jdk_42_method_55_code, exceptionTable := #[], attributes := #[] }
def k9m2 : Method := { name := "isEmpty", desc := "()Z", sig := { parameters := [], returnType := some .boolean }, accessFlags := 1, code := some k9c2 }
def k9c3 : Code := { maxStack := 2, maxLocals := 2, code := jdk_42_method_56_code, exceptionTable := #[], attributes := #[] }
def k9m3 : Method := { name := "charAt", desc := "(I)C", sig := { parameters := [.int], returnType := some .char }, accessFlags := 1, code := some k9c3 }
def k9c4 : Code := { maxStack := 2, maxLocals := 3, code := jdk_42_method_66_code, exceptionTable := #[], attributes := #[] }
def k9m4 : Method := { name := "equals", desc := "(Ljava/lang/Object;)Z", sig := { parameters := [(.object "java/lang/Object")], returnType := some .boolean }, accessFlags := 1, code := some k9c4 }
def k9c5 : Code := { maxStack := 5, maxLocals := 8, code := jdk_42_method_75_code, exceptionTable := #[], attributes := #[] }
def k9m5 : Method := { name := "startsWith", desc := "(Ljava/lang/String;I)Z", sig := { parameters := [(.object "java/lang/String"), .int], returnType := some .boolean }, accessFlags := 1, code := some k9c5 }
def k9c6 : Code := { maxStack := 3, maxLocals := 2, code := jdk_42_method_76_code, exceptionTable := #[], attributes := #[] }
def k9m6 : Method := { name := "startsWith", desc := "(Ljava/lang/String;)Z", sig := { parameters := [(.object "java/lang/String")], returnType := some .boolean }, accessFlags := 1, code := some k9c6 }
def k9c7 : Code := { maxStack := 1, maxLocals := 1, code := jdk_42_method_152_code, exceptionTable := #[], attributes := #[] }
def k9m7 : Method := { name := "coder", desc := "()B", sig := { parameters := [], returnType := some .byte }, accessFlags := 0, code := some k9c7 }
def k9c8 : Code := { maxStack := 1, maxLocals := 1, code := jdk_42_method_154_code, exceptionTable := #[], attributes := #[] }
def k9m8 : Method := { name := "isLatin1", desc := "()Z", sig := { parameters := [], returnType := some .boolean }, accessFlags := 0, code := some k9c8 }
def k9c9 : Code := { maxStack := 3, maxLocals := 2, code := jdk_42_method_155_code, exceptionTable := #[], attributes := #[] }
def k9m9 : Method := { name := "checkIndex", desc := "(II)V", sig := { parameters := [.int, .int], returnType := none }, accessFlags := 8, code := some k9c9 }
/-- java/lang/String -/
def k9 : Class := { plain "java/lang/String" (some 0) with
  accessFlags := 49
  interfaces := #[4, 3, 7, 2, 8]
  cf := some (fileOf pool9 10 #[.nestMembers #[1103]] #[{ accessFlags := 1, nameIndex := 5, descriptorIndex := 6, attributes := #[] }, { accessFlags := 1, nameIndex := 507, descriptorIndex := 334, attributes := #[] }, { accessFlags := 1, nameIndex := 692, descriptorIndex := 142, attributes := #[] }, { accessFlags := 1, nameIndex := 497, descriptorIndex := 427, attributes := #[] }, { accessFlags := 1, nameIndex := 543, descriptorIndex := 573, attributes := #[] }, { accessFlags := 1, nameIndex := 626, descriptorIndex := 627, attributes := #[] }, { accessFlags := 1, nameIndex := 626, descriptorIndex := 1257, attributes := #[] }, { accessFlags := 0, nameIndex := 17, descriptorIndex := 337, attributes := #[] }, { accessFlags := 0, nameIndex := 494, descriptorIndex := 142, attributes := #[] }, { accessFlags := 8, nameIndex := 501, descriptorIndex := 391, attributes := #[] }] 49 2 #[1106, 1108, 575, 1110, 1112] #[{ accessFlags := 18, nameIndex := 13, descriptorIndex := 14, attributes := #[] }, { accessFlags := 18, nameIndex := 17, descriptorIndex := 18, attributes := #[] }, { accessFlags := 2, nameIndex := 21, descriptorIndex := 22, attributes := #[] }, { accessFlags := 2, nameIndex := 25, descriptorIndex := 26, attributes := #[] }, { accessFlags := 26, nameIndex := 1116, descriptorIndex := 1117, attributes := #[] }, { accessFlags := 24, nameIndex := 40, descriptorIndex := 26, attributes := #[] }, { accessFlags := 26, nameIndex := 1101, descriptorIndex := 1102, attributes := #[] }, { accessFlags := 26, nameIndex := 1121, descriptorIndex := 1122, attributes := #[] }, { accessFlags := 25, nameIndex := 599, descriptorIndex := 600, attributes := #[] }, { accessFlags := 24, nameIndex := 1125, descriptorIndex := 18, attributes := #[] }, { accessFlags := 24, nameIndex := 1127, descriptorIndex := 18, attributes := #[] }])
  fields := #[{ name := "value", type := (.array .byte), accessFlags := 18, slot := 0, constantValue := 0 }, { name := "coder", type := .byte, accessFlags := 18, slot := 1, constantValue := 0 }, { name := "hash", type := .int, accessFlags := 2, slot := 2, constantValue := 0 }, { name := "hashIsZero", type := .boolean, accessFlags := 2, slot := 3, constantValue := 0 }, { name := "serialVersionUID", type := .long, accessFlags := 26, slot := 0, constantValue := 0 }, { name := "COMPACT_STRINGS", type := .boolean, accessFlags := 24, slot := 1, constantValue := 0 }, { name := "serialPersistentFields", type := (.array (.object "java/io/ObjectStreamField")), accessFlags := 26, slot := 2, constantValue := 0 }, { name := "REPL", type := .char, accessFlags := 26, slot := 3, constantValue := 0 }, { name := "CASE_INSENSITIVE_ORDER", type := (.object "java/util/Comparator"), accessFlags := 25, slot := 4, constantValue := 0 }, { name := "LATIN1", type := .byte, accessFlags := 24, slot := 5, constantValue := 0 }, { name := "UTF16", type := .byte, accessFlags := 24, slot := 6, constantValue := 0 }]
  methods := #[k9m0, k9m1, k9m2, k9m3, k9m4, k9m5, k9m6, k9m7, k9m8, k9m9]
  instanceTypes := #[(.array .byte), .byte, .int, .boolean]
  staticTypes := #[.long, .boolean, (.array (.object "java/io/ObjectStreamField")), .char, (.object "java/util/Comparator"), .byte, .byte]
  resolved := Array.replicate 1451 none
  statics := some 1 }

def pool10 : Array CpInfo := pool [(9, u "<init>"), (6, .class_ 18), (1, u "java/lang/Object"), (0, u "()V"), (1, .class_ 23), (1, u "jdk/internal/util/ArraysSupport"), (0, u "LOG2_ARRAY_LONG_INDEX_SCALE"), (0, u "I"), (2, u "U"), (0, u "Ljdk/internal/misc/Unsafe;"), (8, u "BIG_ENDIAN"), (0, u "Z"), (8, u "LOG2_BYTE_BIT_SIZE"), (4, u "LOG2_ARRAY_INT_INDEX_SCALE"), (54, u "JLA"), (0, u "Ljdk/internal/access/JavaLangAccess;"), (11, u "LOG2_ARRAY_BOOLEAN_INDEX_SCALE"), (9, u "LOG2_ARRAY_BYTE_INDEX_SCALE"), (5, u "LOG2_ARRAY_CHAR_INDEX_SCALE"), (5, u "LOG2_ARRAY_SHORT_INDEX_SCALE"), (5, u "mismatch"), (12, u "LOG2_ARRAY_FLOAT_INDEX_SCALE"), (24, u "LOG2_ARRAY_DOUBLE_INDEX_SCALE"), (89, u "T_BOOLEAN"), (2, u "T_CHAR"), (1, u "T_FLOAT"), (1, u "T_DOUBLE"), (1, u "T_BYTE"), (1, u "T_SHORT"), (1, u "T_INT"), (1, u "T_LONG"), (1, u "SOFT_MAX_ARRAY_LENGTH"), (42, u "([BI[BII)I")] 40

def k10m0 : Method := { name := "<init>", desc := "()V", sig := { parameters := [], returnType := none }, accessFlags := 2, code := none }
def k10c1 : Code := { maxStack := 8, maxLocals := 8, code := jdk_48_method_14_code, exceptionTable := #[], attributes := #[] }
def k10m1 : Method := { name := "mismatch", desc := "([BI[BII)I", sig := { parameters := [(.array .byte), .int, (.array .byte), .int, .int], returnType := some .int }, accessFlags := 9, code := some k10c1 }
/-- jdk/internal/util/ArraysSupport -/
def k10 : Class := { plain "jdk/internal/util/ArraysSupport" (some 0) with
  accessFlags := 33
  interfaces := #[]
  cf := some (fileOf pool10 21 #[] #[{ accessFlags := 2, nameIndex := 9, descriptorIndex := 19, attributes := #[] }, { accessFlags := 9, nameIndex := 149, descriptorIndex := 337, attributes := #[] }] 33 16 #[] #[{ accessFlags := 24, nameIndex := 28, descriptorIndex := 29, attributes := #[] }, { accessFlags := 26, nameIndex := 38, descriptorIndex := 39, attributes := #[] }, { accessFlags := 25, nameIndex := 121, descriptorIndex := 25, attributes := #[] }, { accessFlags := 25, nameIndex := 131, descriptorIndex := 25, attributes := #[] }, { accessFlags := 25, nameIndex := 137, descriptorIndex := 25, attributes := #[] }, { accessFlags := 25, nameIndex := 143, descriptorIndex := 25, attributes := #[] }, { accessFlags := 25, nameIndex := 53, descriptorIndex := 25, attributes := #[] }, { accessFlags := 25, nameIndex := 24, descriptorIndex := 25, attributes := #[] }, { accessFlags := 25, nameIndex := 162, descriptorIndex := 25, attributes := #[] }, { accessFlags := 25, nameIndex := 187, descriptorIndex := 25, attributes := #[] }, { accessFlags := 26, nameIndex := 48, descriptorIndex := 25, attributes := #[] }, { accessFlags := 25, nameIndex := 277, descriptorIndex := 25, attributes := #[] }, { accessFlags := 25, nameIndex := 280, descriptorIndex := 25, attributes := #[] }, { accessFlags := 25, nameIndex := 282, descriptorIndex := 25, attributes := #[] }, { accessFlags := 25, nameIndex := 284, descriptorIndex := 25, attributes := #[] }, { accessFlags := 25, nameIndex := 286, descriptorIndex := 25, attributes := #[] }, { accessFlags := 25, nameIndex := 288, descriptorIndex := 25, attributes := #[] }, { accessFlags := 25, nameIndex := 290, descriptorIndex := 25, attributes := #[] }, { accessFlags := 25, nameIndex := 292, descriptorIndex := 25, attributes := #[] }, { accessFlags := 26, nameIndex := 108, descriptorIndex := 109, attributes := #[] }, { accessFlags := 25, nameIndex := 294, descriptorIndex := 25, attributes := #[] }])
  fields := #[{ name := "U", type := (.object "jdk/internal/misc/Unsafe"), accessFlags := 24, slot := 0, constantValue := 0 }, { name := "BIG_ENDIAN", type := .boolean, accessFlags := 26, slot := 1, constantValue := 0 }, { name := "LOG2_ARRAY_BOOLEAN_INDEX_SCALE", type := .int, accessFlags := 25, slot := 2, constantValue := 0 }, { name := "LOG2_ARRAY_BYTE_INDEX_SCALE", type := .int, accessFlags := 25, slot := 3, constantValue := 0 }, { name := "LOG2_ARRAY_CHAR_INDEX_SCALE", type := .int, accessFlags := 25, slot := 4, constantValue := 0 }, { name := "LOG2_ARRAY_SHORT_INDEX_SCALE", type := .int, accessFlags := 25, slot := 5, constantValue := 0 }, { name := "LOG2_ARRAY_INT_INDEX_SCALE", type := .int, accessFlags := 25, slot := 6, constantValue := 0 }, { name := "LOG2_ARRAY_LONG_INDEX_SCALE", type := .int, accessFlags := 25, slot := 7, constantValue := 0 }, { name := "LOG2_ARRAY_FLOAT_INDEX_SCALE", type := .int, accessFlags := 25, slot := 8, constantValue := 0 }, { name := "LOG2_ARRAY_DOUBLE_INDEX_SCALE", type := .int, accessFlags := 25, slot := 9, constantValue := 0 }, { name := "LOG2_BYTE_BIT_SIZE", type := .int, accessFlags := 26, slot := 10, constantValue := 0 }, { name := "T_BOOLEAN", type := .int, accessFlags := 25, slot := 11, constantValue := 0 }, { name := "T_CHAR", type := .int, accessFlags := 25, slot := 12, constantValue := 0 }, { name := "T_FLOAT", type := .int, accessFlags := 25, slot := 13, constantValue := 0 }, { name := "T_DOUBLE", type := .int, accessFlags := 25, slot := 14, constantValue := 0 }, { name := "T_BYTE", type := .int, accessFlags := 25, slot := 15, constantValue := 0 }, { name := "T_SHORT", type := .int, accessFlags := 25, slot := 16, constantValue := 0 }, { name := "T_INT", type := .int, accessFlags := 25, slot := 17, constantValue := 0 }, { name := "T_LONG", type := .int, accessFlags := 25, slot := 18, constantValue := 0 }, { name := "JLA", type := (.object "jdk/internal/access/JavaLangAccess"), accessFlags := 26, slot := 19, constantValue := 0 }, { name := "SOFT_MAX_ARRAY_LENGTH", type := .int, accessFlags := 25, slot := 20, constantValue := 0 }]
  methods := #[k10m0, k10m1]
  instanceTypes := #[]
  staticTypes := #[(.object "jdk/internal/misc/Unsafe"), .boolean, .int, .int, .int, .int, .int, .int, .int, .int, .int, .int, .int, .int, .int, .int, .int, .int, .int, (.object "jdk/internal/access/JavaLangAccess"), .int]
  resolved := Array.replicate 378 none
  statics := none }

def pool11 : Array CpInfo := pool [(1, .class_ 2), (0, u "java/lang/String"), (1, .class_ 6), (1, u "java/lang/Object"), (0, u "<init>"), (0, u "()V"), (0, .methodref 1 10), (0, .nameAndType 11 12), (0, u "checkIndex"), (0, u "(II)V"), (1, .class_ 16), (1, u "java/lang/StringLatin1"), (36, u "([BI)C"), (67, u "$assertionsDisabled"), (0, u "Z"), (98, .class_ 223), (1, u "java/lang/StringLatin1$LinesSpliterator"), (28, u "charAt"), (28, u "equals"), (0, u "([B[B)Z"), (107, .class_ 391), (0, u "java/lang/StringLatin1$CharsSpliterator")] 3

def k11m0 : Method := { name := "<init>", desc := "()V", sig := { parameters := [], returnType := none }, accessFlags := 0, code := none }
def k11c1 : Code := { maxStack := 2, maxLocals := 2, code := jdk_43_method_2_code, exceptionTable := #[], attributes := #[] }
def k11m1 : Method := { name := "charAt", desc := "([BI)C", sig := { parameters := [(.array .byte), .int], returnType := some .char }, accessFlags := 9, code := some k11c1 }
def k11c2 : Code := { maxStack := 3, maxLocals := 3, code := jdk_43_method_13_code, exceptionTable := #[], attributes := #[] }
def k11m2 : Method := { name := "equals", desc := "([B[B)Z", sig := { parameters := [(.array .byte), (.array .byte)], returnType := some .boolean }, accessFlags := 9, code := some k11c2 }
/-- java/lang/StringLatin1 -/
def k11 : Class := { plain "java/lang/StringLatin1" (some 0) with
  accessFlags := 48
  interfaces := #[]
  cf := some (fileOf pool11 14 #[.nestMembers #[390, 221]] #[{ accessFlags := 0, nameIndex := 7, descriptorIndex := 8, attributes := #[] }, { accessFlags := 9, nameIndex := 252, descriptorIndex := 53, attributes := #[] }, { accessFlags := 9, nameIndex := 281, descriptorIndex := 282, attributes := #[] }] 48 4 #[] #[{ accessFlags := 4120, nameIndex := 121, descriptorIndex := 122, attributes := #[] }])
  fields := #[{ name := "$assertionsDisabled", type := .boolean, accessFlags := 4120, slot := 0, constantValue := 0 }]
  methods := #[k11m0, k11m1, k11m2]
  instanceTypes := #[]
  staticTypes := #[.boolean]
  resolved := Array.replicate 395 none
  statics := none }

def pool12 : Array CpInfo := pool [(2, .class_ 4), (1, u "java/lang/Object"), (0, u "<init>"), (0, u "()V"), (17, .class_ 26), (1, u "jdk/internal/util/Preconditions"), (6, u "checkIndex"), (21, .class_ 56), (0, u "jdk/internal/util/Preconditions$4"), (57, .class_ 115), (0, u "jdk/internal/util/Preconditions$1"), (7, u "SIOOBE_FORMATTER"), (0, u "Ljava/util/function/BiFunction;"), (0, .class_ 126), (0, u "jdk/internal/util/Preconditions$2"), (3, u "AIOOBE_FORMATTER"), (0, .class_ 132), (0, u "jdk/internal/util/Preconditions$3"), (3, u "IOOBE_FORMATTER"), (41, u "(IILjava/util/function/BiFunction;)I")] 15

def k12m0 : Method := { name := "<init>", desc := "()V", sig := { parameters := [], returnType := none }, accessFlags := 1, code := none }
def k12c1 : Code := { maxStack := 3, maxLocals := 3, code := jdk_41_method_11_code, exceptionTable := #[], attributes := #[] }
def k12m1 : Method := { name := "checkIndex", desc := "(IILjava/util/function/BiFunction;)I", sig := { parameters := [.int, .int, (.object "java/util/function/BiFunction")], returnType := some .int }, accessFlags := 9, code := some k12c1 }
/-- jdk/internal/util/Preconditions -/
def k12 : Class := { plain "jdk/internal/util/Preconditions" (some 0) with
  accessFlags := 33
  interfaces := #[]
  cf := some (fileOf pool12 24 #[.nestMembers #[55, 131, 125, 114]] #[{ accessFlags := 1, nameIndex := 5, descriptorIndex := 6, attributes := #[] }, { accessFlags := 9, nameIndex := 33, descriptorIndex := 178, attributes := #[] }] 33 2 #[] #[{ accessFlags := 25, nameIndex := 123, descriptorIndex := 124, attributes := #[] }, { accessFlags := 25, nameIndex := 130, descriptorIndex := 124, attributes := #[] }, { accessFlags := 25, nameIndex := 136, descriptorIndex := 124, attributes := #[] }])
  fields := #[{ name := "SIOOBE_FORMATTER", type := (.object "java/util/function/BiFunction"), accessFlags := 25, slot := 0, constantValue := 0 }, { name := "AIOOBE_FORMATTER", type := (.object "java/util/function/BiFunction"), accessFlags := 25, slot := 1, constantValue := 0 }, { name := "IOOBE_FORMATTER", type := (.object "java/util/function/BiFunction"), accessFlags := 25, slot := 2, constantValue := 0 }]
  methods := #[k12m0, k12m1]
  instanceTypes := #[]
  staticTypes := #[(.object "java/util/function/BiFunction"), (.object "java/util/function/BiFunction"), (.object "java/util/function/BiFunction")]
  resolved := Array.replicate 194 none
  statics := some 2 }

def pool13 : Array CpInfo := pool [(2, .class_ 4), (1, u "java/lang/Object"), (0, u "<init>"), (0, u "()V"), (2, .nameAndType 11 12), (1, u "charAt"), (0, u "(I)C"), (1, .class_ 16), (1, u "com/example/tallywire/tallywire/wire/TagValue"), (0, u "ONE_BYTE"), (0, u "[Ljava/lang/String;"), (9, .class_ 30), (1, u "java/lang/String"), (2, .methodref 28 34), (0, .nameAndType 35 36), (0, u "isEmpty"), (0, u "()Z"), (0, .long 18446744073709551615), (1, .methodref 28 40), (0, .nameAndType 41 42), (0, u "length"), (0, u "()I"), (0, .methodref 28 9), (2, .long 2147483647), (1, .long 10), (7, u "DELIMITER"), (0, u "B"), (2, u "BEGIN_STRING"), (0, u "Ljava/lang/String;"), (2, u "BODY_LENGTH"), (2, u "MSG_TYPE"), (2, u "APPL_VER_ID"), (2, u "CHECK_SUM"), (2, u "CHECK_SUM_DIGITS"), (0, u "I"), (1, u "LONGEST_MESSAGE"), (8, u "parseNumber"), (0, u "(Ljava/lang/String;)J")] 5

def k13m0 : Method := { name := "<init>", desc := "()V", sig := { parameters := [], returnType := none }, accessFlags := 2, code := none }
def k13c1 : Code := { maxStack := 4, maxLocals := 5, code := prog_63_method_4_code, exceptionTable := #[], attributes := #[] }
def k13m1 : Method := { name := "parseNumber", desc := "(Ljava/lang/String;)J", sig := { parameters := [(.object "java/lang/String")], returnType := some .long }, accessFlags := 8, code := some k13c1 }
/-- com/example/tallywire/tallywire/wire/TagValue -/
def k13 : Class := { plain "com/example/tallywire/tallywire/wire/TagValue" (some 0) with
  accessFlags := 48
  interfaces := #[]
  cf := some (fileOf pool13 14 #[] #[{ accessFlags := 2, nameIndex := 5, descriptorIndex := 6, attributes := #[] }, { accessFlags := 8, nameIndex := 88, descriptorIndex := 89, attributes := #[] }] 48 2 #[] #[{ accessFlags := 24, nameIndex := 56, descriptorIndex := 57, attributes := #[] }, { accessFlags := 24, nameIndex := 60, descriptorIndex := 61, attributes := #[] }, { accessFlags := 24, nameIndex := 64, descriptorIndex := 61, attributes := #[] }, { accessFlags := 24, nameIndex := 67, descriptorIndex := 61, attributes := #[] }, { accessFlags := 24, nameIndex := 70, descriptorIndex := 61, attributes := #[] }, { accessFlags := 24, nameIndex := 73, descriptorIndex := 61, attributes := #[] }, { accessFlags := 24, nameIndex := 76, descriptorIndex := 77, attributes := #[] }, { accessFlags := 24, nameIndex := 79, descriptorIndex := 77, attributes := #[] }, { accessFlags := 26, nameIndex := 17, descriptorIndex := 18, attributes := #[] }])
  fields := #[{ name := "DELIMITER", type := .byte, accessFlags := 24, slot := 0, constantValue := 0 }, { name := "BEGIN_STRING", type := (.object "java/lang/String"), accessFlags := 24, slot := 1, constantValue := 0 }, { name := "BODY_LENGTH", type := (.object "java/lang/String"), accessFlags := 24, slot := 2, constantValue := 0 }, { name := "MSG_TYPE", type := (.object "java/lang/String"), accessFlags := 24, slot := 3, constantValue := 0 }, { name := "APPL_VER_ID", type := (.object "java/lang/String"), accessFlags := 24, slot := 4, constantValue := 0 }, { name := "CHECK_SUM", type := (.object "java/lang/String"), accessFlags := 24, slot := 5, constantValue := 0 }, { name := "CHECK_SUM_DIGITS", type := .int, accessFlags := 24, slot := 6, constantValue := 0 }, { name := "LONGEST_MESSAGE", type := .int, accessFlags := 24, slot := 7, constantValue := 0 }, { name := "ONE_BYTE", type := (.array (.object "java/lang/String")), accessFlags := 26, slot := 8, constantValue := 0 }]
  methods := #[k13m0, k13m1]
  instanceTypes := #[]
  staticTypes := #[.byte, (.object "java/lang/String"), (.object "java/lang/String"), (.object "java/lang/String"), (.object "java/lang/String"), (.object "java/lang/String"), .int, .int, (.array (.object "java/lang/String"))]
  resolved := Array.replicate 95 none
  statics := none }

def pool14 : Array CpInfo := pool [(1, u "java/lang/Cloneable"), (0, .class_ 1), (0, u "java/lang/Object"), (0, .class_ 3)] 3

/-- java/lang/Cloneable -/
def k14 : Class := { plain "java/lang/Cloneable" (some 0) with
  accessFlags := 1537
  interfaces := #[]
  cf := some (fileOf pool14 2 #[] #[] 1537 4 #[] #[])
  fields := #[]
  methods := #[]
  instanceTypes := #[]
  staticTypes := #[]
  resolved := Array.replicate 8 none
  statics := none }

/-- the primitive byte -/
def k15 : Class := { plain "byte" none with kind := .primitive 'B', accessFlags := 0x411 }
/-- [B -/
def k16 : Class := { plain "[B" (some 0) with kind := .array 15 .byte, interfaces := #[14, 4], accessFlags := 1041 }

def heap : Heap := #[{ cls := 6, slots := #[.ref 3, .ref 13, .ref 4, .ref 5, .ref 23, .ref 27, .ref 19, .ref 9, .ref 12, .ref 15, .ref 14, .ref 10, .ref 28, .ref 22, .ref 26, .ref 18, .ref 17, .ref 25, .ref 8, .ref 16, .ref 20, .ref 30, .ref 24, .ref 21, .ref 11, .ref 29, .ref 6, .ref 7, .int 0, .null], vm := .statics 6 },
  { cls := 9, slots := #[.long 0, .int 1, .null, .int 0, .null, .int 0, .int 0], vm := .statics 9 },
  { cls := 12, slots := #[.null, .null, .null], vm := .statics 12 },
  { cls := 6, slots := #[.null, .int 0, .int 0], vm := .none },
  { cls := 6, slots := #[.null, .int 2, .int 0], vm := .none },
  { cls := 6, slots := #[.null, .int 3, .int 0], vm := .none },
  { cls := 6, slots := #[.null, .int 26, .int 0], vm := .none },
  { cls := 6, slots := #[.null, .int 27, .int 0], vm := .none },
  { cls := 6, slots := #[.null, .int 18, .int 0], vm := .none },
  { cls := 6, slots := #[.null, .int 7, .int 0], vm := .none },
  { cls := 6, slots := #[.null, .int 11, .int 0], vm := .none },
  { cls := 6, slots := #[.null, .int 24, .int 0], vm := .none },
  { cls := 6, slots := #[.null, .int 8, .int 0], vm := .none },
  { cls := 6, slots := #[.null, .int 1, .int 0], vm := .none },
  { cls := 6, slots := #[.null, .int 10, .int 0], vm := .none },
  { cls := 6, slots := #[.null, .int 9, .int 0], vm := .none },
  { cls := 6, slots := #[.null, .int 19, .int 0], vm := .none },
  { cls := 6, slots := #[.null, .int 16, .int 0], vm := .none },
  { cls := 6, slots := #[.null, .int 15, .int 0], vm := .none },
  { cls := 6, slots := #[.null, .int 6, .int 0], vm := .none },
  { cls := 6, slots := #[.null, .int 20, .int 0], vm := .none },
  { cls := 6, slots := #[.null, .int 23, .int 0], vm := .none },
  { cls := 6, slots := #[.null, .int 13, .int 0], vm := .none },
  { cls := 6, slots := #[.null, .int 4, .int 0], vm := .none },
  { cls := 6, slots := #[.null, .int 22, .int 0], vm := .none },
  { cls := 6, slots := #[.null, .int 17, .int 0], vm := .none },
  { cls := 6, slots := #[.null, .int 14, .int 0], vm := .none },
  { cls := 6, slots := #[.null, .int 5, .int 0], vm := .none },
  { cls := 6, slots := #[.null, .int 12, .int 0], vm := .none },
  { cls := 6, slots := #[.null, .int 25, .int 0], vm := .none },
  { cls := 6, slots := #[.null, .int 21, .int 0], vm := .none }]
def classes : Array Class := #[k0, k1, k2, k3, k4, k5, k6, k7, k8, k9, k10, k11, k12, k13, k14, k15, k16]
def interned : List (Array UInt16 × Addr) := []
def slotsUsed : Nat := 124
def theMethod : MethodId := ⟨1, 2⟩
def args0 : Array Value := #[.int 5]
def aboutOver (below : List Frame) : State where
  vm := { classes := classes, interned := interned.toArray }
  heap := heap
  slotsUsed := slotsUsed
  threads := #[{ frames := .invoking theMethod args0 :: below }]
def below0 : List Frame := [.native { method := ⟨0, 0⟩, args := #[] }]
def about1 : State := aboutOver below0
def p0 : Program := .bare "" "" ""
def e0 : Env := launch0.env 0 0 0
theorem w_frames : about1.frames = Frame.invoking theMethod args0 :: below0 := rfl
set_option maxRecDepth 65536 in
theorem w_args : argsFit about1.vm theMethod args0 = true := by decide +kernel
set_option maxRecDepth 65536 in
theorem w_heap : heapFits about1 = true := by decide +kernel
set_option maxRecDepth 65536 in
theorem w_runnable : about1.curStatus? = some .runnable := by decide +kernel
set_option maxRecDepth 65536 in
theorem w_alone : about1.alone = true := by decide +kernel
set_option maxRecDepth 65536 in
theorem w_named : about1.methodNamed? x = some theMethod := by decide +kernel
set_option maxRecDepth 65536 in
theorem w_hears : about1.hears theMethod below0 = true := by decide +kernel
set_option maxRecDepth 65536 in
theorem w_ripe : about1.ripe theMethod args0 below0 = true := by decide +kernel
theorem w_running : about1.status = .running := rfl
set_option maxRecDepth 65536 in
theorem w_room : about1.hasRoom e0.platform room_1 = true :=
  launch0.hasRoom_least _ room_1 (by decide +kernel) (by decide +kernel) (by decide +kernel) (by decide +kernel) (by decide +kernel) (by decide +kernel)
theorem allAtoms_all (ts : List Jvm.Cond) (a : Array Jvm.Value) (st : Jvm.State) : (allAtoms ts).before a st = ts.all (fun c => c.before a st) := by
  induction ts with
  | nil => rfl
  | cons c t ih =>
    show (Jvm.Cond.and c (allAtoms t)).before a st = _
    rw [Jvm.Cond.before_and, ih, List.all_cons]
def words1 : List Jvm.Cond := Jvm.Cond.code x code maxLocals ret :: tables_1
/-- a 'code' word, met by the world's own term for the bytes: nothing is compared byte by byte -/
theorem code_word {y : MethodName} {bytes : ByteArray} {mx : Nat} {rt : Option FieldType} {a : Array Value} {s : State} {m : MethodId} {meth : Method} {c : Code} (h1 : s.methodNamed? y = some m) (h2 : s.vm.method? m = some meth) (h3 : meth.code = some c) (h4 : c.code = bytes)
    (h5 : (c.maxLocals == mx && c.exceptionTable.isEmpty && decide (c.maxStack ≤ mostOperands) && decide (meth.sig.returnType = rt) && !meth.locks && decide (parseMethodDescriptor y.desc = some meth.sig)) = true) : (Jvm.Cond.code y bytes mx rt).before a s = true := by
  simp only [Bool.and_eq_true, beq_iff_eq, Bool.not_eq_true', decide_eq_true_eq] at h5
  obtain ⟨⟨⟨⟨⟨g1, g2⟩, g3⟩, g4⟩, g5⟩, g6⟩ := h5
  simp [Cond.before, Cond.holds, Cond.value, h1, h2, h3, h4, g1, g2, g3, g4, g5, g6]
def isCode : Jvm.Cond → Bool
  | .code _ _ _ _ => true
  | _ => false
theorem all_split {L : List Jvm.Cond} {P : Jvm.Cond → Bool} (h1 : L.all (fun c => isCode c || P c) = true) (h2 : ∀ c ∈ L.filter isCode, P c = true) : L.all P = true := by
  refine List.all_eq_true.mpr fun c hc => ?_
  have h := List.all_eq_true.mp h1 c hc
  rcases Bool.eq_false_or_eq_true (isCode c) with hi | hi
  · exact h2 c (List.mem_filter.mpr ⟨hc, hi⟩)
  · simpa [hi] using h
set_option maxRecDepth 65536 in
theorem w_c0 : (Jvm.Cond.code x code maxLocals ret).before args0 about1 = true := code_word (m := ⟨1, 2⟩) (meth := k1m2) (c := k1c2) (by decide +kernel) rfl rfl rfl (by decide +kernel)
set_option maxRecDepth 65536 in
theorem w_c1 : (Jvm.Cond.code ({ cls := "com/example/tallywire/tallywire/wire/FieldTypeIsLengthPinLaw", name := "pick", desc := "(I)Lcom/example/tallywire/tallywire/wire/FieldType;" } : Jvm.MethodName) method_2_code (1 : Nat) (Option.some (Jvm.ClassFile.FieldType.object "com/example/tallywire/tallywire/wire/FieldType"))).before args0 about1 = true := code_word (m := ⟨1, 1⟩) (meth := k1m1) (c := k1c1) (by decide +kernel) rfl rfl rfl (by decide +kernel)
set_option maxRecDepth 65536 in
theorem w_c2 : (Jvm.Cond.code ({ cls := "com/example/tallywire/tallywire/wire/FieldType", name := "hasForm", desc := "(Ljava/lang/String;)Z" } : Jvm.MethodName) prog_40_method_7_code (3 : Nat) (Option.some Jvm.ClassFile.FieldType.boolean)).before args0 about1 = true := code_word (m := ⟨6, 1⟩) (meth := k6m1) (c := k6c1) (by decide +kernel) rfl rfl rfl (by decide +kernel)
set_option maxRecDepth 65536 in
theorem w_c3 : (Jvm.Cond.code ({ cls := "java/lang/String", name := "length", desc := "()I" } : Jvm.MethodName) jdk_42_method_54_code (1 : Nat) (Option.some Jvm.ClassFile.FieldType.int)).before args0 about1 = true := code_word (m := ⟨9, 1⟩) (meth := k9m1) (c := k9c1) (by decide +kernel) rfl rfl rfl (by decide +kernel)
set_option maxRecDepth 65536 in
theorem w_c4 : (Jvm.Cond.code ({ cls := "java/lang/String", name := "coder", desc := "()B" } : Jvm.MethodName) jdk_42_method_152_code (1 : Nat) (Option.some Jvm.ClassFile.FieldType.byte)).before args0 about1 = true := code_word (m := ⟨9, 7⟩) (meth := k9m7) (c := k9c7) (by decide +kernel) rfl rfl rfl (by decide +kernel)
set_option maxRecDepth 65536 in
theorem w_c5 : (Jvm.Cond.code ({ cls := "java/lang/Enum", name := "ordinal", desc := "()I" } : Jvm.MethodName) jdk_37_method_2_code (1 : Nat) (Option.some Jvm.ClassFile.FieldType.int)).before args0 about1 = true := code_word (m := ⟨5, 0⟩) (meth := k5m0) (c := k5c0) (by decide +kernel) rfl rfl rfl (by decide +kernel)
set_option maxRecDepth 65536 in
theorem w_c6 : (Jvm.Cond.code ({ cls := "java/lang/String", name := "startsWith", desc := "(Ljava/lang/String;)Z" } : Jvm.MethodName) jdk_42_method_76_code (2 : Nat) (Option.some Jvm.ClassFile.FieldType.boolean)).before args0 about1 = true := code_word (m := ⟨9, 6⟩) (meth := k9m6) (c := k9c6) (by decide +kernel) rfl rfl rfl (by decide +kernel)
set_option maxRecDepth 65536 in
theorem w_c7 : (Jvm.Cond.code ({ cls := "java/lang/String", name := "startsWith", desc := "(Ljava/lang/String;I)Z" } : Jvm.MethodName) jdk_42_method_75_code (8 : Nat) (Option.some Jvm.ClassFile.FieldType.boolean)).before args0 about1 = true := code_word (m := ⟨9, 5⟩) (meth := k9m5) (c := k9c5) (by decide +kernel) rfl rfl rfl (by decide +kernel)
set_option maxRecDepth 65536 in
theorem w_c8 : (Jvm.Cond.code ({ cls := "jdk/internal/util/ArraysSupport", name := "mismatch", desc := "([BI[BII)I" } : Jvm.MethodName) jdk_48_method_14_code (8 : Nat) (Option.some Jvm.ClassFile.FieldType.int)).before args0 about1 = true := code_word (m := ⟨10, 1⟩) (meth := k10m1) (c := k10c1) (by decide +kernel) rfl rfl rfl (by decide +kernel)
set_option maxRecDepth 65536 in
theorem w_c9 : (Jvm.Cond.code ({ cls := "com/example/tallywire/tallywire/wire/FieldType", name := "digits", desc := "(Ljava/lang/String;I)I" } : Jvm.MethodName) prog_40_method_8_code (3 : Nat) (Option.some Jvm.ClassFile.FieldType.int)).before args0 about1 = true := code_word (m := ⟨6, 2⟩) (meth := k6m2) (c := k6c2) (by decide +kernel) rfl rfl rfl (by decide +kernel)
set_option maxRecDepth 65536 in
theorem w_c10 : (Jvm.Cond.code ({ cls := "java/lang/String", name := "charAt", desc := "(I)C" } : Jvm.MethodName) jdk_42_method_56_code (2 : Nat) (Option.some Jvm.ClassFile.FieldType.char)).before args0 about1 = true := code_word (m := ⟨9, 3⟩) (meth := k9m3) (c := k9c3) (by decide +kernel) rfl rfl rfl (by decide +kernel)
set_option maxRecDepth 65536 in
theorem w_c11 : (Jvm.Cond.code ({ cls := "java/lang/String", name := "isLatin1", desc := "()Z" } : Jvm.MethodName) jdk_42_method_154_code (1 : Nat) (Option.some Jvm.ClassFile.FieldType.boolean)).before args0 about1 = true := code_word (m := ⟨9, 8⟩) (meth := k9m8) (c := k9c8) (by decide +kernel) rfl rfl rfl (by decide +kernel)
set_option maxRecDepth 65536 in
theorem w_c12 : (Jvm.Cond.code ({ cls := "java/lang/StringLatin1", name := "charAt", desc := "([BI)C" } : Jvm.MethodName) jdk_43_method_2_code (2 : Nat) (Option.some Jvm.ClassFile.FieldType.char)).before args0 about1 = true := code_word (m := ⟨11, 1⟩) (meth := k11m1) (c := k11c1) (by decide +kernel) rfl rfl rfl (by decide +kernel)
set_option maxRecDepth 65536 in
theorem w_c13 : (Jvm.Cond.code ({ cls := "java/lang/String", name := "checkIndex", desc := "(II)V" } : Jvm.MethodName) jdk_42_method_155_code (2 : Nat) (Option.none : Option Jvm.ClassFile.FieldType)).before args0 about1 = true := code_word (m := ⟨9, 9⟩) (meth := k9m9) (c := k9c9) (by decide +kernel) rfl rfl rfl (by decide +kernel)
set_option maxRecDepth 65536 in
theorem w_c14 : (Jvm.Cond.code ({ cls := "jdk/internal/util/Preconditions", name := "checkIndex", desc := "(IILjava/util/function/BiFunction;)I" } : Jvm.MethodName) jdk_41_method_11_code (3 : Nat) (Option.some Jvm.ClassFile.FieldType.int)).before args0 about1 = true := code_word (m := ⟨12, 1⟩) (meth := k12m1) (c := k12c1) (by decide +kernel) rfl rfl rfl (by decide +kernel)
set_option maxRecDepth 65536 in
theorem w_c15 : (Jvm.Cond.code ({ cls := "com/example/tallywire/tallywire/wire/FieldType", name := "isDigit", desc := "(C)Z" } : Jvm.MethodName) prog_40_method_12_code (1 : Nat) (Option.some Jvm.ClassFile.FieldType.boolean)).before args0 about1 = true := code_word (m := ⟨6, 6⟩) (meth := k6m6) (c := k6c6) (by decide +kernel) rfl rfl rfl (by decide +kernel)
set_option maxRecDepth 65536 in
theorem w_c16 : (Jvm.Cond.code ({ cls := "com/example/tallywire/tallywire/wire/FieldType", name := "isLength", desc := "()Z" } : Jvm.MethodName) prog_40_method_5_code (1 : Nat) (Option.some Jvm.ClassFile.FieldType.boolean)).before args0 about1 = true := code_word (m := ⟨6, 0⟩) (meth := k6m0) (c := k6c0) (by decide +kernel) rfl rfl rfl (by decide +kernel)
set_option maxRecDepth 65536 in
theorem w_c17 : (Jvm.Cond.code ({ cls := "com/example/tallywire/tallywire/wire/TagValue", name := "parseNumber", desc := "(Ljava/lang/String;)J" } : Jvm.MethodName) prog_63_method_4_code (5 : Nat) (Option.some Jvm.ClassFile.FieldType.long)).before args0 about1 = true := code_word (m := ⟨13, 1⟩) (meth := k13m1) (c := k13c1) (by decide +kernel) rfl rfl rfl (by decide +kernel)
set_option maxRecDepth 65536 in
theorem w_c18 : (Jvm.Cond.code ({ cls := "java/lang/String", name := "isEmpty", desc := "()Z" } : Jvm.MethodName) jdk_42_method_55_code (1 : Nat) (Option.some Jvm.ClassFile.FieldType.boolean)).before args0 about1 = true := code_word (m := ⟨9, 2⟩) (meth := k9m2) (c := k9c2) (by decide +kernel) rfl rfl rfl (by decide +kernel)
set_option maxRecDepth 65536 in
theorem w_c19 : (Jvm.Cond.code ({ cls := "com/example/tallywire/tallywire/wire/FieldType", name := "decimal", desc := "(Ljava/lang/String;)I" } : Jvm.MethodName) prog_40_method_13_code (2 : Nat) (Option.some Jvm.ClassFile.FieldType.int)).before args0 about1 = true := code_word (m := ⟨6, 7⟩) (meth := k6m7) (c := k6c7) (by decide +kernel) rfl rfl rfl (by decide +kernel)
set_option maxRecDepth 65536 in
theorem w_c20 : (Jvm.Cond.code ({ cls := "com/example/tallywire/tallywire/wire/FieldType", name := "isAt", desc := "(Ljava/lang/String;IC)Z" } : Jvm.MethodName) prog_40_method_11_code (3 : Nat) (Option.some Jvm.ClassFile.FieldType.boolean)).before args0 about1 = true := code_word (m := ⟨6, 5⟩) (meth := k6m5) (c := k6c5) (by decide +kernel) rfl rfl rfl (by decide +kernel)
set_option maxRecDepth 65536 in
theorem w_c21 : (Jvm.Cond.code ({ cls := "java/lang/String", name := "equals", desc := "(Ljava/lang/Object;)Z" } : Jvm.MethodName) jdk_42_method_66_code (3 : Nat) (Option.some Jvm.ClassFile.FieldType.boolean)).before args0 about1 = true := code_word (m := ⟨9, 4⟩) (meth := k9m4) (c := k9c4) (by decide +kernel) rfl rfl rfl (by decide +kernel)
set_option maxRecDepth 65536 in
theorem w_c22 : (Jvm.Cond.code ({ cls := "java/lang/StringLatin1", name := "equals", desc := "([B[B)Z" } : Jvm.MethodName) jdk_43_method_13_code (3 : Nat) (Option.some Jvm.ClassFile.FieldType.boolean)).before args0 about1 = true := code_word (m := ⟨11, 2⟩) (meth := k11m2) (c := k11c2) (by decide +kernel) rfl rfl rfl (by decide +kernel)
set_option maxRecDepth 65536 in
theorem w_c23 : (Jvm.Cond.code ({ cls := "com/example/tallywire/tallywire/wire/FieldType", name := "time", desc := "(Ljava/lang/String;IZZ)I" } : Jvm.MethodName) prog_40_method_19_code (6 : Nat) (Option.some Jvm.ClassFile.FieldType.int)).before args0 about1 = true := code_word (m := ⟨6, 13⟩) (meth := k6m13) (c := k6c13) (by decide +kernel) rfl rfl rfl (by decide +kernel)
set_option maxRecDepth 65536 in
theorem w_c24 : (Jvm.Cond.code ({ cls := "com/example/tallywire/tallywire/wire/FieldType", name := "number", desc := "(Ljava/lang/String;IIII)I" } : Jvm.MethodName) prog_40_method_9_code (7 : Nat) (Option.some Jvm.ClassFile.FieldType.int)).before args0 about1 = true := code_word (m := ⟨6, 3⟩) (meth := k6m3) (c := k6c3) (by decide +kernel) rfl rfl rfl (by decide +kernel)
set_option maxRecDepth 65536 in
theorem w_c25 : (Jvm.Cond.code ({ cls := "com/example/tallywire/tallywire/wire/FieldType", name := "character", desc := "(Ljava/lang/String;IC)I" } : Jvm.MethodName) prog_40_method_10_code (3 : Nat) (Option.some Jvm.ClassFile.FieldType.int)).before args0 about1 = true := code_word (m := ⟨6, 4⟩) (meth := k6m4) (c := k6c4) (by decide +kernel) rfl rfl rfl (by decide +kernel)
set_option maxRecDepth 65536 in
theorem w_c26 : (Jvm.Cond.code ({ cls := "com/example/tallywire/tallywire/wire/FieldType", name := "zone", desc := "(Ljava/lang/String;I)I" } : Jvm.MethodName) prog_40_method_20_code (3 : Nat) (Option.some Jvm.ClassFile.FieldType.int)).before args0 about1 = true := code_word (m := ⟨6, 14⟩) (meth := k6m14) (c := k6c14) (by decide +kernel) rfl rfl rfl (by decide +kernel)
set_option maxRecDepth 65536 in
theorem w_c27 : (Jvm.Cond.code ({ cls := "com/example/tallywire/tallywire/wire/FieldType", name := "date", desc := "(Ljava/lang/String;I)I" } : Jvm.MethodName) prog_40_method_16_code (2 : Nat) (Option.some Jvm.ClassFile.FieldType.int)).before args0 about1 = true := code_word (m := ⟨6, 10⟩) (meth := k6m10) (c := k6c10) (by decide +kernel) rfl rfl rfl (by decide +kernel)
set_option maxRecDepth 65536 in
theorem w_c28 : (Jvm.Cond.code ({ cls := "com/example/tallywire/tallywire/wire/FieldType", name := "yearAndMonth", desc := "(Ljava/lang/String;I)I" } : Jvm.MethodName) prog_40_method_15_code (2 : Nat) (Option.some Jvm.ClassFile.FieldType.int)).before args0 about1 = true := code_word (m := ⟨6, 9⟩) (meth := k6m9) (c := k6c9) (by decide +kernel) rfl rfl rfl (by decide +kernel)
set_option maxRecDepth 65536 in
theorem w_c29 : (Jvm.Cond.code ({ cls := "com/example/tallywire/tallywire/wire/FieldType", name := "isCharacterList", desc := "(Ljava/lang/String;)Z" } : Jvm.MethodName) prog_40_method_14_code (2 : Nat) (Option.some Jvm.ClassFile.FieldType.boolean)).before args0 about1 = true := code_word (m := ⟨6, 8⟩) (meth := k6m8) (c := k6c8) (by decide +kernel) rfl rfl rfl (by decide +kernel)
set_option maxRecDepth 65536 in
theorem w_c30 : (Jvm.Cond.code ({ cls := "com/example/tallywire/tallywire/wire/FieldType", name := "dateAndDash", desc := "(Ljava/lang/String;)I" } : Jvm.MethodName) prog_40_method_17_code (1 : Nat) (Option.some Jvm.ClassFile.FieldType.int)).before args0 about1 = true := code_word (m := ⟨6, 11⟩) (meth := k6m11) (c := k6c11) (by decide +kernel) rfl rfl rfl (by decide +kernel)
set_option maxRecDepth 65536 in
theorem w_c31 : (Jvm.Cond.code ({ cls := "com/example/tallywire/tallywire/wire/FieldType", name := "monthYear", desc := "(Ljava/lang/String;)I" } : Jvm.MethodName) prog_40_method_18_code (2 : Nat) (Option.some Jvm.ClassFile.FieldType.int)).before args0 about1 = true := code_word (m := ⟨6, 12⟩) (meth := k6m12) (c := k6c12) (by decide +kernel) rfl rfl rfl (by decide +kernel)
def codes1 : List Jvm.Cond := [Jvm.Cond.code x code maxLocals ret, Jvm.Cond.code ({ cls := "com/example/tallywire/tallywire/wire/FieldTypeIsLengthPinLaw", name := "pick", desc := "(I)Lcom/example/tallywire/tallywire/wire/FieldType;" } : Jvm.MethodName) method_2_code (1 : Nat) (Option.some (Jvm.ClassFile.FieldType.object "com/example/tallywire/tallywire/wire/FieldType")), Jvm.Cond.code ({ cls := "com/example/tallywire/tallywire/wire/FieldType", name := "hasForm", desc := "(Ljava/lang/String;)Z" } : Jvm.MethodName) prog_40_method_7_code (3 : Nat) (Option.some Jvm.ClassFile.FieldType.boolean), Jvm.Cond.code ({ cls := "java/lang/String", name := "length", desc := "()I" } : Jvm.MethodName) jdk_42_method_54_code (1 : Nat) (Option.some Jvm.ClassFile.FieldType.int), Jvm.Cond.code ({ cls := "java/lang/String", name := "coder", desc := "()B" } : Jvm.MethodName) jdk_42_method_152_code (1 : Nat) (Option.some Jvm.ClassFile.FieldType.byte), Jvm.Cond.code ({ cls := "java/lang/Enum", name := "ordinal", desc := "()I" } : Jvm.MethodName) jdk_37_method_2_code (1 : Nat) (Option.some Jvm.ClassFile.FieldType.int), Jvm.Cond.code ({ cls := "java/lang/String", name := "startsWith", desc := "(Ljava/lang/String;)Z" } : Jvm.MethodName) jdk_42_method_76_code (2 : Nat) (Option.some Jvm.ClassFile.FieldType.boolean), Jvm.Cond.code ({ cls := "java/lang/String", name := "startsWith", desc := "(Ljava/lang/String;I)Z" } : Jvm.MethodName) jdk_42_method_75_code (8 : Nat) (Option.some Jvm.ClassFile.FieldType.boolean), Jvm.Cond.code ({ cls := "jdk/internal/util/ArraysSupport", name := "mismatch", desc := "([BI[BII)I" } : Jvm.MethodName) jdk_48_method_14_code (8 : Nat) (Option.some Jvm.ClassFile.FieldType.int), Jvm.Cond.code ({ cls := "com/example/tallywire/tallywire/wire/FieldType", name := "digits", desc := "(Ljava/lang/String;I)I" } : Jvm.MethodName) prog_40_method_8_code (3 : Nat) (Option.some Jvm.ClassFile.FieldType.int), Jvm.Cond.code ({ cls := "java/lang/String", name := "charAt", desc := "(I)C" } : Jvm.MethodName) jdk_42_method_56_code (2 : Nat) (Option.some Jvm.ClassFile.FieldType.char), Jvm.Cond.code ({ cls := "java/lang/String", name := "isLatin1", desc := "()Z" } : Jvm.MethodName) jdk_42_method_154_code (1 : Nat) (Option.some Jvm.ClassFile.FieldType.boolean), Jvm.Cond.code ({ cls := "java/lang/StringLatin1", name := "charAt", desc := "([BI)C" } : Jvm.MethodName) jdk_43_method_2_code (2 : Nat) (Option.some Jvm.ClassFile.FieldType.char), Jvm.Cond.code ({ cls := "java/lang/String", name := "checkIndex", desc := "(II)V" } : Jvm.MethodName) jdk_42_method_155_code (2 : Nat) (Option.none : Option Jvm.ClassFile.FieldType), Jvm.Cond.code ({ cls := "jdk/internal/util/Preconditions", name := "checkIndex", desc := "(IILjava/util/function/BiFunction;)I" } : Jvm.MethodName) jdk_41_method_11_code (3 : Nat) (Option.some Jvm.ClassFile.FieldType.int), Jvm.Cond.code ({ cls := "com/example/tallywire/tallywire/wire/FieldType", name := "isDigit", desc := "(C)Z" } : Jvm.MethodName) prog_40_method_12_code (1 : Nat) (Option.some Jvm.ClassFile.FieldType.boolean), Jvm.Cond.code ({ cls := "com/example/tallywire/tallywire/wire/FieldType", name := "isLength", desc := "()Z" } : Jvm.MethodName) prog_40_method_5_code (1 : Nat) (Option.some Jvm.ClassFile.FieldType.boolean), Jvm.Cond.code ({ cls := "com/example/tallywire/tallywire/wire/TagValue", name := "parseNumber", desc := "(Ljava/lang/String;)J" } : Jvm.MethodName) prog_63_method_4_code (5 : Nat) (Option.some Jvm.ClassFile.FieldType.long), Jvm.Cond.code ({ cls := "java/lang/String", name := "isEmpty", desc := "()Z" } : Jvm.MethodName) jdk_42_method_55_code (1 : Nat) (Option.some Jvm.ClassFile.FieldType.boolean), Jvm.Cond.code ({ cls := "com/example/tallywire/tallywire/wire/FieldType", name := "decimal", desc := "(Ljava/lang/String;)I" } : Jvm.MethodName) prog_40_method_13_code (2 : Nat) (Option.some Jvm.ClassFile.FieldType.int), Jvm.Cond.code ({ cls := "com/example/tallywire/tallywire/wire/FieldType", name := "isAt", desc := "(Ljava/lang/String;IC)Z" } : Jvm.MethodName) prog_40_method_11_code (3 : Nat) (Option.some Jvm.ClassFile.FieldType.boolean), Jvm.Cond.code ({ cls := "java/lang/String", name := "equals", desc := "(Ljava/lang/Object;)Z" } : Jvm.MethodName) jdk_42_method_66_code (3 : Nat) (Option.some Jvm.ClassFile.FieldType.boolean), Jvm.Cond.code ({ cls := "java/lang/StringLatin1", name := "equals", desc := "([B[B)Z" } : Jvm.MethodName) jdk_43_method_13_code (3 : Nat) (Option.some Jvm.ClassFile.FieldType.boolean), Jvm.Cond.code ({ cls := "com/example/tallywire/tallywire/wire/FieldType", name := "time", desc := "(Ljava/lang/String;IZZ)I" } : Jvm.MethodName) prog_40_method_19_code (6 : Nat) (Option.some Jvm.ClassFile.FieldType.int), Jvm.Cond.code ({ cls := "com/example/tallywire/tallywire/wire/FieldType", name := "number", desc := "(Ljava/lang/String;IIII)I" } : Jvm.MethodName) prog_40_method_9_code (7 : Nat) (Option.some Jvm.ClassFile.FieldType.int), Jvm.Cond.code ({ cls := "com/example/tallywire/tallywire/wire/FieldType", name := "character", desc := "(Ljava/lang/String;IC)I" } : Jvm.MethodName) prog_40_method_10_code (3 : Nat) (Option.some Jvm.ClassFile.FieldType.int), Jvm.Cond.code ({ cls := "com/example/tallywire/tallywire/wire/FieldType", name := "zone", desc := "(Ljava/lang/String;I)I" } : Jvm.MethodName) prog_40_method_20_code (3 : Nat) (Option.some Jvm.ClassFile.FieldType.int), Jvm.Cond.code ({ cls := "com/example/tallywire/tallywire/wire/FieldType", name := "date", desc := "(Ljava/lang/String;I)I" } : Jvm.MethodName) prog_40_method_16_code (2 : Nat) (Option.some Jvm.ClassFile.FieldType.int), Jvm.Cond.code ({ cls := "com/example/tallywire/tallywire/wire/FieldType", name := "yearAndMonth", desc := "(Ljava/lang/String;I)I" } : Jvm.MethodName) prog_40_method_15_code (2 : Nat) (Option.some Jvm.ClassFile.FieldType.int), Jvm.Cond.code ({ cls := "com/example/tallywire/tallywire/wire/FieldType", name := "isCharacterList", desc := "(Ljava/lang/String;)Z" } : Jvm.MethodName) prog_40_method_14_code (2 : Nat) (Option.some Jvm.ClassFile.FieldType.boolean), Jvm.Cond.code ({ cls := "com/example/tallywire/tallywire/wire/FieldType", name := "dateAndDash", desc := "(Ljava/lang/String;)I" } : Jvm.MethodName) prog_40_method_17_code (1 : Nat) (Option.some Jvm.ClassFile.FieldType.int), Jvm.Cond.code ({ cls := "com/example/tallywire/tallywire/wire/FieldType", name := "monthYear", desc := "(Ljava/lang/String;)I" } : Jvm.MethodName) prog_40_method_18_code (2 : Nat) (Option.some Jvm.ClassFile.FieldType.int)]
set_option maxRecDepth 65536 in
theorem codes_eq : words1.filter isCode = codes1 := rfl
theorem w_codes : ∀ c ∈ words1.filter isCode, c.before args0 about1 = true := by
  rw [codes_eq]
  intro c hc
  simp only [codes1, List.mem_cons, List.not_mem_nil, or_false] at hc
  rcases hc with rfl | rfl | rfl | rfl | rfl | rfl | rfl | rfl | rfl | rfl | rfl | rfl | rfl | rfl | rfl | rfl | rfl | rfl | rfl | rfl | rfl | rfl | rfl | rfl | rfl | rfl | rfl | rfl | rfl | rfl | rfl | rfl
  · exact w_c0
  · exact w_c1
  · exact w_c2
  · exact w_c3
  · exact w_c4
  · exact w_c5
  · exact w_c6
  · exact w_c7
  · exact w_c8
  · exact w_c9
  · exact w_c10
  · exact w_c11
  · exact w_c12
  · exact w_c13
  · exact w_c14
  · exact w_c15
  · exact w_c16
  · exact w_c17
  · exact w_c18
  · exact w_c19
  · exact w_c20
  · exact w_c21
  · exact w_c22
  · exact w_c23
  · exact w_c24
  · exact w_c25
  · exact w_c26
  · exact w_c27
  · exact w_c28
  · exact w_c29
  · exact w_c30
  · exact w_c31
set_option maxRecDepth 65536 in
theorem w_t1 : (words1.take 24).all (fun c => isCode c || c.before args0 about1) = true := by decide +kernel
set_option maxRecDepth 65536 in
theorem w_t2 : ((words1.drop 24).take 24).all (fun c => isCode c || c.before args0 about1) = true := by decide +kernel
set_option maxRecDepth 65536 in
theorem w_t3 : (((words1.drop 24).drop 24).take 24).all (fun c => isCode c || c.before args0 about1) = true := by decide +kernel
set_option maxRecDepth 65536 in
theorem w_t4 : ((((words1.drop 24).drop 24).drop 24).take 24).all (fun c => isCode c || c.before args0 about1) = true := by decide +kernel
set_option maxRecDepth 65536 in
theorem w_t5 : (((((words1.drop 24).drop 24).drop 24).drop 24).take 24).all (fun c => isCode c || c.before args0 about1) = true := by decide +kernel
set_option maxRecDepth 65536 in
theorem w_t6 : ((((((words1.drop 24).drop 24).drop 24).drop 24).drop 24).take 24).all (fun c => isCode c || c.before args0 about1) = true := by decide +kernel
set_option maxRecDepth 65536 in
theorem w_t7 : (((((((words1.drop 24).drop 24).drop 24).drop 24).drop 24).drop 24).take 24).all (fun c => isCode c || c.before args0 about1) = true := by decide +kernel
set_option maxRecDepth 65536 in
theorem w_t8 : ((((((((words1.drop 24).drop 24).drop 24).drop 24).drop 24).drop 24).drop 24).take 24).all (fun c => isCode c || c.before args0 about1) = true := by decide +kernel
set_option maxRecDepth 65536 in
theorem w_t9 : ((((((((words1.drop 24).drop 24).drop 24).drop 24).drop 24).drop 24).drop 24).drop 24).all (fun c => isCode c || c.before args0 about1) = true := by decide +kernel
theorem w_tables : (allAtoms (Jvm.Cond.code x code maxLocals ret :: tables_1)).before args0 about1 = true := by
  rw [allAtoms_all]
  show words1.all (fun c => c.before args0 about1) = true
  refine all_split ?_ w_codes
  rw [← List.take_append_drop 24 words1, List.all_append, w_t1, ← List.take_append_drop 24 (words1.drop 24), List.all_append, w_t2, ← List.take_append_drop 24 ((words1.drop 24).drop 24), List.all_append, w_t3, ← List.take_append_drop 24 (((words1.drop 24).drop 24).drop 24), List.all_append, w_t4, ← List.take_append_drop 24 ((((words1.drop 24).drop 24).drop 24).drop 24), List.all_append, w_t5, ← List.take_append_drop 24 (((((words1.drop 24).drop 24).drop 24).drop 24).drop 24), List.all_append, w_t6, ← List.take_append_drop 24 ((((((words1.drop 24).drop 24).drop 24).drop 24).drop 24).drop 24), List.all_append, w_t7, ← List.take_append_drop 24 (((((((words1.drop 24).drop 24).drop 24).drop 24).drop 24).drop 24).drop 24), List.all_append, w_t8, w_t9]
  rfl
set_option maxRecDepth 65536 in
theorem w_rest : rest_1_c.before args0 about1 = true := by decide +kernel
set_option maxRecDepth 65536 in
theorem w_case : (Jvm.Cond.and given_1 narrow_1).before args0 about1 = true := by decide +kernel
set_option maxRecDepth 65536 in
theorem w_consts : constsHeld consts_1 about1 := Jvm.Lit.constsHeldB_iff.mp (by decide +kernel)
theorem w_applies : (headSpec (Jvm.Cond.code x code maxLocals ret :: tables_1) room_1).applies x e0.platform about1 = true :=
  (Spec.applies_iff w_frames).mpr ⟨w_running, w_runnable, w_alone, w_named, w_hears, w_ripe, w_room, w_tables⟩
theorem atStart : AtStart classFile x code maxLocals ret World_1 tables_1 room_1 Calls_1 rest_1 Pre_1 launch0 p0 e0 about1 theMethod args0 below0 :=
  ⟨lists_1, trivial, launch0.admits_env _ _ _, launch0.least_env, fairChoices_fair.cas, fairChoices_fair.clock, w_frames, w_args, w_heap, w_applies, ⟨w_consts, trivial⟩, w_rest, w_case⟩
end start1
theorem witness_1 : WitnessClaimed_1 := ⟨start1.p0, start1.e0, start1.about1, start1.theMethod, start1.args0, start1.below0, start1.atStart⟩
end Jvm.Pilot.@@N@@
