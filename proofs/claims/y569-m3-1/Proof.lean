import JvmDerived
import JvmDerived.Pilot.@@N@@Statement
import JvmDerived.Pilot.@@N@@Code
set_option linter.unusedVariables false
set_option linter.unusedSimpArgs false
namespace Jvm.RoadKit
open Sem ClassFile Op Lib Jvm.Stand Jvm.Free Jvm.LawKit
section New
variable {p : Program} {l : Launch} {e : Env} {R : Room} {s : State} {m : MethodId} {args : Array Value} {below : List Frame} {meth : Method} {c : Code} {T : State} {locs : List Loc} {cells slots : Nat}
theorem retI (X : Stand p l e R s m args below meth c T locs cells slots) (hx : p.tables.exec = Jvm.exec) {pc : Nat} {Ls : Array Slot} {z : Int32} {rest : List Value} (hret : meth.sig.returnType = some .int) (hd : decode c.code pc = .ok (.ireturn, 1)) {fs : List Frame}
    (hl : ∀ (f : JFrame) (acts : List Action), f.method = m → f.locked = none → f.entered = [] → (doReturn e (T.setTop f) acts (some (.int z))).1 = T.setFrames fs) : Steps p.tables e below (T.setTop (mkF m pc Ls (.int z :: rest))) (T.setFrames fs) :=
  retOut X hx hret rfl (Or.inl ⟨rfl, Or.inl rfl, _, rfl⟩) hd hl
end New
end Jvm.RoadKit
namespace Jvm.Pilot.@@N@@
open Jvm Jvm.ClassFile Sem Op Lib Jvm.Free Jvm.Stand Jvm.LawKit Jvm.RoadKit Bundle Jvm.Pilot.@@N@@.Jvm.D
theorem own_sub {p : Program} {l : Launch} {e : Env} {R : Room} {s : State} {m : MethodId} {args : Array Value} {below : List Frame} {meth : Method} {c : Code} {T : State} {L L' : List Loc} {k k' n n' : Nat} (X : Stand p l e R s m args below meth c T L k n) (hl : L = L') (hk : k = k') (hn : n = n') : Stand p l e R s m args below meth c T L' k' n' := by
  subst hl hk hn
  exact X
abbrev own_m0 : MethodName := ⟨"com/example/ringleader/ringleader/engine/EventQueue", "add", "(DIILjava/lang/Object;)V"⟩
abbrev own_m1 : MethodName := ⟨"com/example/ringleader/ringleader/engine/EventQueue", "firstFrom", "()I"⟩
abbrev own_m2 : MethodName := ⟨"com/example/ringleader/ringleader/engine/EventQueueFirstFromPinLaw", "before", "(IIII)Z"⟩
abbrev own_m3 : MethodName := ⟨"com/example/ringleader/ringleader/engine/EventQueue", "removeFirst", "()V"⟩
abbrev own_m4 : MethodName := ⟨"com/example/ringleader/ringleader/engine/EventQueue", "put", "(IDJI)V"⟩
abbrev own_m5 : MethodName := ⟨"com/example/ringleader/ringleader/engine/EventQueueFirstFromPinLaw", "pick", "(IIIIIII)I"⟩
abbrev own_m6 : MethodName := ⟨"com/example/ringleader/ringleader/engine/EventQueue", "move", "(II)V"⟩
abbrev own_m7 : MethodName := ⟨"com/example/ringleader/ringleader/engine/EventQueue", "<init>", "()V"⟩
abbrev own_m8 : MethodName := ⟨"com/example/ringleader/ringleader/engine/EventQueue", "isBefore", "(DJDJ)Z"⟩
abbrev own_m9 : MethodName := ⟨"java/lang/Math", "min", "(II)I"⟩
abbrev own_m10 : MethodName := ⟨"com/example/ringleader/ringleader/engine/EventQueue", "fillFree", "(I)V"⟩
/-- what a body that writes nothing leaves: its value, no place written, the heap as it was -/
def PQ (w : Option Value) (h0 : Heap) (n0 : Nat) (v : Option Value) (h : Heap) (L : List Loc) : Prop := v = w ∧ Fr n0 L ∧ h = h0
def LQ (n0 : Nat) (v : Option Value) (h : Heap) (L : List Loc) : Prop := v = some (.int (1 : Int32)) ∧ Fr n0 L ∧ True
theorem own_selpS {s : State} {args args' : Array Value} {y x2 y2 : MethodName} (w : (Cond.selects y.cls x2 y2).before args' s = true) (h2 : y2.cls = y.cls) (hp : (Cond.privateMethod y).before args s = true) (hi : (Cond.instanceMethod y).before args' s = true) (hy : y.cls ≠ "java/lang/invoke/MethodHandle" ∧ y.cls ≠ "java/lang/invoke/VarHandle") : (Cond.selects y.cls y y).before args' s = true := by
  obtain ⟨c, r, m, h1, -, h3, -, k, hk, hki⟩ := Cond.selects_spec w
  have hc : s.vm.findClass y.cls = some m.cls := by rw [← h2]; exact findClass_of_methodNamed h3
  exact Stand.selects_self_of_private hc hk hki (Cond.privateMethod_at hp) hi hy
theorem own_selpI {s : State} {args args' : Array Value} {y : MethodName} {n : Nat} (w : (Cond.instantiable y.cls n).before args' s = true) (hp : (Cond.privateMethod y).before args s = true) (hi : (Cond.instanceMethod y).before args' s = true) (hy : y.cls ≠ "java/lang/invoke/MethodHandle" ∧ y.cls ≠ "java/lang/invoke/VarHandle") : (Cond.selects y.cls y y).before args' s = true := by
  obtain ⟨c, k, h1, h2, -, h4, -⟩ := Cond.instantiable_spec w
  exact Stand.selects_self_of_private h1 h2 (by simpa using (Bool.or_eq_false_iff.mp h4).1) (Cond.privateMethod_at hp) hi hy
theorem own_W {a0 : Array Value} {Z : State} (hw : ∀ d ∈ tables_1, d.before a0 Z = true) (i : Nat) {d : Jvm.Cond} (h : tables_1[i]? = some d) : d.before a0 Z = true := hw d (List.mem_of_getElem? h)
theorem own_Ix {α : Type} {P : Prop} {l : List α} {a : α} (i : Nat) (h : l[i]? = some a) : a ∈ l ∨ P := Or.inl (List.mem_of_getElem? h)
abbrev y_s0 : String := "com/example/ringleader/ringleader/engine/EventQueue"
abbrev y_s1 : String := "[Ljava/lang/Object;"
abbrev y_s2 : String := "java/lang/Object"
theorem own_pd0 : parseMethodDescriptor "(IDJI)V" = some ⟨[.int, .double, .long, .int], none⟩ := by decide +kernel
theorem own_pd1 : parseMethodDescriptor "(II)V" = some ⟨[.int, .int], none⟩ := by decide +kernel
theorem own_pd2 : parseMethodDescriptor "(II)I" = some ⟨[.int, .int], some .int⟩ := by decide +kernel
theorem own_pd3 : parseMethodDescriptor "(DJDJ)Z" = some ⟨[.double, .long, .double, .long], some .boolean⟩ := by decide +kernel
theorem own_pd4 : parseMethodDescriptor "(IIII)Z" = some ⟨[.int, .int, .int, .int], some .boolean⟩ := by decide +kernel
theorem own_pd5 : parseMethodDescriptor "(I)V" = some ⟨[.int], none⟩ := by decide +kernel
theorem own_pd6 : parseMethodDescriptor "()V" = some ⟨[], none⟩ := by decide +kernel
theorem own_pd7 : parseMethodDescriptor "(DIILjava/lang/Object;)V" = some ⟨[.double, .int, .int, (.object y_s2)], none⟩ := by decide +kernel
theorem own_pd8 : parseMethodDescriptor "()I" = some ⟨[], some .int⟩ := by decide +kernel
theorem own_pd9 : parseMethodDescriptor "(IIIIIII)I" = some ⟨[.int, .int, .int, .int, .int, .int, .int], some .int⟩ := by decide +kernel
theorem own_b53 (x : Int32) : B53 x.toInt64 := by
  have r := rng32 x
  exact ⟨by rw [c_i2l]; omega, by rw [c_i2l]; omega⟩
theorem own_llt (x y : Int32) : ((lcmpW (x.toInt64) (y.toInt64)) < (0 : Int32)) = (x < y) := by rw [lw_lt, Int64.lt_iff_toInt_lt, c_i2l, c_i2l, Int32.lt_iff_toInt_lt]
theorem own_leq (x y : Int32) : ((lcmpW (x.toInt64) (y.toInt64)) = (0 : Int32)) = (x = y) := by rw [lw_eq, ← Int64.toInt_inj, c_i2l, c_i2l, Int32.toInt_inj]
theorem own_sw1 {a b : Int32} (h : a < b) : ¬ (b < a) := by rw [Int32.lt_iff_toInt_lt] at *; omega
theorem own_sw2 {a b : Int32} (h : a < b) : ¬ (b = a) := fun e => by subst e; rw [Int32.lt_iff_toInt_lt] at h; omega
theorem own_sw3 {a b : Int32} (h : a = b) : ¬ (b < a) := by subst h; rw [Int32.lt_iff_toInt_lt]; omega
theorem own_sw4 {a b : Int32} (h : ¬ (a < b)) (k : ¬ (a = b)) : b < a := by rw [Int32.lt_iff_toInt_lt] at *; rw [← Int32.toInt_inj] at k; omega
theorem own_sw5 {a b : Int32} (h : a = b) : ¬ (a < b) := by subst h; rw [Int32.lt_iff_toInt_lt]; omega
theorem own_sw6 {a b : Int32} (h : a < b) : ¬ (a = b) := fun e => by subst e; rw [Int32.lt_iff_toInt_lt] at h; omega
theorem own_sw7 {a b : Int32} (h : ¬ (a < b)) (k : ¬ (b < a)) : a = b := by rw [Int32.lt_iff_toInt_lt] at h k; apply Int32.toInt_inj.mp; omega
theorem own_irr (a : Int32) : ¬ (a < a) := by rw [Int32.lt_iff_toInt_lt]; omega
theorem own_dup2X1 {tb : Tables} [Ours tb] {e : Env} {below : List Frame} {T target : State} {m : MethodId} {c : Code} {g : JFrame} (h : At T m c below) (hx : tb.exec = Jvm.exec) (hg : g.method = m) {x : Int64} {b : Addr} {rest : List Value} (hd : decode c.code g.pc = .ok (.dup2_x1, 1)) (hs : g.stack = .long x :: .ref b :: rest)
    (hr : Steps tb e below (T.setTop { g with pc := g.pc + 1, stack := .long x :: .ref b :: .long x :: rest }) target) : Steps tb e below (T.setTop g) target := by
  subst hg
  jvm_step h [h.top, hx, hd, hs, Value.category]
  exact hr
theorem own_z64 : (0 : Int32).toInt64 = (0 : Int64) := by decide
theorem own_newD {Z : State} {h : Heap} {a : Addr} {k : ClassId} {z : Int32} (A : Arr Z h a (newA k .double z) .double) (q : ¬ z < 0) : Arv Z h a k .double z [] (.double (Jvm.FP.l2d ((0 : Int32).toInt64))) := by rw [own_z64]; exact Arv.newD A q
/-- an array of sixteen, whatever it holds -/
def own_AM (Z : State) (h : Heap) (a : Addr) (k : ClassId) (ty : FieldType) : Prop := ∃ (vs : List Value) (dv : Value), Arv Z h a k ty (16 : Int32) vs dv
theorem own_AM.lt {Z : State} {h : Heap} {a : Addr} {k : ClassId} {ty : FieldType} (F : own_AM Z h a k ty) : a < h.size := by obtain ⟨_, _, F⟩ := F; exact F.lt
theorem own_AM.ext {Z : State} {h h' : Heap} {a : Addr} {k : ClassId} {ty : FieldType} (F : own_AM Z h a k ty) (E : Ext h h') : own_AM Z h' a k ty := by obtain ⟨_, _, F⟩ := F; exact ⟨_, _, F.ext E⟩
theorem own_AM.other {Z : State} {h h' : Heap} {a b : Addr} {k : ClassId} {ty : FieldType} {sl : Nat} {v : Value} (F : own_AM Z h b k ty) (W : Wr h h' a sl v) (q : b ≠ a) : own_AM Z h' b k ty := by obtain ⟨_, _, F⟩ := F; exact ⟨_, _, F.other W q⟩
theorem own_AM.keep {Z : State} {h h' : Heap} {a : Addr} {k : ClassId} {ty : FieldType} {ws : List Addr} (F : own_AM Z h a k ty) (K : Keep h h' ws) (q : a ∉ ws) : own_AM Z h' a k ty := by obtain ⟨_, _, F⟩ := F; exact ⟨_, _, F.keep K q⟩
theorem own_AM.set {Z : State} {h h' : Heap} {a : Addr} {k : ClassId} {ty : FieldType} {j : Int32} {v : Value} (F : own_AM Z h a k ty) (hv : fits ty v = true) (W : Wr h h' a j.toNatClampNeg v) : own_AM Z h' a k ty := by
  obtain ⟨vs, dv, F⟩ := F
  obtain ⟨c, A, q, S, N, H, G⟩ := Arv.pad F (pad_rep vs dv 16)
  have hs : j.toNatClampNeg < 16 := by
    have h5 : c.slots.size = 16 := S.trans (by decide)
    obtain ⟨cell, h1, -, h3, -⟩ := id W
    have h6 : cell = c := Option.some.inj (h1.symm.trans A.1)
    rw [h6] at h3
    omega
  exact ⟨_, _, Arv.set A q S N H G hv W _ rfl (by rw [List.length_append, List.length_replicate]; omega)⟩
theorem own_eqv {s : State} {args : Array Value} {t u : Term} {w : Value} (hu : u.eval args s none [] s = some w) (h : (Cond.eq t u).value args s none s [] = some true) (hk : (match w with | .retAddr _ => false | .float _ => false | .double _ => false | _ => true) = true := by rfl) : t.eval args s none [] s = some w := by
  obtain ⟨x, y, e1, e2, -, -⟩ := cmp_v (Or.inl h)
  cases hu.symm.trans e2
  rw [e1]
  simp only [Cond.value, e1, hu] at h
  cases x <;> cases w <;> simp at h hk ⊢ <;> exact h
theorem own_fld {s : State} {args : Array Value} {t : Term} {C n d : String} {a : Addr} {v : Value} (ht : t.eval args s none [] s = some (.ref a)) (h : (Term.field t C n d).eval args s none [] s = some v) : Fld s s.heap a C n d v := Fld.start ((fld_at ht).symm.trans h)
theorem own_len {s : State} {args : Array Value} {t : Term} {ty : FieldType} {a : Addr} {n : Int32} (ht : t.eval args s none [] s = some (.ref a)) (ha : (Cond.arrayOf t ty).value args s none s [] = some true) (hl : (Cond.eq (.length t) (.int n)).value args s none s [] = some true) (hn : ¬ n < 0) :
    ∃ c : Cell, Arr s s.heap a c ty ∧ c.slots.size < 2 ^ 31 ∧ c.slots.size.toInt32 = n := by
  obtain ⟨c, A⟩ := Arr.start ht ha
  have e := own_eqv (Term.int_eval n) hl
  have A2 := A.fin (Vm.Alike.refl _)
  obtain ⟨x, c2, e1, e2, e3⟩ := Term.length_spec e
  cases ht.symm.trans e1
  cases A2.symm.trans e2
  have h31 := SBG.length_lt ht A2 e
  refine ⟨c, A, h31, ?_⟩
  have := len_f ht A2 h31
  rw [e] at this
  simpa using (Option.some.inj this).symm
theorem own_elem {s : State} {args : Array Value} {t : Term} {ty : FieldType} {a : Addr} {c : Cell} {j : Int32} {v : Value} (ht : t.eval args s none [] s = some (.ref a)) (A : Arr s s.heap a c ty) (h : (Term.elem t (.int j)).eval args s none [] s = some v) : c.slots[j.toNatClampNeg]? = some v := (elem_in h ht (Term.int_eval j) A.1).2
theorem own_all0 {s : State} {args : Array Value} {t : Term} {ty : FieldType} {a : Addr} {c : Cell} {k n : Int32} (ht : ∀ idx, t.eval args s none idx s = some (.ref a)) (A : Arr s s.heap a c ty) (h31 : c.slots.size < 2 ^ 31) (hn : c.slots.size.toInt32 = n)
    (h : (Cond.all t (.or (.lt (.index 0) (.int k)) (.eq (.elem t (.index 0)) (.int 0)))).value args s none s [] = some true) (j : Nat) (hj : j < n.toNatClampNeg) (hk : ¬ j.toInt32 < k) : c.slots[j]? = some (.int 0) := by
  have A2 := A.fin (Vm.Alike.refl _)
  have hsz : n.toNatClampNeg = c.slots.size := by rw [← hn]; simp only [Int32.toNatClampNeg, len_toInt h31]; rfl
  have hj2 : j < c.slots.size := hsz ▸ hj
  have q := Cond.all_elim (ht []) A2 h j hj2
  have e1 : (Term.index 0).eval args s none [j] s = some (.int j.toInt32) := rfl
  have l1 : (Cond.lt (.index 0) (.int k)).value args s none s [j] = some false := by
    simp [Cond.value, e1, Term.int_eval, hk]
  have q2 : (Cond.eq (.elem t (.index 0)) (.int 0)).value args s none s [j] = some true := by
    have q3 : (match (Cond.lt (.index 0) (.int k)).value args s none s [j] with | some false => (Cond.eq (.elem t (.index 0)) (.int 0)).value args s none s [j] | x => x) = some true := q
    rw [l1] at q3
    exact q3
  obtain ⟨x, y, e2, e3, -, -⟩ := cmp_v (Or.inl q2)
  cases (Term.int_eval (args := args) (first := s) (o := none) (idx := [j]) (s := s) 0).symm.trans e3
  have e4 : (Term.elem t (.index 0)).eval args s none [j] s = some (.int 0) := by
    simp only [Cond.value, e2, e3] at q2
    rw [e2]; cases x <;> simp at q2 ⊢; exact q2
  have e5 := elem_in e4 (ht [j]) e1 A.1
  have e6 : (Nat.toInt32 j).toNatClampNeg = j := by simp only [Int32.toNatClampNeg, len_toInt (Nat.lt_trans hj2 h31)]; rfl
  rw [e6] at e5
  exact e5.2
theorem own_csne {s : State} {args : Array Value} {t : Term} {v : Int32} (e : t.eval args s none [] s = some (.int v)) (h : (Cond.not (.eq t (.int 0))).value args s none s [] = some true) : ¬ (v = (0 : Int32)) := by
  have q := not_v h
  intro hv
  subst hv
  have q2 := Cond.eq_ints e (Term.int_eval (args := args) (first := s) (o := none) (idx := []) (s := s) 0)
  rw [q2] at q
  simp at q
theorem own_orref {s : State} {args : Array Value} {C f d : String} (h : (Cond.isRef (.static C f d)).value args s none s [] = some true) (hi : (Cond.initializedFor C f d).before args s = true ∨ ((Cond.initialized C).before args s = true ∧ (Cond.laysStatic C f d).before args s = true)) : (Sta s s.heap C f d .null) ∨ (∃ a, Sta s s.heap C f d (.ref a)) := by
  obtain ⟨x, e, hr⟩ := isR_v h
  rcases ref_cases hr with rfl | ⟨a, rfl⟩
  · exact Or.inl (Sta.start e hi)
  · exact Or.inr ⟨a, Sta.start e hi⟩
def own_St (Z : State) (A : Nat → Addr) (K : Nat → ClassId) : Prop := True
theorem y0_0 : decode prog_48_method_9_code 0 = .ok (.dload_n 0, 1) := by decide +kernel
theorem y0_1 : decode prog_48_method_9_code 1 = .ok (.dload 4, 2) := by decide +kernel
theorem y0_3 : decode prog_48_method_9_code 3 = .ok (.dcmp .g, 1) := by decide +kernel
theorem y0_4 : decode prog_48_method_9_code 4 = .ok (.ifCond .lt 17, 3) := by decide +kernel
theorem y0_7 : decode prog_48_method_9_code 7 = .ok (.dload_n 0, 1) := by decide +kernel
theorem y0_8 : decode prog_48_method_9_code 8 = .ok (.dload 4, 2) := by decide +kernel
theorem y0_10 : decode prog_48_method_9_code 10 = .ok (.dcmp .l, 1) := by decide +kernel
theorem y0_11 : decode prog_48_method_9_code 11 = .ok (.ifCond .ne 14, 3) := by decide +kernel
theorem y0_14 : decode prog_48_method_9_code 14 = .ok (.lload_n 2, 1) := by decide +kernel
theorem y0_15 : decode prog_48_method_9_code 15 = .ok (.lload 6, 2) := by decide +kernel
theorem y0_17 : decode prog_48_method_9_code 17 = .ok (.lcmp, 1) := by decide +kernel
theorem y0_18 : decode prog_48_method_9_code 18 = .ok (.ifCond .ge 7, 3) := by decide +kernel
theorem y0_21 : decode prog_48_method_9_code 21 = .ok (.iconst 1, 1) := by decide +kernel
theorem y0_22 : decode prog_48_method_9_code 22 = .ok (.goto 4, 3) := by decide +kernel
theorem y0_25 : decode prog_48_method_9_code 25 = .ok (.iconst 0, 1) := by decide +kernel
theorem y0_26 : decode prog_48_method_9_code 26 = .ok (.ireturn, 1) := by decide +kernel
theorem own_pn0 : plainName y_s0 = true := by first | (simp [plainName, overriddenIn]; done) | decide +kernel
def own_f_rmIB (x1 : Int32) (x2 : Int32) (c1 : Int64) (c2 : Int64) : Int32 := if (lcmpW (x1.toInt64) (x2.toInt64)) < (0 : Int32) then (1 : Int32)
  else if (lcmpW (x1.toInt64) (x2.toInt64)) = (0 : Int32) then (if (lcmpW c1 c2) < (0 : Int32) then (1 : Int32)
      else (0 : Int32))
    else (0 : Int32)
set_option maxRecDepth 65536 in
set_option maxHeartbeats 40000000 in
theorem rmIB (l : Launch) (Z : State) (a0 : Array Value) (hw : ∀ d ∈ tables_1, d.before a0 Z = true) (ws : List Jvm.Cond) (h0 : Heap) (n0 : Nat) (A : Nat → Addr) (K : Nat → ClassId) (x1 : Int32) (x2 : Int32) (c1 : Int64) (c2 : Int64)  (EN : own_St Z A K) (OL0 : Old Z n0 h0) :
    MetFree l own_m8 (head1 (Jvm.Cond.code own_m8 prog_48_method_9_code 8 (some .boolean) :: ws) (Room.mk 0 0 0 0)) (fun a U => a = #[(.double (Jvm.FP.l2d (x1.toInt64))), (.long c1), (.double (Jvm.FP.l2d (x2.toInt64))), (.long c2)] ∧ Z.Warmed39 U.vm ∧ U.heap = h0) (fun _ _ _ _ _ => True) (fun _ U o U' => ∃ v L, o = .returned v ∧ (PQ (some (.int (own_f_rmIB x1 x2 c1 c2))) h0 n0) v U'.heap L ∧ FrameEnd U o U' L (Room.mk 0 0 0 0).cells (Room.mk 0 0 0 0).slots) := by
  refine MetFree.of_bodySF (plainFor_of_name own_pn0) hisR ?_
  intro p e s m args below meth c s₁ Bd hml0 hP hK
  obtain ⟨rfl, hZ, hh⟩ := hP
  have hx := Bd.exec
  have hby := Bd.bytes
  have hml : c.maxLocals = 8 := hml0
  have hown : s.vm.findClass y_s0 = some m.cls := findClass_of_methodNamed Bd.named
  have hnm := (name_of_methodNamed Bd.named Bd.method).1
  have X0 : Stand p l e (Room.mk 0 0 0 0) s m #[(.double (Jvm.FP.l2d (x1.toInt64))), (.long c1), (.double (Jvm.FP.l2d (x2.toInt64))), (.long c2)] below meth c s₁ [] 0 0 := Stand.of_body Bd
  have e0 : s₁.heap = h0 := by rw [← hh, Bd.state]; rfl
  have N0 := Fr.nil n0
  have pre0 : ∀ t, Steps p.tables e below (s₁.setTop (mkF m 0 #[.val (.double (Jvm.FP.l2d (x1.toInt64))), .second, .val (.long c1), .second, .val (.double (Jvm.FP.l2d (x2.toInt64))), .second, .val (.long c2), .second] [])) t → Steps p.tables e below (s₁.setTop (entryFrame m #[(.double (Jvm.FP.l2d (x1.toInt64))), (.long c1), (.double (Jvm.FP.l2d (x2.toInt64))), (.long c2)] 8)) t := fun t k => castTop (by first | (simp [entryFrame, mkF, argsToLocals, Value.category, maxLocals]; done) | rfl) k
  have KK0 : Keep h0 h0 [] := Keep.refl _ _
  have z3 : ∀ t, Steps p.tables e below (s₁.setTop (mkF m 4 #[.val (.double (Jvm.FP.l2d (x1.toInt64))), .second, .val (.long c1), .second, .val (.double (Jvm.FP.l2d (x2.toInt64))), .second, .val (.long c2), .second] [(.int (lcmpW (x1.toInt64) (x2.toInt64)))])) t → Steps p.tables e below (s₁.setTop (entryFrame m #[(.double (Jvm.FP.l2d (x1.toInt64))), (.long c1), (.double (Jvm.FP.l2d (x2.toInt64))), (.long c2)] 8)) t := fun t k => pre0 t (by
    show Steps p.tables e below (s₁.setTop (mkF m 0 #[.val (.double (Jvm.FP.l2d (x1.toInt64))), .second, .val (.long c1), .second, .val (.double (Jvm.FP.l2d (x2.toInt64))), .second, .val (.long c2), .second] [])) _
    refine XS.dloadN X0.here hx rfl (hb hby y0_0) rfl ?_
    refine XS.dload X0.here hx rfl (hb hby y0_1) rfl ?_
    refine XS.dcmpS X0.here hx rfl (hb hby y0_3) rfl (dcmpV_w (own_b53 x1) (own_b53 x2) _) ?_
    exact k)
  by_cases z0 : (lcmpW (x1.toInt64) (x2.toInt64)) < (0 : Int32)
  · obtain ⟨fs, hr, hrun, hended, hW, hsame⟩ := X0.leave (v := some (.int 1)) (fun h => by rw [Bd.returns] at h; cases h)
    refine ⟨_, _, z3 _ ?_, hrun, hended, _, _, rfl, ?_, ⟨_, rfl⟩, hW, hsame.mono (by decide) (by decide)⟩
    · show Steps p.tables e below (s₁.setTop (mkF m 4 #[.val (.double (Jvm.FP.l2d (x1.toInt64))), .second, .val (.long c1), .second, .val (.double (Jvm.FP.l2d (x2.toInt64))), .second, .val (.long c2), .second] [(.int (lcmpW (x1.toInt64) (x2.toInt64)))])) _
      refine XS.ifYes X0.here hx rfl (pc0 := 4) (pc' := 21) rfl (hb hby y0_4) rfl ((if0 _ _).trans (tlt z0).1) (by decide) (by decide) ?_
      show Steps p.tables e below (s₁.setTop (mkF m 21 #[.val (.double (Jvm.FP.l2d (x1.toInt64))), .second, .val (.long c1), .second, .val (.double (Jvm.FP.l2d (x2.toInt64))), .second, .val (.long c2), .second] [])) _
      refine XS.iconst X0.here hx rfl (hb hby y0_21) ?_
      refine XS.goto X0.here hx rfl (pc0 := 22) (pc' := 26) rfl (hb hby y0_22) (by decide) (by decide) ?_
      exact retN X0 hx (t := .boolean) Bd.returns (by simp) (hb hby y0_26) hr
    · show PQ (some (.int (own_f_rmIB x1 x2 c1 c2))) h0 n0 _ s₁.heap _
      rw [e0]
      exact ⟨congrArg (fun z => some (Value.int z)) (by unfold own_f_rmIB; rw [if_pos z0]), N0, rfl⟩
  · have z4 : ∀ t, Steps p.tables e below (s₁.setTop (mkF m 11 #[.val (.double (Jvm.FP.l2d (x1.toInt64))), .second, .val (.long c1), .second, .val (.double (Jvm.FP.l2d (x2.toInt64))), .second, .val (.long c2), .second] [(.int (lcmpW (x1.toInt64) (x2.toInt64)))])) t → Steps p.tables e below (s₁.setTop (entryFrame m #[(.double (Jvm.FP.l2d (x1.toInt64))), (.long c1), (.double (Jvm.FP.l2d (x2.toInt64))), (.long c2)] 8)) t := fun t k => z3 t (by
      show Steps p.tables e below (s₁.setTop (mkF m 4 #[.val (.double (Jvm.FP.l2d (x1.toInt64))), .second, .val (.long c1), .second, .val (.double (Jvm.FP.l2d (x2.toInt64))), .second, .val (.long c2), .second] [(.int (lcmpW (x1.toInt64) (x2.toInt64)))])) _
      refine XS.ifNo X0.here hx rfl (hb hby y0_4) rfl ((if0 _ _).trans (flt z0).1) ?_
      show Steps p.tables e below (s₁.setTop (mkF m 7 #[.val (.double (Jvm.FP.l2d (x1.toInt64))), .second, .val (.long c1), .second, .val (.double (Jvm.FP.l2d (x2.toInt64))), .second, .val (.long c2), .second] [])) _
      refine XS.dloadN X0.here hx rfl (hb hby y0_7) rfl ?_
      refine XS.dload X0.here hx rfl (hb hby y0_8) rfl ?_
      refine XS.dcmpS X0.here hx rfl (hb hby y0_10) rfl (dcmpV_w (own_b53 x1) (own_b53 x2) _) ?_
      exact k)
    by_cases z1 : (lcmpW (x1.toInt64) (x2.toInt64)) = (0 : Int32)
    · have z5 : ∀ t, Steps p.tables e below (s₁.setTop (mkF m 18 #[.val (.double (Jvm.FP.l2d (x1.toInt64))), .second, .val (.long c1), .second, .val (.double (Jvm.FP.l2d (x2.toInt64))), .second, .val (.long c2), .second] [(.int (lcmpW c1 c2))])) t → Steps p.tables e below (s₁.setTop (entryFrame m #[(.double (Jvm.FP.l2d (x1.toInt64))), (.long c1), (.double (Jvm.FP.l2d (x2.toInt64))), (.long c2)] 8)) t := fun t k => z4 t (by
        show Steps p.tables e below (s₁.setTop (mkF m 11 #[.val (.double (Jvm.FP.l2d (x1.toInt64))), .second, .val (.long c1), .second, .val (.double (Jvm.FP.l2d (x2.toInt64))), .second, .val (.long c2), .second] [(.int (lcmpW (x1.toInt64) (x2.toInt64)))])) _
        refine XS.ifNo X0.here hx rfl (hb hby y0_11) rfl ((if0 _ _).trans (teq z1).2) ?_
        show Steps p.tables e below (s₁.setTop (mkF m 14 #[.val (.double (Jvm.FP.l2d (x1.toInt64))), .second, .val (.long c1), .second, .val (.double (Jvm.FP.l2d (x2.toInt64))), .second, .val (.long c2), .second] [])) _
        refine XS.lloadN X0.here hx rfl (hb hby y0_14) rfl ?_
        refine XS.lload X0.here hx rfl (hb hby y0_15) rfl ?_
        refine XS.lcmp X0.here hx rfl (hb hby y0_17) rfl ?_
        exact k)
      by_cases z2 : (lcmpW c1 c2) < (0 : Int32)
      · obtain ⟨fs, hr, hrun, hended, hW, hsame⟩ := X0.leave (v := some (.int 1)) (fun h => by rw [Bd.returns] at h; cases h)
        refine ⟨_, _, z5 _ ?_, hrun, hended, _, _, rfl, ?_, ⟨_, rfl⟩, hW, hsame.mono (by decide) (by decide)⟩
        · show Steps p.tables e below (s₁.setTop (mkF m 18 #[.val (.double (Jvm.FP.l2d (x1.toInt64))), .second, .val (.long c1), .second, .val (.double (Jvm.FP.l2d (x2.toInt64))), .second, .val (.long c2), .second] [(.int (lcmpW c1 c2))])) _
          refine XS.ifNo X0.here hx rfl (hb hby y0_18) rfl ((if0 _ _).trans (tlt z2).2.1) ?_
          show Steps p.tables e below (s₁.setTop (mkF m 21 #[.val (.double (Jvm.FP.l2d (x1.toInt64))), .second, .val (.long c1), .second, .val (.double (Jvm.FP.l2d (x2.toInt64))), .second, .val (.long c2), .second] [])) _
          refine XS.iconst X0.here hx rfl (hb hby y0_21) ?_
          refine XS.goto X0.here hx rfl (pc0 := 22) (pc' := 26) rfl (hb hby y0_22) (by decide) (by decide) ?_
          exact retN X0 hx (t := .boolean) Bd.returns (by simp) (hb hby y0_26) hr
        · show PQ (some (.int (own_f_rmIB x1 x2 c1 c2))) h0 n0 _ s₁.heap _
          rw [e0]
          exact ⟨congrArg (fun z => some (Value.int z)) (by unfold own_f_rmIB; rw [if_neg z0, if_pos z1, if_pos z2]), N0, rfl⟩
      · obtain ⟨fs, hr, hrun, hended, hW, hsame⟩ := X0.leave (v := some (.int 0)) (fun h => by rw [Bd.returns] at h; cases h)
        refine ⟨_, _, z5 _ ?_, hrun, hended, _, _, rfl, ?_, ⟨_, rfl⟩, hW, hsame.mono (by decide) (by decide)⟩
        · show Steps p.tables e below (s₁.setTop (mkF m 18 #[.val (.double (Jvm.FP.l2d (x1.toInt64))), .second, .val (.long c1), .second, .val (.double (Jvm.FP.l2d (x2.toInt64))), .second, .val (.long c2), .second] [(.int (lcmpW c1 c2))])) _
          refine XS.ifYes X0.here hx rfl (pc0 := 18) (pc' := 25) rfl (hb hby y0_18) rfl ((if0 _ _).trans (flt z2).2.1) (by decide) (by decide) ?_
          show Steps p.tables e below (s₁.setTop (mkF m 25 #[.val (.double (Jvm.FP.l2d (x1.toInt64))), .second, .val (.long c1), .second, .val (.double (Jvm.FP.l2d (x2.toInt64))), .second, .val (.long c2), .second] [])) _
          refine XS.iconst X0.here hx rfl (hb hby y0_25) ?_
          exact retN X0 hx (t := .boolean) Bd.returns (by simp) (hb hby y0_26) hr
        · show PQ (some (.int (own_f_rmIB x1 x2 c1 c2))) h0 n0 _ s₁.heap _
          rw [e0]
          exact ⟨congrArg (fun z => some (Value.int z)) (by unfold own_f_rmIB; rw [if_neg z0, if_pos z1, if_neg z2]), N0, rfl⟩
    · obtain ⟨fs, hr, hrun, hended, hW, hsame⟩ := X0.leave (v := some (.int 0)) (fun h => by rw [Bd.returns] at h; cases h)
      refine ⟨_, _, z4 _ ?_, hrun, hended, _, _, rfl, ?_, ⟨_, rfl⟩, hW, hsame.mono (by decide) (by decide)⟩
      · show Steps p.tables e below (s₁.setTop (mkF m 11 #[.val (.double (Jvm.FP.l2d (x1.toInt64))), .second, .val (.long c1), .second, .val (.double (Jvm.FP.l2d (x2.toInt64))), .second, .val (.long c2), .second] [(.int (lcmpW (x1.toInt64) (x2.toInt64)))])) _
        refine XS.ifYes X0.here hx rfl (pc0 := 11) (pc' := 25) rfl (hb hby y0_11) rfl ((if0 _ _).trans (feq z1).2) (by decide) (by decide) ?_
        show Steps p.tables e below (s₁.setTop (mkF m 25 #[.val (.double (Jvm.FP.l2d (x1.toInt64))), .second, .val (.long c1), .second, .val (.double (Jvm.FP.l2d (x2.toInt64))), .second, .val (.long c2), .second] [])) _
        refine XS.iconst X0.here hx rfl (hb hby y0_25) ?_
        exact retN X0 hx (t := .boolean) Bd.returns (by simp) (hb hby y0_26) hr
      · show PQ (some (.int (own_f_rmIB x1 x2 c1 c2))) h0 n0 _ s₁.heap _
        rw [e0]
        exact ⟨congrArg (fun z => some (Value.int z)) (by unfold own_f_rmIB; rw [if_neg z0, if_neg z1]), N0, rfl⟩
def Q_rmP0 (Z : State) (A : Nat → Addr) (K : Nat → ClassId) (x1 : Int32) (x2 : Int32) (x3 : Int32) (c1 : Int64) (c2 : Int64) (c3 : Int64) (s1 : Int32) (s2 : Int32) (s3 : Int32) (vx : Int32) (vc : Int64) (vs : Int32) (z6 : Addr) (z0 : Addr) (z1 : Addr) (z2 : Addr) (z3 : ClassId) (z4 : ClassId) (z5 : ClassId) (h0 : Heap) (n0 : Nat) (v : Option Value) (h : Heap) (L : List Loc) : Prop := v = none ∧ Fr n0 L ∧ Keep h0 h [z0, z1, z2] ∧ (Arv Z h z0 z3 .double (16 : Int32) [(.double (Jvm.FP.l2d (vx.toInt64))), (.double (Jvm.FP.l2d (x2.toInt64))), (.double (Jvm.FP.l2d (x3.toInt64)))] (.double (Jvm.FP.l2d ((0 : Int32).toInt64)))) ∧ (Arv Z h z1 z4 .long (16 : Int32) [(.long vc), (.long c2), (.long c3)] (.long 0)) ∧ (Arv Z h z2 z5 .int 16 [(.int vs), (.int s2), (.int s3)] (.int 0))
theorem y1_0 : decode prog_48_method_11_code 0 = .ok (.aload_n 0, 1) := by decide +kernel
theorem y1_1 : decode prog_48_method_11_code 1 = .ok (.getfield 9, 3) := by decide +kernel
theorem y1_4 : decode prog_48_method_11_code 4 = .ok (.iload_n 1, 1) := by decide +kernel
theorem y1_5 : decode prog_48_method_11_code 5 = .ok (.dload_n 2, 1) := by decide +kernel
theorem y1_6 : decode prog_48_method_11_code 6 = .ok (.dastore, 1) := by decide +kernel
theorem y1_7 : decode prog_48_method_11_code 7 = .ok (.aload_n 0, 1) := by decide +kernel
theorem y1_8 : decode prog_48_method_11_code 8 = .ok (.getfield 15, 3) := by decide +kernel
theorem y1_11 : decode prog_48_method_11_code 11 = .ok (.iload_n 1, 1) := by decide +kernel
theorem y1_12 : decode prog_48_method_11_code 12 = .ok (.lload 4, 2) := by decide +kernel
theorem y1_14 : decode prog_48_method_11_code 14 = .ok (.lastore, 1) := by decide +kernel
theorem y1_15 : decode prog_48_method_11_code 15 = .ok (.aload_n 0, 1) := by decide +kernel
theorem y1_16 : decode prog_48_method_11_code 16 = .ok (.getfield 19, 3) := by decide +kernel
theorem y1_19 : decode prog_48_method_11_code 19 = .ok (.iload_n 1, 1) := by decide +kernel
theorem y1_20 : decode prog_48_method_11_code 20 = .ok (.iload 6, 2) := by decide +kernel
theorem y1_22 : decode prog_48_method_11_code 22 = .ok (.iastore, 1) := by decide +kernel
theorem y1_23 : decode prog_48_method_11_code 23 = .ok (.return_, 1) := by decide +kernel
set_option maxRecDepth 65536 in
set_option maxHeartbeats 40000000 in
theorem rmP0 (l : Launch) (Z : State) (a0 : Array Value) (hw : ∀ d ∈ tables_1, d.before a0 Z = true) (ws : List Jvm.Cond) (h0 : Heap) (n0 : Nat) (A : Nat → Addr) (K : Nat → ClassId) (x1 : Int32) (x2 : Int32) (x3 : Int32) (c1 : Int64) (c2 : Int64) (c3 : Int64) (s1 : Int32) (s2 : Int32) (s3 : Int32) (vx : Int32) (vc : Int64) (vs : Int32)  (z0 : Addr) (z1 : Addr) (z2 : Addr) (z3 : Addr) (z7 : ClassId) (z8 : ClassId) (z9 : ClassId) (EN : own_St Z A K) (OL0 : Old Z n0 h0) (zu : Fld Z h0 z0 y_s0 "at" "[D" (.ref z1)) (zv : Arv Z h0 z1 z7 .double (16 : Int32) [(.double (Jvm.FP.l2d (x1.toInt64))), (.double (Jvm.FP.l2d (x2.toInt64))), (.double (Jvm.FP.l2d (x3.toInt64)))] (.double (Jvm.FP.l2d ((0 : Int32).toInt64)))) (zw : Fld Z h0 z0 y_s0 "added" "[J" (.ref z2)) (zx : Arv Z h0 z2 z8 .long (16 : Int32) [(.long c1), (.long c2), (.long c3)] (.long 0)) (zy : Fld Z h0 z0 y_s0 "slot" "[I" (.ref z3)) (zz : Arv Z h0 z3 z9 .int 16 [(.int s1), (.int s2), (.int s3)] (.int 0)) (zg : z0 ≠ z1) (zh : z1 ≠ z2) (z10 : z0 ≠ z2) (zi : z1 ≠ z3) (zj : z2 ≠ z3) (zk : n0 ≤ z1) (zl : n0 ≤ z2) (zm : n0 ≤ z3) :
    MetFree l own_m4 (head1 (Jvm.Cond.code own_m4 prog_48_method_11_code 7 none :: ws) (Room.mk 0 0 0 0)) (fun a U => a = #[(.ref z0), (.int 0), (.double (Jvm.FP.l2d (vx.toInt64))), (.long vc), (.int vs)] ∧ Z.Warmed39 U.vm ∧ U.heap = h0) (fun _ _ _ _ _ => True) (fun _ U o U' => ∃ v L, o = .returned v ∧ Q_rmP0 Z A K x1 x2 x3 c1 c2 c3 s1 s2 s3 vx vc vs z0 z1 z2 z3 z7 z8 z9 h0 n0 v U'.heap L ∧ FrameEnd U o U' L (Room.mk 0 0 0 0).cells (Room.mk 0 0 0 0).slots) := by
  refine MetFree.of_bodySF (plainFor_of_name own_pn0) hisR ?_
  intro p e s m args below meth c s₁ Bd hml0 hP hK
  obtain ⟨rfl, hZ, hh⟩ := hP
  have hx := Bd.exec
  have hby := Bd.bytes
  have hml : c.maxLocals = 7 := hml0
  have hown : s.vm.findClass y_s0 = some m.cls := findClass_of_methodNamed Bd.named
  have hnm := (name_of_methodNamed Bd.named Bd.method).1
  have X0 : Stand p l e (Room.mk 0 0 0 0) s m #[(.ref z0), (.int 0), (.double (Jvm.FP.l2d (vx.toInt64))), (.long vc), (.int vs)] below meth c s₁ [] 0 0 := Stand.of_body Bd
  have e0 : s₁.heap = h0 := by rw [← hh, Bd.state]; rfl
  have N0 := Fr.nil n0
  have pre0 : ∀ t, Steps p.tables e below (s₁.setTop (mkF m 0 #[.val (.ref z0), .val (.int 0), .val (.double (Jvm.FP.l2d (vx.toInt64))), .second, .val (.long vc), .second, .val (.int vs)] [])) t → Steps p.tables e below (s₁.setTop (entryFrame m #[(.ref z0), (.int 0), (.double (Jvm.FP.l2d (vx.toInt64))), (.long vc), (.int vs)] 7)) t := fun t k => castTop (by first | (simp [entryFrame, mkF, argsToLocals, Value.category, maxLocals]; done) | rfl) k
  have KK0 : Keep h0 h0 [z1, z2, z3] := Keep.refl _ _
  obtain ⟨z11, za, z12, z13⟩ := getF X0 hx hZ hown (host := "") (Or.inl (own_W hw 14 rfl)) Via.refl e0 zu (g := (mkF m 1 #[.val (.ref z0), .val (.int 0), .val (.double (Jvm.FP.l2d (vx.toInt64))), .second, .val (.long vc), .second, .val (.int vs)] [(.ref z0)])) rfl rfl (hb hby y1_1)
  obtain ⟨z14, zn, z15, zo, z16, z17, z18⟩ := (id zv)
  have z19 : ¬ ((0 : Int32) < 0 ∨ z14.slots.size ≤ ((0 : Int32)).toNatClampNeg) := inb_of zo ⟨by decide, by decide⟩
  obtain ⟨z1a, z1b, zb, z1c, z4, z1d⟩ := stD za hx hZ z12 zn (j := (0 : Int32)) z19 (g := (mkF m 6 #[.val (.ref z0), .val (.int 0), .val (.double (Jvm.FP.l2d (vx.toInt64))), .second, .val (.long vc), .second, .val (.int vs)] [(.double (Jvm.FP.l2d (vx.toInt64))), (.int 0), (.ref z1)])) rfl rfl (hb hby y1_6)
  have z1e := Fr.snoc zb N0 zk
  have z1f := OL0.wr z4 zk
  have z1g := KK0.wr z4 (own_Ix 0 rfl)
  have z1h : Arv Z z1b z1 z7 .double (16 : Int32) [(.double (Jvm.FP.l2d (vx.toInt64))), (.double (Jvm.FP.l2d (x2.toInt64))), (.double (Jvm.FP.l2d (x3.toInt64)))] (.double (Jvm.FP.l2d ((0 : Int32).toInt64))) := Arv.set zn z15 zo z16 z17 z18 rfl z4 0 (by decide) (by decide : 0 < 3)
  have z1i := (zw.other z4 (Or.inl zg))
  obtain ⟨z1j, zc, z1k, z1l⟩ := getF zb hx hZ hown (host := "") (Or.inl (own_W hw 17 rfl)) Via.refl z1c z1i (g := (mkF m 8 #[.val (.ref z0), .val (.int 0), .val (.double (Jvm.FP.l2d (vx.toInt64))), .second, .val (.long vc), .second, .val (.int vs)] [(.ref z0)])) rfl rfl (hb hby y1_8)
  have z1m := (zx.other z4 (Ne.symm zh))
  obtain ⟨z1n, zp, z1o, zq, z1p, z1q, z1r⟩ := (id z1m)
  have z1s : ¬ ((0 : Int32) < 0 ∨ z1n.slots.size ≤ ((0 : Int32)).toNatClampNeg) := inb_of zq ⟨by decide, by decide⟩
  obtain ⟨z1t, z1u, zd, z1v, z5, z1w⟩ := stJ zc hx hZ z1k zp (j := (0 : Int32)) z1s (g := (mkF m 14 #[.val (.ref z0), .val (.int 0), .val (.double (Jvm.FP.l2d (vx.toInt64))), .second, .val (.long vc), .second, .val (.int vs)] [(.long vc), (.int 0), (.ref z2)])) rfl rfl (hb hby y1_14)
  have z1x := Fr.snoc zd z1e zl
  have z1y := z1f.wr z5 zl
  have z1z := z1g.wr z5 (own_Ix 1 rfl)
  have z20 : Arv Z z1u z2 z8 .long (16 : Int32) [(.long vc), (.long c2), (.long c3)] (.long 0) := Arv.set zp z1o zq z1p z1q z1r rfl z5 0 (by decide) (by decide : 0 < 3)
  have z21 := ((zy.other z4 (Or.inl zg)).other z5 (Or.inl z10))
  obtain ⟨z22, ze, z23, z24⟩ := getF zd hx hZ hown (host := "") (Or.inl (own_W hw 20 rfl)) Via.refl z1v z21 (g := (mkF m 16 #[.val (.ref z0), .val (.int 0), .val (.double (Jvm.FP.l2d (vx.toInt64))), .second, .val (.long vc), .second, .val (.int vs)] [(.ref z0)])) rfl rfl (hb hby y1_16)
  have z25 := ((zz.other z4 (Ne.symm zi)).other z5 (Ne.symm zj))
  obtain ⟨z26, zr, z27, zs, z28, z29, z2a⟩ := (id z25)
  have z2b : ¬ ((0 : Int32) < 0 ∨ z26.slots.size ≤ ((0 : Int32)).toNatClampNeg) := inb_of zs ⟨by decide, by decide⟩
  obtain ⟨zt, z2c, zf, z2d, z6, z2e⟩ := stI ze hx hZ z23 zr (j := (0 : Int32)) z2b (g := (mkF m 22 #[.val (.ref z0), .val (.int 0), .val (.double (Jvm.FP.l2d (vx.toInt64))), .second, .val (.long vc), .second, .val (.int vs)] [(.int vs), (.int 0), (.ref z3)])) rfl rfl (hb hby y1_22)
  have z2f := Fr.snoc zf z1x zm
  have z2k := z1y.wr z6 zm
  have z2g := z1z.wr z6 (own_Ix 2 rfl)
  have z2h : Arv Z z2c z3 z9 .int 16 [(.int vs), (.int s2), (.int s3)] (.int 0) := Arv.set zr z27 zs z28 z29 z2a rfl z6 0 (by decide) (by decide : 0 < 3)
  have z2i := ((z1h.other z5 zh).other z6 zi)
  have z2j := (z20.other z6 zj)
  obtain ⟨fs, hr, hrun, hended, hW, hsame⟩ := zf.leave (v := none) (fun _ => rfl)
  refine ⟨_, _, pre0 _ ?_, hrun, hended, _, _, rfl, ?_, ⟨_, rfl⟩, hW, hsame.mono (by decide) (by decide)⟩
  · show Steps p.tables e below (s₁.setTop (mkF m 0 #[.val (.ref z0), .val (.int 0), .val (.double (Jvm.FP.l2d (vx.toInt64))), .second, .val (.long vc), .second, .val (.int vs)] [])) _
    refine XS.aloadN X0.here hx rfl (hb hby y1_0) rfl rfl ?_
    refine z13 _ ?_
    show Steps p.tables e below (z11.setTop (mkF m 4 #[.val (.ref z0), .val (.int 0), .val (.double (Jvm.FP.l2d (vx.toInt64))), .second, .val (.long vc), .second, .val (.int vs)] [(.ref z1)])) _
    refine XS.iloadN za.here hx rfl (hb hby y1_4) rfl ?_
    refine XS.dloadN za.here hx rfl (hb hby y1_5) rfl ?_
    refine z1d _ ?_
    show Steps p.tables e below (z1a.setTop (mkF m 7 #[.val (.ref z0), .val (.int 0), .val (.double (Jvm.FP.l2d (vx.toInt64))), .second, .val (.long vc), .second, .val (.int vs)] [])) _
    refine XS.aloadN zb.here hx rfl (hb hby y1_7) rfl rfl ?_
    refine z1l _ ?_
    show Steps p.tables e below (z1j.setTop (mkF m 11 #[.val (.ref z0), .val (.int 0), .val (.double (Jvm.FP.l2d (vx.toInt64))), .second, .val (.long vc), .second, .val (.int vs)] [(.ref z2)])) _
    refine XS.iloadN zc.here hx rfl (hb hby y1_11) rfl ?_
    refine XS.lload zc.here hx rfl (hb hby y1_12) rfl ?_
    refine z1w _ ?_
    show Steps p.tables e below (z1t.setTop (mkF m 15 #[.val (.ref z0), .val (.int 0), .val (.double (Jvm.FP.l2d (vx.toInt64))), .second, .val (.long vc), .second, .val (.int vs)] [])) _
    refine XS.aloadN zd.here hx rfl (hb hby y1_15) rfl rfl ?_
    refine z24 _ ?_
    show Steps p.tables e below (z22.setTop (mkF m 19 #[.val (.ref z0), .val (.int 0), .val (.double (Jvm.FP.l2d (vx.toInt64))), .second, .val (.long vc), .second, .val (.int vs)] [(.ref z3)])) _
    refine XS.iloadN ze.here hx rfl (hb hby y1_19) rfl ?_
    refine XS.iload ze.here hx rfl (hb hby y1_20) rfl ?_
    refine z2e _ ?_
    show Steps p.tables e below (zt.setTop (mkF m 23 #[.val (.ref z0), .val (.int 0), .val (.double (Jvm.FP.l2d (vx.toInt64))), .second, .val (.long vc), .second, .val (.int vs)] [])) _
    exact zf.returnOut hx Bd.returns (hb hby y1_23) hr
  · show Q_rmP0 Z A K x1 x2 x3 c1 c2 c3 s1 s2 s3 vx vc vs z0 z1 z2 z3 z7 z8 z9 h0 n0 _ zt.heap _
    rw [z2d]
    exact ⟨rfl, z2f, z2g, z2i, z2j, z2h⟩
def Q_rmP1 (Z : State) (A : Nat → Addr) (K : Nat → ClassId) (x1 : Int32) (x2 : Int32) (x3 : Int32) (c1 : Int64) (c2 : Int64) (c3 : Int64) (s1 : Int32) (s2 : Int32) (s3 : Int32) (vx : Int32) (vc : Int64) (vs : Int32) (z6 : Addr) (z0 : Addr) (z1 : Addr) (z2 : Addr) (z3 : ClassId) (z4 : ClassId) (z5 : ClassId) (h0 : Heap) (n0 : Nat) (v : Option Value) (h : Heap) (L : List Loc) : Prop := v = none ∧ Fr n0 L ∧ Keep h0 h [z0, z1, z2] ∧ (Arv Z h z0 z3 .double (16 : Int32) [(.double (Jvm.FP.l2d (x1.toInt64))), (.double (Jvm.FP.l2d (vx.toInt64))), (.double (Jvm.FP.l2d (x3.toInt64)))] (.double (Jvm.FP.l2d ((0 : Int32).toInt64)))) ∧ (Arv Z h z1 z4 .long (16 : Int32) [(.long c1), (.long vc), (.long c3)] (.long 0)) ∧ (Arv Z h z2 z5 .int 16 [(.int s1), (.int vs), (.int s3)] (.int 0))
set_option maxRecDepth 65536 in
set_option maxHeartbeats 40000000 in
theorem rmP1 (l : Launch) (Z : State) (a0 : Array Value) (hw : ∀ d ∈ tables_1, d.before a0 Z = true) (ws : List Jvm.Cond) (h0 : Heap) (n0 : Nat) (A : Nat → Addr) (K : Nat → ClassId) (x1 : Int32) (x2 : Int32) (x3 : Int32) (c1 : Int64) (c2 : Int64) (c3 : Int64) (s1 : Int32) (s2 : Int32) (s3 : Int32) (vx : Int32) (vc : Int64) (vs : Int32)  (z0 : Addr) (z1 : Addr) (z2 : Addr) (z3 : Addr) (z7 : ClassId) (z8 : ClassId) (z9 : ClassId) (EN : own_St Z A K) (OL0 : Old Z n0 h0) (zu : Fld Z h0 z0 y_s0 "at" "[D" (.ref z1)) (zv : Arv Z h0 z1 z7 .double (16 : Int32) [(.double (Jvm.FP.l2d (x1.toInt64))), (.double (Jvm.FP.l2d (x2.toInt64))), (.double (Jvm.FP.l2d (x3.toInt64)))] (.double (Jvm.FP.l2d ((0 : Int32).toInt64)))) (zw : Fld Z h0 z0 y_s0 "added" "[J" (.ref z2)) (zx : Arv Z h0 z2 z8 .long (16 : Int32) [(.long c1), (.long c2), (.long c3)] (.long 0)) (zy : Fld Z h0 z0 y_s0 "slot" "[I" (.ref z3)) (zz : Arv Z h0 z3 z9 .int 16 [(.int s1), (.int s2), (.int s3)] (.int 0)) (zg : z0 ≠ z1) (zh : z1 ≠ z2) (z10 : z0 ≠ z2) (zi : z1 ≠ z3) (zj : z2 ≠ z3) (zk : n0 ≤ z1) (zl : n0 ≤ z2) (zm : n0 ≤ z3) :
    MetFree l own_m4 (head1 (Jvm.Cond.code own_m4 prog_48_method_11_code 7 none :: ws) (Room.mk 0 0 0 0)) (fun a U => a = #[(.ref z0), (.int 1), (.double (Jvm.FP.l2d (vx.toInt64))), (.long vc), (.int vs)] ∧ Z.Warmed39 U.vm ∧ U.heap = h0) (fun _ _ _ _ _ => True) (fun _ U o U' => ∃ v L, o = .returned v ∧ Q_rmP1 Z A K x1 x2 x3 c1 c2 c3 s1 s2 s3 vx vc vs z0 z1 z2 z3 z7 z8 z9 h0 n0 v U'.heap L ∧ FrameEnd U o U' L (Room.mk 0 0 0 0).cells (Room.mk 0 0 0 0).slots) := by
  refine MetFree.of_bodySF (plainFor_of_name own_pn0) hisR ?_
  intro p e s m args below meth c s₁ Bd hml0 hP hK
  obtain ⟨rfl, hZ, hh⟩ := hP
  have hx := Bd.exec
  have hby := Bd.bytes
  have hml : c.maxLocals = 7 := hml0
  have hown : s.vm.findClass y_s0 = some m.cls := findClass_of_methodNamed Bd.named
  have hnm := (name_of_methodNamed Bd.named Bd.method).1
  have X0 : Stand p l e (Room.mk 0 0 0 0) s m #[(.ref z0), (.int 1), (.double (Jvm.FP.l2d (vx.toInt64))), (.long vc), (.int vs)] below meth c s₁ [] 0 0 := Stand.of_body Bd
  have e0 : s₁.heap = h0 := by rw [← hh, Bd.state]; rfl
  have N0 := Fr.nil n0
  have pre0 : ∀ t, Steps p.tables e below (s₁.setTop (mkF m 0 #[.val (.ref z0), .val (.int 1), .val (.double (Jvm.FP.l2d (vx.toInt64))), .second, .val (.long vc), .second, .val (.int vs)] [])) t → Steps p.tables e below (s₁.setTop (entryFrame m #[(.ref z0), (.int 1), (.double (Jvm.FP.l2d (vx.toInt64))), (.long vc), (.int vs)] 7)) t := fun t k => castTop (by first | (simp [entryFrame, mkF, argsToLocals, Value.category, maxLocals]; done) | rfl) k
  have KK0 : Keep h0 h0 [z1, z2, z3] := Keep.refl _ _
  obtain ⟨z11, za, z12, z13⟩ := getF X0 hx hZ hown (host := "") (Or.inl (own_W hw 14 rfl)) Via.refl e0 zu (g := (mkF m 1 #[.val (.ref z0), .val (.int 1), .val (.double (Jvm.FP.l2d (vx.toInt64))), .second, .val (.long vc), .second, .val (.int vs)] [(.ref z0)])) rfl rfl (hb hby y1_1)
  obtain ⟨z14, zn, z15, zo, z16, z17, z18⟩ := (id zv)
  have z19 : ¬ ((1 : Int32) < 0 ∨ z14.slots.size ≤ ((1 : Int32)).toNatClampNeg) := inb_of zo ⟨by decide, by decide⟩
  obtain ⟨z1a, z1b, zb, z1c, z4, z1d⟩ := stD za hx hZ z12 zn (j := (1 : Int32)) z19 (g := (mkF m 6 #[.val (.ref z0), .val (.int 1), .val (.double (Jvm.FP.l2d (vx.toInt64))), .second, .val (.long vc), .second, .val (.int vs)] [(.double (Jvm.FP.l2d (vx.toInt64))), (.int 1), (.ref z1)])) rfl rfl (hb hby y1_6)
  have z1e := Fr.snoc zb N0 zk
  have z1f := OL0.wr z4 zk
  have z1g := KK0.wr z4 (own_Ix 0 rfl)
  have z1h : Arv Z z1b z1 z7 .double (16 : Int32) [(.double (Jvm.FP.l2d (x1.toInt64))), (.double (Jvm.FP.l2d (vx.toInt64))), (.double (Jvm.FP.l2d (x3.toInt64)))] (.double (Jvm.FP.l2d ((0 : Int32).toInt64))) := Arv.set zn z15 zo z16 z17 z18 rfl z4 1 (by decide) (by decide : 1 < 3)
  have z1i := (zw.other z4 (Or.inl zg))
  obtain ⟨z1j, zc, z1k, z1l⟩ := getF zb hx hZ hown (host := "") (Or.inl (own_W hw 17 rfl)) Via.refl z1c z1i (g := (mkF m 8 #[.val (.ref z0), .val (.int 1), .val (.double (Jvm.FP.l2d (vx.toInt64))), .second, .val (.long vc), .second, .val (.int vs)] [(.ref z0)])) rfl rfl (hb hby y1_8)
  have z1m := (zx.other z4 (Ne.symm zh))
  obtain ⟨z1n, zp, z1o, zq, z1p, z1q, z1r⟩ := (id z1m)
  have z1s : ¬ ((1 : Int32) < 0 ∨ z1n.slots.size ≤ ((1 : Int32)).toNatClampNeg) := inb_of zq ⟨by decide, by decide⟩
  obtain ⟨z1t, z1u, zd, z1v, z5, z1w⟩ := stJ zc hx hZ z1k zp (j := (1 : Int32)) z1s (g := (mkF m 14 #[.val (.ref z0), .val (.int 1), .val (.double (Jvm.FP.l2d (vx.toInt64))), .second, .val (.long vc), .second, .val (.int vs)] [(.long vc), (.int 1), (.ref z2)])) rfl rfl (hb hby y1_14)
  have z1x := Fr.snoc zd z1e zl
  have z1y := z1f.wr z5 zl
  have z1z := z1g.wr z5 (own_Ix 1 rfl)
  have z20 : Arv Z z1u z2 z8 .long (16 : Int32) [(.long c1), (.long vc), (.long c3)] (.long 0) := Arv.set zp z1o zq z1p z1q z1r rfl z5 1 (by decide) (by decide : 1 < 3)
  have z21 := ((zy.other z4 (Or.inl zg)).other z5 (Or.inl z10))
  obtain ⟨z22, ze, z23, z24⟩ := getF zd hx hZ hown (host := "") (Or.inl (own_W hw 20 rfl)) Via.refl z1v z21 (g := (mkF m 16 #[.val (.ref z0), .val (.int 1), .val (.double (Jvm.FP.l2d (vx.toInt64))), .second, .val (.long vc), .second, .val (.int vs)] [(.ref z0)])) rfl rfl (hb hby y1_16)
  have z25 := ((zz.other z4 (Ne.symm zi)).other z5 (Ne.symm zj))
  obtain ⟨z26, zr, z27, zs, z28, z29, z2a⟩ := (id z25)
  have z2b : ¬ ((1 : Int32) < 0 ∨ z26.slots.size ≤ ((1 : Int32)).toNatClampNeg) := inb_of zs ⟨by decide, by decide⟩
  obtain ⟨zt, z2c, zf, z2d, z6, z2e⟩ := stI ze hx hZ z23 zr (j := (1 : Int32)) z2b (g := (mkF m 22 #[.val (.ref z0), .val (.int 1), .val (.double (Jvm.FP.l2d (vx.toInt64))), .second, .val (.long vc), .second, .val (.int vs)] [(.int vs), (.int 1), (.ref z3)])) rfl rfl (hb hby y1_22)
  have z2f := Fr.snoc zf z1x zm
  have z2k := z1y.wr z6 zm
  have z2g := z1z.wr z6 (own_Ix 2 rfl)
  have z2h : Arv Z z2c z3 z9 .int 16 [(.int s1), (.int vs), (.int s3)] (.int 0) := Arv.set zr z27 zs z28 z29 z2a rfl z6 1 (by decide) (by decide : 1 < 3)
  have z2i := ((z1h.other z5 zh).other z6 zi)
  have z2j := (z20.other z6 zj)
  obtain ⟨fs, hr, hrun, hended, hW, hsame⟩ := zf.leave (v := none) (fun _ => rfl)
  refine ⟨_, _, pre0 _ ?_, hrun, hended, _, _, rfl, ?_, ⟨_, rfl⟩, hW, hsame.mono (by decide) (by decide)⟩
  · show Steps p.tables e below (s₁.setTop (mkF m 0 #[.val (.ref z0), .val (.int 1), .val (.double (Jvm.FP.l2d (vx.toInt64))), .second, .val (.long vc), .second, .val (.int vs)] [])) _
    refine XS.aloadN X0.here hx rfl (hb hby y1_0) rfl rfl ?_
    refine z13 _ ?_
    show Steps p.tables e below (z11.setTop (mkF m 4 #[.val (.ref z0), .val (.int 1), .val (.double (Jvm.FP.l2d (vx.toInt64))), .second, .val (.long vc), .second, .val (.int vs)] [(.ref z1)])) _
    refine XS.iloadN za.here hx rfl (hb hby y1_4) rfl ?_
    refine XS.dloadN za.here hx rfl (hb hby y1_5) rfl ?_
    refine z1d _ ?_
    show Steps p.tables e below (z1a.setTop (mkF m 7 #[.val (.ref z0), .val (.int 1), .val (.double (Jvm.FP.l2d (vx.toInt64))), .second, .val (.long vc), .second, .val (.int vs)] [])) _
    refine XS.aloadN zb.here hx rfl (hb hby y1_7) rfl rfl ?_
    refine z1l _ ?_
    show Steps p.tables e below (z1j.setTop (mkF m 11 #[.val (.ref z0), .val (.int 1), .val (.double (Jvm.FP.l2d (vx.toInt64))), .second, .val (.long vc), .second, .val (.int vs)] [(.ref z2)])) _
    refine XS.iloadN zc.here hx rfl (hb hby y1_11) rfl ?_
    refine XS.lload zc.here hx rfl (hb hby y1_12) rfl ?_
    refine z1w _ ?_
    show Steps p.tables e below (z1t.setTop (mkF m 15 #[.val (.ref z0), .val (.int 1), .val (.double (Jvm.FP.l2d (vx.toInt64))), .second, .val (.long vc), .second, .val (.int vs)] [])) _
    refine XS.aloadN zd.here hx rfl (hb hby y1_15) rfl rfl ?_
    refine z24 _ ?_
    show Steps p.tables e below (z22.setTop (mkF m 19 #[.val (.ref z0), .val (.int 1), .val (.double (Jvm.FP.l2d (vx.toInt64))), .second, .val (.long vc), .second, .val (.int vs)] [(.ref z3)])) _
    refine XS.iloadN ze.here hx rfl (hb hby y1_19) rfl ?_
    refine XS.iload ze.here hx rfl (hb hby y1_20) rfl ?_
    refine z2e _ ?_
    show Steps p.tables e below (zt.setTop (mkF m 23 #[.val (.ref z0), .val (.int 1), .val (.double (Jvm.FP.l2d (vx.toInt64))), .second, .val (.long vc), .second, .val (.int vs)] [])) _
    exact zf.returnOut hx Bd.returns (hb hby y1_23) hr
  · show Q_rmP1 Z A K x1 x2 x3 c1 c2 c3 s1 s2 s3 vx vc vs z0 z1 z2 z3 z7 z8 z9 h0 n0 _ zt.heap _
    rw [z2d]
    exact ⟨rfl, z2f, z2g, z2i, z2j, z2h⟩
def Q_rmP2 (Z : State) (A : Nat → Addr) (K : Nat → ClassId) (x1 : Int32) (x2 : Int32) (x3 : Int32) (c1 : Int64) (c2 : Int64) (c3 : Int64) (s1 : Int32) (s2 : Int32) (s3 : Int32) (vx : Int32) (vc : Int64) (vs : Int32) (z6 : Addr) (z0 : Addr) (z1 : Addr) (z2 : Addr) (z3 : ClassId) (z4 : ClassId) (z5 : ClassId) (h0 : Heap) (n0 : Nat) (v : Option Value) (h : Heap) (L : List Loc) : Prop := v = none ∧ Fr n0 L ∧ Keep h0 h [z0, z1, z2] ∧ (Arv Z h z0 z3 .double (16 : Int32) [(.double (Jvm.FP.l2d (x1.toInt64))), (.double (Jvm.FP.l2d (x2.toInt64))), (.double (Jvm.FP.l2d (vx.toInt64)))] (.double (Jvm.FP.l2d ((0 : Int32).toInt64)))) ∧ (Arv Z h z1 z4 .long (16 : Int32) [(.long c1), (.long c2), (.long vc)] (.long 0)) ∧ (Arv Z h z2 z5 .int 16 [(.int s1), (.int s2), (.int vs)] (.int 0))
set_option maxRecDepth 65536 in
set_option maxHeartbeats 40000000 in
theorem rmP2 (l : Launch) (Z : State) (a0 : Array Value) (hw : ∀ d ∈ tables_1, d.before a0 Z = true) (ws : List Jvm.Cond) (h0 : Heap) (n0 : Nat) (A : Nat → Addr) (K : Nat → ClassId) (x1 : Int32) (x2 : Int32) (x3 : Int32) (c1 : Int64) (c2 : Int64) (c3 : Int64) (s1 : Int32) (s2 : Int32) (s3 : Int32) (vx : Int32) (vc : Int64) (vs : Int32)  (z0 : Addr) (z1 : Addr) (z2 : Addr) (z3 : Addr) (z7 : ClassId) (z8 : ClassId) (z9 : ClassId) (EN : own_St Z A K) (OL0 : Old Z n0 h0) (zu : Fld Z h0 z0 y_s0 "at" "[D" (.ref z1)) (zv : Arv Z h0 z1 z7 .double (16 : Int32) [(.double (Jvm.FP.l2d (x1.toInt64))), (.double (Jvm.FP.l2d (x2.toInt64))), (.double (Jvm.FP.l2d (x3.toInt64)))] (.double (Jvm.FP.l2d ((0 : Int32).toInt64)))) (zw : Fld Z h0 z0 y_s0 "added" "[J" (.ref z2)) (zx : Arv Z h0 z2 z8 .long (16 : Int32) [(.long c1), (.long c2), (.long c3)] (.long 0)) (zy : Fld Z h0 z0 y_s0 "slot" "[I" (.ref z3)) (zz : Arv Z h0 z3 z9 .int 16 [(.int s1), (.int s2), (.int s3)] (.int 0)) (zg : z0 ≠ z1) (zh : z1 ≠ z2) (z10 : z0 ≠ z2) (zi : z1 ≠ z3) (zj : z2 ≠ z3) (zk : n0 ≤ z1) (zl : n0 ≤ z2) (zm : n0 ≤ z3) :
    MetFree l own_m4 (head1 (Jvm.Cond.code own_m4 prog_48_method_11_code 7 none :: ws) (Room.mk 0 0 0 0)) (fun a U => a = #[(.ref z0), (.int 2), (.double (Jvm.FP.l2d (vx.toInt64))), (.long vc), (.int vs)] ∧ Z.Warmed39 U.vm ∧ U.heap = h0) (fun _ _ _ _ _ => True) (fun _ U o U' => ∃ v L, o = .returned v ∧ Q_rmP2 Z A K x1 x2 x3 c1 c2 c3 s1 s2 s3 vx vc vs z0 z1 z2 z3 z7 z8 z9 h0 n0 v U'.heap L ∧ FrameEnd U o U' L (Room.mk 0 0 0 0).cells (Room.mk 0 0 0 0).slots) := by
  refine MetFree.of_bodySF (plainFor_of_name own_pn0) hisR ?_
  intro p e s m args below meth c s₁ Bd hml0 hP hK
  obtain ⟨rfl, hZ, hh⟩ := hP
  have hx := Bd.exec
  have hby := Bd.bytes
  have hml : c.maxLocals = 7 := hml0
  have hown : s.vm.findClass y_s0 = some m.cls := findClass_of_methodNamed Bd.named
  have hnm := (name_of_methodNamed Bd.named Bd.method).1
  have X0 : Stand p l e (Room.mk 0 0 0 0) s m #[(.ref z0), (.int 2), (.double (Jvm.FP.l2d (vx.toInt64))), (.long vc), (.int vs)] below meth c s₁ [] 0 0 := Stand.of_body Bd
  have e0 : s₁.heap = h0 := by rw [← hh, Bd.state]; rfl
  have N0 := Fr.nil n0
  have pre0 : ∀ t, Steps p.tables e below (s₁.setTop (mkF m 0 #[.val (.ref z0), .val (.int 2), .val (.double (Jvm.FP.l2d (vx.toInt64))), .second, .val (.long vc), .second, .val (.int vs)] [])) t → Steps p.tables e below (s₁.setTop (entryFrame m #[(.ref z0), (.int 2), (.double (Jvm.FP.l2d (vx.toInt64))), (.long vc), (.int vs)] 7)) t := fun t k => castTop (by first | (simp [entryFrame, mkF, argsToLocals, Value.category, maxLocals]; done) | rfl) k
  have KK0 : Keep h0 h0 [z1, z2, z3] := Keep.refl _ _
  obtain ⟨z11, za, z12, z13⟩ := getF X0 hx hZ hown (host := "") (Or.inl (own_W hw 14 rfl)) Via.refl e0 zu (g := (mkF m 1 #[.val (.ref z0), .val (.int 2), .val (.double (Jvm.FP.l2d (vx.toInt64))), .second, .val (.long vc), .second, .val (.int vs)] [(.ref z0)])) rfl rfl (hb hby y1_1)
  obtain ⟨z14, zn, z15, zo, z16, z17, z18⟩ := (id zv)
  have z19 : ¬ ((2 : Int32) < 0 ∨ z14.slots.size ≤ ((2 : Int32)).toNatClampNeg) := inb_of zo ⟨by decide, by decide⟩
  obtain ⟨z1a, z1b, zb, z1c, z4, z1d⟩ := stD za hx hZ z12 zn (j := (2 : Int32)) z19 (g := (mkF m 6 #[.val (.ref z0), .val (.int 2), .val (.double (Jvm.FP.l2d (vx.toInt64))), .second, .val (.long vc), .second, .val (.int vs)] [(.double (Jvm.FP.l2d (vx.toInt64))), (.int 2), (.ref z1)])) rfl rfl (hb hby y1_6)
  have z1e := Fr.snoc zb N0 zk
  have z1f := OL0.wr z4 zk
  have z1g := KK0.wr z4 (own_Ix 0 rfl)
  have z1h : Arv Z z1b z1 z7 .double (16 : Int32) [(.double (Jvm.FP.l2d (x1.toInt64))), (.double (Jvm.FP.l2d (x2.toInt64))), (.double (Jvm.FP.l2d (vx.toInt64)))] (.double (Jvm.FP.l2d ((0 : Int32).toInt64))) := Arv.set zn z15 zo z16 z17 z18 rfl z4 2 (by decide) (by decide : 2 < 3)
  have z1i := (zw.other z4 (Or.inl zg))
  obtain ⟨z1j, zc, z1k, z1l⟩ := getF zb hx hZ hown (host := "") (Or.inl (own_W hw 17 rfl)) Via.refl z1c z1i (g := (mkF m 8 #[.val (.ref z0), .val (.int 2), .val (.double (Jvm.FP.l2d (vx.toInt64))), .second, .val (.long vc), .second, .val (.int vs)] [(.ref z0)])) rfl rfl (hb hby y1_8)
  have z1m := (zx.other z4 (Ne.symm zh))
  obtain ⟨z1n, zp, z1o, zq, z1p, z1q, z1r⟩ := (id z1m)
  have z1s : ¬ ((2 : Int32) < 0 ∨ z1n.slots.size ≤ ((2 : Int32)).toNatClampNeg) := inb_of zq ⟨by decide, by decide⟩
  obtain ⟨z1t, z1u, zd, z1v, z5, z1w⟩ := stJ zc hx hZ z1k zp (j := (2 : Int32)) z1s (g := (mkF m 14 #[.val (.ref z0), .val (.int 2), .val (.double (Jvm.FP.l2d (vx.toInt64))), .second, .val (.long vc), .second, .val (.int vs)] [(.long vc), (.int 2), (.ref z2)])) rfl rfl (hb hby y1_14)
  have z1x := Fr.snoc zd z1e zl
  have z1y := z1f.wr z5 zl
  have z1z := z1g.wr z5 (own_Ix 1 rfl)
  have z20 : Arv Z z1u z2 z8 .long (16 : Int32) [(.long c1), (.long c2), (.long vc)] (.long 0) := Arv.set zp z1o zq z1p z1q z1r rfl z5 2 (by decide) (by decide : 2 < 3)
  have z21 := ((zy.other z4 (Or.inl zg)).other z5 (Or.inl z10))
  obtain ⟨z22, ze, z23, z24⟩ := getF zd hx hZ hown (host := "") (Or.inl (own_W hw 20 rfl)) Via.refl z1v z21 (g := (mkF m 16 #[.val (.ref z0), .val (.int 2), .val (.double (Jvm.FP.l2d (vx.toInt64))), .second, .val (.long vc), .second, .val (.int vs)] [(.ref z0)])) rfl rfl (hb hby y1_16)
  have z25 := ((zz.other z4 (Ne.symm zi)).other z5 (Ne.symm zj))
  obtain ⟨z26, zr, z27, zs, z28, z29, z2a⟩ := (id z25)
  have z2b : ¬ ((2 : Int32) < 0 ∨ z26.slots.size ≤ ((2 : Int32)).toNatClampNeg) := inb_of zs ⟨by decide, by decide⟩
  obtain ⟨zt, z2c, zf, z2d, z6, z2e⟩ := stI ze hx hZ z23 zr (j := (2 : Int32)) z2b (g := (mkF m 22 #[.val (.ref z0), .val (.int 2), .val (.double (Jvm.FP.l2d (vx.toInt64))), .second, .val (.long vc), .second, .val (.int vs)] [(.int vs), (.int 2), (.ref z3)])) rfl rfl (hb hby y1_22)
  have z2f := Fr.snoc zf z1x zm
  have z2k := z1y.wr z6 zm
  have z2g := z1z.wr z6 (own_Ix 2 rfl)
  have z2h : Arv Z z2c z3 z9 .int 16 [(.int s1), (.int s2), (.int vs)] (.int 0) := Arv.set zr z27 zs z28 z29 z2a rfl z6 2 (by decide) (by decide : 2 < 3)
  have z2i := ((z1h.other z5 zh).other z6 zi)
  have z2j := (z20.other z6 zj)
  obtain ⟨fs, hr, hrun, hended, hW, hsame⟩ := zf.leave (v := none) (fun _ => rfl)
  refine ⟨_, _, pre0 _ ?_, hrun, hended, _, _, rfl, ?_, ⟨_, rfl⟩, hW, hsame.mono (by decide) (by decide)⟩
  · show Steps p.tables e below (s₁.setTop (mkF m 0 #[.val (.ref z0), .val (.int 2), .val (.double (Jvm.FP.l2d (vx.toInt64))), .second, .val (.long vc), .second, .val (.int vs)] [])) _
    refine XS.aloadN X0.here hx rfl (hb hby y1_0) rfl rfl ?_
    refine z13 _ ?_
    show Steps p.tables e below (z11.setTop (mkF m 4 #[.val (.ref z0), .val (.int 2), .val (.double (Jvm.FP.l2d (vx.toInt64))), .second, .val (.long vc), .second, .val (.int vs)] [(.ref z1)])) _
    refine XS.iloadN za.here hx rfl (hb hby y1_4) rfl ?_
    refine XS.dloadN za.here hx rfl (hb hby y1_5) rfl ?_
    refine z1d _ ?_
    show Steps p.tables e below (z1a.setTop (mkF m 7 #[.val (.ref z0), .val (.int 2), .val (.double (Jvm.FP.l2d (vx.toInt64))), .second, .val (.long vc), .second, .val (.int vs)] [])) _
    refine XS.aloadN zb.here hx rfl (hb hby y1_7) rfl rfl ?_
    refine z1l _ ?_
    show Steps p.tables e below (z1j.setTop (mkF m 11 #[.val (.ref z0), .val (.int 2), .val (.double (Jvm.FP.l2d (vx.toInt64))), .second, .val (.long vc), .second, .val (.int vs)] [(.ref z2)])) _
    refine XS.iloadN zc.here hx rfl (hb hby y1_11) rfl ?_
    refine XS.lload zc.here hx rfl (hb hby y1_12) rfl ?_
    refine z1w _ ?_
    show Steps p.tables e below (z1t.setTop (mkF m 15 #[.val (.ref z0), .val (.int 2), .val (.double (Jvm.FP.l2d (vx.toInt64))), .second, .val (.long vc), .second, .val (.int vs)] [])) _
    refine XS.aloadN zd.here hx rfl (hb hby y1_15) rfl rfl ?_
    refine z24 _ ?_
    show Steps p.tables e below (z22.setTop (mkF m 19 #[.val (.ref z0), .val (.int 2), .val (.double (Jvm.FP.l2d (vx.toInt64))), .second, .val (.long vc), .second, .val (.int vs)] [(.ref z3)])) _
    refine XS.iloadN ze.here hx rfl (hb hby y1_19) rfl ?_
    refine XS.iload ze.here hx rfl (hb hby y1_20) rfl ?_
    refine z2e _ ?_
    show Steps p.tables e below (zt.setTop (mkF m 23 #[.val (.ref z0), .val (.int 2), .val (.double (Jvm.FP.l2d (vx.toInt64))), .second, .val (.long vc), .second, .val (.int vs)] [])) _
    exact zf.returnOut hx Bd.returns (hb hby y1_23) hr
  · show Q_rmP2 Z A K x1 x2 x3 c1 c2 c3 s1 s2 s3 vx vc vs z0 z1 z2 z3 z7 z8 z9 h0 n0 _ zt.heap _
    rw [z2d]
    exact ⟨rfl, z2f, z2g, z2i, z2j, z2h⟩
def Q_rmM01 (Z : State) (A : Nat → Addr) (K : Nat → ClassId) (x1 : Int32) (x2 : Int32) (x3 : Int32) (c1 : Int64) (c2 : Int64) (c3 : Int64) (s1 : Int32) (s2 : Int32) (s3 : Int32) (z6 : Addr) (z0 : Addr) (z1 : Addr) (z2 : Addr) (z3 : ClassId) (z4 : ClassId) (z5 : ClassId) (h0 : Heap) (n0 : Nat) (v : Option Value) (h : Heap) (L : List Loc) : Prop := v = none ∧ Fr n0 L ∧ Keep h0 h [z2, z1, z0] ∧ (Arv Z h z0 z3 .double (16 : Int32) [(.double (Jvm.FP.l2d (x1.toInt64))), (.double (Jvm.FP.l2d (x1.toInt64))), (.double (Jvm.FP.l2d (x3.toInt64)))] (.double (Jvm.FP.l2d ((0 : Int32).toInt64)))) ∧ (Arv Z h z1 z4 .long (16 : Int32) [(.long c1), (.long c1), (.long c3)] (.long 0)) ∧ (Arv Z h z2 z5 .int 16 [(.int s1), (.int s1), (.int s3)] (.int 0))
theorem y2_0 : decode prog_48_method_10_code 0 = .ok (.aload_n 0, 1) := by decide +kernel
theorem y2_1 : decode prog_48_method_10_code 1 = .ok (.iload_n 2, 1) := by decide +kernel
theorem y2_2 : decode prog_48_method_10_code 2 = .ok (.aload_n 0, 1) := by decide +kernel
theorem y2_3 : decode prog_48_method_10_code 3 = .ok (.getfield 9, 3) := by decide +kernel
theorem y2_6 : decode prog_48_method_10_code 6 = .ok (.iload_n 1, 1) := by decide +kernel
theorem y2_7 : decode prog_48_method_10_code 7 = .ok (.daload, 1) := by decide +kernel
theorem y2_8 : decode prog_48_method_10_code 8 = .ok (.aload_n 0, 1) := by decide +kernel
theorem y2_9 : decode prog_48_method_10_code 9 = .ok (.getfield 15, 3) := by decide +kernel
theorem y2_12 : decode prog_48_method_10_code 12 = .ok (.iload_n 1, 1) := by decide +kernel
theorem y2_13 : decode prog_48_method_10_code 13 = .ok (.laload, 1) := by decide +kernel
theorem y2_14 : decode prog_48_method_10_code 14 = .ok (.aload_n 0, 1) := by decide +kernel
theorem y2_15 : decode prog_48_method_10_code 15 = .ok (.getfield 19, 3) := by decide +kernel
theorem y2_18 : decode prog_48_method_10_code 18 = .ok (.iload_n 1, 1) := by decide +kernel
theorem y2_19 : decode prog_48_method_10_code 19 = .ok (.iaload, 1) := by decide +kernel
theorem y2_20 : decode prog_48_method_10_code 20 = .ok (.invokevirtual 55, 3) := by decide +kernel
theorem y2_23 : decode prog_48_method_10_code 23 = .ok (.return_, 1) := by decide +kernel
set_option maxRecDepth 65536 in
set_option maxHeartbeats 40000000 in
theorem rmM01 (l : Launch) (Z : State) (a0 : Array Value) (hw : ∀ d ∈ tables_1, d.before a0 Z = true) (ws : List Jvm.Cond) (h0 : Heap) (n0 : Nat) (A : Nat → Addr) (K : Nat → ClassId) (x1 : Int32) (x2 : Int32) (x3 : Int32) (c1 : Int64) (c2 : Int64) (c3 : Int64) (s1 : Int32) (s2 : Int32) (s3 : Int32)  (z0 : Addr) (z1 : Addr) (z2 : Addr) (z3 : Addr) (z5 : ClassId) (z6 : ClassId) (z7 : ClassId) (EN : own_St Z A K) (OL0 : Old Z n0 h0) (zf : Fld Z h0 z0 y_s0 "at" "[D" (.ref z1)) (zg : Arv Z h0 z1 z5 .double (16 : Int32) [(.double (Jvm.FP.l2d (x1.toInt64))), (.double (Jvm.FP.l2d (x2.toInt64))), (.double (Jvm.FP.l2d (x3.toInt64)))] (.double (Jvm.FP.l2d ((0 : Int32).toInt64)))) (zh : Fld Z h0 z0 y_s0 "added" "[J" (.ref z2)) (zi : Arv Z h0 z2 z6 .long (16 : Int32) [(.long c1), (.long c2), (.long c3)] (.long 0)) (zj : Fld Z h0 z0 y_s0 "slot" "[I" (.ref z3)) (zk : Arv Z h0 z3 z7 .int 16 [(.int s1), (.int s2), (.int s3)] (.int 0)) (z13 : Exa Z h0 z0 y_s0) (z14 : z0 ≠ z1) (z15 : z1 ≠ z2) (z16 : z0 ≠ z2) (z17 : z1 ≠ z3) (z18 : z2 ≠ z3) (zl : n0 ≤ z1) (zm : n0 ≤ z2) (zn : n0 ≤ z3) :
    MetFree l own_m6 (head1 (Jvm.Cond.code own_m6 prog_48_method_10_code 3 none :: ws) (Room.mk 1 0 0 18)) (fun a U => a = #[(.ref z0), (.int 0), (.int 1)] ∧ Z.Warmed39 U.vm ∧ U.heap = h0) (fun _ _ _ _ _ => True) (fun _ U o U' => ∃ v L, o = .returned v ∧ Q_rmM01 Z A K x1 x2 x3 c1 c2 c3 s1 s2 s3 z0 z1 z2 z3 z5 z6 z7 h0 n0 v U'.heap L ∧ FrameEnd U o U' L (Room.mk 1 0 0 18).cells (Room.mk 1 0 0 18).slots) := by
  refine MetFree.of_bodySF (plainFor_of_name own_pn0) hisR ?_
  intro p e s m args below meth c s₁ Bd hml0 hP hK
  obtain ⟨rfl, hZ, hh⟩ := hP
  have hx := Bd.exec
  have hby := Bd.bytes
  have hml : c.maxLocals = 3 := hml0
  have hown : s.vm.findClass y_s0 = some m.cls := findClass_of_methodNamed Bd.named
  have hnm := (name_of_methodNamed Bd.named Bd.method).1
  have X0 : Stand p l e (Room.mk 1 0 0 18) s m #[(.ref z0), (.int 0), (.int 1)] below meth c s₁ [] 0 0 := Stand.of_body Bd
  have e0 : s₁.heap = h0 := by rw [← hh, Bd.state]; rfl
  have N0 := Fr.nil n0
  have pre0 : ∀ t, Steps p.tables e below (s₁.setTop (mkF m 0 #[.val (.ref z0), .val (.int 0), .val (.int 1)] [])) t → Steps p.tables e below (s₁.setTop (entryFrame m #[(.ref z0), (.int 0), (.int 1)] 3)) t := fun t k => castTop (by first | (simp [entryFrame, mkF, argsToLocals, Value.category, maxLocals]; done) | rfl) k
  have KK0 : Keep h0 h0 [z3, z2, z1] := Keep.refl _ _
  obtain ⟨zo, z8, zp, z19⟩ := getF X0 hx hZ hown (host := "") (Or.inl (own_W hw 14 rfl)) Via.refl e0 zf (g := (mkF m 3 #[.val (.ref z0), .val (.int 0), .val (.int 1)] [(.ref z0), (.int 1), (.ref z0)])) rfl rfl (hb hby y2_3)
  obtain ⟨zq, za, z1s, z1a, z1t, z1b, z1u⟩ := (id zg)
  have zr : ¬ ((0 : Int32) < 0 ∨ zq.slots.size ≤ ((0 : Int32)).toNatClampNeg) := inb_of z1a ⟨by decide, by decide⟩
  have z1c : zq.slots[((0 : Int32)).toNatClampNeg]? = some (.double (Jvm.FP.l2d (x1.toInt64))) := Has.at z1b zr rfl
  obtain ⟨zs, z9, zt, z1d⟩ := getF z8 hx hZ hown (host := "") (Or.inl (own_W hw 17 rfl)) Via.refl zp zh (g := (mkF m 9 #[.val (.ref z0), .val (.int 0), .val (.int 1)] [(.ref z0), (.double (Jvm.FP.l2d (x1.toInt64))), (.int 1), (.ref z0)])) rfl rfl (hb hby y2_9)
  obtain ⟨zu, zb, z1v, z1e, z1w, z1f, z1x⟩ := (id zi)
  have zv : ¬ ((0 : Int32) < 0 ∨ zu.slots.size ≤ ((0 : Int32)).toNatClampNeg) := inb_of z1e ⟨by decide, by decide⟩
  have z1g : zu.slots[((0 : Int32)).toNatClampNeg]? = some (.long c1) := Has.at z1f zv rfl
  obtain ⟨zw, zc, zd, z1h⟩ := getF z9 hx hZ hown (host := "") (Or.inl (own_W hw 20 rfl)) Via.refl zt zj (g := (mkF m 15 #[.val (.ref z0), .val (.int 0), .val (.int 1)] [(.ref z0), (.long c1), (.double (Jvm.FP.l2d (x1.toInt64))), (.int 1), (.ref z0)])) rfl rfl (hb hby y2_15)
  obtain ⟨zx, ze, z1y, z1i, z1z, z1j, z20⟩ := (id zk)
  have zy : ¬ ((0 : Int32) < 0 ∨ zx.slots.size ≤ ((0 : Int32)).toNatClampNeg) := inb_of z1i ⟨by decide, by decide⟩
  have z1k : zx.slots[((0 : Int32)).toNatClampNeg]? = some (.int s1) := Has.at z1j zy rfl
  obtain ⟨cq58, z1l, q58'⟩ := z13.cell
  obtain ⟨_, _, ⟨zz, L58, z21, n58⟩, -, z4, ⟨Lc58, z10, l58, y58, z58⟩, z11⟩ := zc.privateBack hx (y := own_m4) hown (mvT hZ (own_W hw 45 rfl)) (mvT hZ (own_W hw 46 rfl)) (own_selpS (y := own_m4) (mvT hZ (own_W hw 39 rfl)) rfl (mvP (args := #[]) hZ (own_W hw 47 rfl)) (mvT hZ (own_W hw 46 rfl)) (by decide)) (Cond.privateMethod_at (mvP hZ (own_W hw 47 rfl) (args := #[]))) (mvT hZ (own_W hw 48 rfl)) (by decide) (backOf (W := 0) (rmP1 l Z a0 hw [] h0 n0 A K x1 x2 x3 c1 c2 c3 s1 s2 s3 x1 c1 s1 z0 z1 z2 z3 z5 z6 z7 EN OL0 zf zg zh zi zj zk z14 z15 z16 z17 z18 zl zm zn) hZ (own_W hw 48 rfl) (own_W hw 6 rfl) (by decide) (by decide)) (g := (mkF m 20 #[.val (.ref z0), .val (.int 0), .val (.int 1)] [(.int s1), (.long c1), (.double (Jvm.FP.l2d (x1.toInt64))), (.int 1), (.ref z0)])) rfl (by rw [hml]; rfl) (Steps.refl _) (a := z0) (by rw [zd]; exact z1l) q58' (argsL := [(.int 1), (.double (Jvm.FP.l2d (x1.toInt64))), (.long c1), (.int s1)]) (rest := []) (lenOf own_pd0 rfl) rfl (by show 2 * 0 + _ ≤ _; exact Nat.le_of_eq rfl) (hb hby y2_20) (fun _ _ => ⟨rfl, zd, (by decide : 0 + 0 ≤ _), (by decide : 0 + 0 ≤ _)⟩)
  dsimp only [Pt.U, Pt.locs, Pt.cells, Pt.slots] at z4 l58 y58 z58 z11 z10
  replace z4 := own_sub z4 l58 y58 z58
  obtain ⟨rfl, z1m, z12, z1n, z1o, z1p⟩ := z10
  have z1q := Fr.app N0 z1m
  have z22 := OL0.keep z12 (allS zl (allS zm (allS zn all0)))
  have z1r := KK0.trans z12 (allS (own_Ix 2 rfl) (allS (own_Ix 1 rfl) (allS (own_Ix 0 rfl) all0)))
  obtain ⟨fs, hr, hrun, hended, hW, hsame⟩ := z4.leave (v := none) (fun _ => rfl)
  refine ⟨_, _, pre0 _ ?_, hrun, hended, _, _, rfl, ?_, ⟨_, rfl⟩, hW, hsame.mono (by decide) (by decide)⟩
  · show Steps p.tables e below (s₁.setTop (mkF m 0 #[.val (.ref z0), .val (.int 0), .val (.int 1)] [])) _
    refine XS.aloadN X0.here hx rfl (hb hby y2_0) rfl rfl ?_
    refine XS.iloadN X0.here hx rfl (hb hby y2_1) rfl ?_
    refine XS.aloadN X0.here hx rfl (hb hby y2_2) rfl rfl ?_
    refine z19 _ ?_
    show Steps p.tables e below (zo.setTop (mkF m 6 #[.val (.ref z0), .val (.int 0), .val (.int 1)] [(.ref z1), (.int 1), (.ref z0)])) _
    refine XS.iloadN z8.here hx rfl (hb hby y2_6) rfl ?_
    refine z8.daload hx (j := (0 : Int32)) (v := (.double (Jvm.FP.l2d (x1.toInt64)))) (by rw [zp]; exact za.1) (State.isArrayOf_alike hZ.alike za.2.1) za.2.2 zr z1c (g := (mkF m 7 #[.val (.ref z0), .val (.int 0), .val (.int 1)] [(.int 0), (.ref z1), (.int 1), (.ref z0)])) rfl rfl (hb hby y2_7) _ ?_
    show Steps p.tables e below (zo.setTop (mkF m 8 #[.val (.ref z0), .val (.int 0), .val (.int 1)] [(.double (Jvm.FP.l2d (x1.toInt64))), (.int 1), (.ref z0)])) _
    refine XS.aloadN z8.here hx rfl (hb hby y2_8) rfl rfl ?_
    refine z1d _ ?_
    show Steps p.tables e below (zs.setTop (mkF m 12 #[.val (.ref z0), .val (.int 0), .val (.int 1)] [(.ref z2), (.double (Jvm.FP.l2d (x1.toInt64))), (.int 1), (.ref z0)])) _
    refine XS.iloadN z9.here hx rfl (hb hby y2_12) rfl ?_
    refine z9.laload hx (j := (0 : Int32)) (v := (.long c1)) (by rw [zt]; exact zb.1) (State.isArrayOf_alike hZ.alike zb.2.1) zb.2.2 zv z1g (g := (mkF m 13 #[.val (.ref z0), .val (.int 0), .val (.int 1)] [(.int 0), (.ref z2), (.double (Jvm.FP.l2d (x1.toInt64))), (.int 1), (.ref z0)])) rfl rfl (hb hby y2_13) _ ?_
    show Steps p.tables e below (zs.setTop (mkF m 14 #[.val (.ref z0), .val (.int 0), .val (.int 1)] [(.long c1), (.double (Jvm.FP.l2d (x1.toInt64))), (.int 1), (.ref z0)])) _
    refine XS.aloadN z9.here hx rfl (hb hby y2_14) rfl rfl ?_
    refine z1h _ ?_
    show Steps p.tables e below (zw.setTop (mkF m 18 #[.val (.ref z0), .val (.int 0), .val (.int 1)] [(.ref z3), (.long c1), (.double (Jvm.FP.l2d (x1.toInt64))), (.int 1), (.ref z0)])) _
    refine XS.iloadN zc.here hx rfl (hb hby y2_18) rfl ?_
    refine zc.iaload hx (j := (0 : Int32)) (v := (.int s1)) (by rw [zd]; exact ze.1) (State.isArrayOf_alike hZ.alike ze.2.1) ze.2.2 zy z1k (g := (mkF m 19 #[.val (.ref z0), .val (.int 0), .val (.int 1)] [(.int 0), (.ref z3), (.long c1), (.double (Jvm.FP.l2d (x1.toInt64))), (.int 1), (.ref z0)])) rfl rfl (hb hby y2_19) _ ?_
    show Steps p.tables e below (zw.setTop (mkF m 20 #[.val (.ref z0), .val (.int 0), .val (.int 1)] [(.int s1), (.long c1), (.double (Jvm.FP.l2d (x1.toInt64))), (.int 1), (.ref z0)])) _
    refine z11.trans ?_
    show Steps p.tables e below (zz.setTop (mkF m 23 #[.val (.ref z0), .val (.int 0), .val (.int 1)] [])) _
    exact z4.returnOut hx Bd.returns (hb hby y2_23) hr
  · show Q_rmM01 Z A K x1 x2 x3 c1 c2 c3 s1 s2 s3 z0 z1 z2 z3 z5 z6 z7 h0 n0 _ zz.heap _
    exact ⟨rfl, z1q, z1r, z1n, z1o, z1p⟩
def Q_rmM02 (Z : State) (A : Nat → Addr) (K : Nat → ClassId) (x1 : Int32) (x2 : Int32) (x3 : Int32) (c1 : Int64) (c2 : Int64) (c3 : Int64) (s1 : Int32) (s2 : Int32) (s3 : Int32) (z6 : Addr) (z0 : Addr) (z1 : Addr) (z2 : Addr) (z3 : ClassId) (z4 : ClassId) (z5 : ClassId) (h0 : Heap) (n0 : Nat) (v : Option Value) (h : Heap) (L : List Loc) : Prop := v = none ∧ Fr n0 L ∧ Keep h0 h [z2, z1, z0] ∧ (Arv Z h z0 z3 .double (16 : Int32) [(.double (Jvm.FP.l2d (x1.toInt64))), (.double (Jvm.FP.l2d (x2.toInt64))), (.double (Jvm.FP.l2d (x1.toInt64)))] (.double (Jvm.FP.l2d ((0 : Int32).toInt64)))) ∧ (Arv Z h z1 z4 .long (16 : Int32) [(.long c1), (.long c2), (.long c1)] (.long 0)) ∧ (Arv Z h z2 z5 .int 16 [(.int s1), (.int s2), (.int s1)] (.int 0))
set_option maxRecDepth 65536 in
set_option maxHeartbeats 40000000 in
theorem rmM02 (l : Launch) (Z : State) (a0 : Array Value) (hw : ∀ d ∈ tables_1, d.before a0 Z = true) (ws : List Jvm.Cond) (h0 : Heap) (n0 : Nat) (A : Nat → Addr) (K : Nat → ClassId) (x1 : Int32) (x2 : Int32) (x3 : Int32) (c1 : Int64) (c2 : Int64) (c3 : Int64) (s1 : Int32) (s2 : Int32) (s3 : Int32)  (z0 : Addr) (z1 : Addr) (z2 : Addr) (z3 : Addr) (z5 : ClassId) (z6 : ClassId) (z7 : ClassId) (EN : own_St Z A K) (OL0 : Old Z n0 h0) (zf : Fld Z h0 z0 y_s0 "at" "[D" (.ref z1)) (zg : Arv Z h0 z1 z5 .double (16 : Int32) [(.double (Jvm.FP.l2d (x1.toInt64))), (.double (Jvm.FP.l2d (x2.toInt64))), (.double (Jvm.FP.l2d (x3.toInt64)))] (.double (Jvm.FP.l2d ((0 : Int32).toInt64)))) (zh : Fld Z h0 z0 y_s0 "added" "[J" (.ref z2)) (zi : Arv Z h0 z2 z6 .long (16 : Int32) [(.long c1), (.long c2), (.long c3)] (.long 0)) (zj : Fld Z h0 z0 y_s0 "slot" "[I" (.ref z3)) (zk : Arv Z h0 z3 z7 .int 16 [(.int s1), (.int s2), (.int s3)] (.int 0)) (z13 : Exa Z h0 z0 y_s0) (z14 : z0 ≠ z1) (z15 : z1 ≠ z2) (z16 : z0 ≠ z2) (z17 : z1 ≠ z3) (z18 : z2 ≠ z3) (zl : n0 ≤ z1) (zm : n0 ≤ z2) (zn : n0 ≤ z3) :
    MetFree l own_m6 (head1 (Jvm.Cond.code own_m6 prog_48_method_10_code 3 none :: ws) (Room.mk 1 0 0 18)) (fun a U => a = #[(.ref z0), (.int 0), (.int 2)] ∧ Z.Warmed39 U.vm ∧ U.heap = h0) (fun _ _ _ _ _ => True) (fun _ U o U' => ∃ v L, o = .returned v ∧ Q_rmM02 Z A K x1 x2 x3 c1 c2 c3 s1 s2 s3 z0 z1 z2 z3 z5 z6 z7 h0 n0 v U'.heap L ∧ FrameEnd U o U' L (Room.mk 1 0 0 18).cells (Room.mk 1 0 0 18).slots) := by
  refine MetFree.of_bodySF (plainFor_of_name own_pn0) hisR ?_
  intro p e s m args below meth c s₁ Bd hml0 hP hK
  obtain ⟨rfl, hZ, hh⟩ := hP
  have hx := Bd.exec
  have hby := Bd.bytes
  have hml : c.maxLocals = 3 := hml0
  have hown : s.vm.findClass y_s0 = some m.cls := findClass_of_methodNamed Bd.named
  have hnm := (name_of_methodNamed Bd.named Bd.method).1
  have X0 : Stand p l e (Room.mk 1 0 0 18) s m #[(.ref z0), (.int 0), (.int 2)] below meth c s₁ [] 0 0 := Stand.of_body Bd
  have e0 : s₁.heap = h0 := by rw [← hh, Bd.state]; rfl
  have N0 := Fr.nil n0
  have pre0 : ∀ t, Steps p.tables e below (s₁.setTop (mkF m 0 #[.val (.ref z0), .val (.int 0), .val (.int 2)] [])) t → Steps p.tables e below (s₁.setTop (entryFrame m #[(.ref z0), (.int 0), (.int 2)] 3)) t := fun t k => castTop (by first | (simp [entryFrame, mkF, argsToLocals, Value.category, maxLocals]; done) | rfl) k
  have KK0 : Keep h0 h0 [z3, z2, z1] := Keep.refl _ _
  obtain ⟨zo, z8, zp, z19⟩ := getF X0 hx hZ hown (host := "") (Or.inl (own_W hw 14 rfl)) Via.refl e0 zf (g := (mkF m 3 #[.val (.ref z0), .val (.int 0), .val (.int 2)] [(.ref z0), (.int 2), (.ref z0)])) rfl rfl (hb hby y2_3)
  obtain ⟨zq, za, z1s, z1a, z1t, z1b, z1u⟩ := (id zg)
  have zr : ¬ ((0 : Int32) < 0 ∨ zq.slots.size ≤ ((0 : Int32)).toNatClampNeg) := inb_of z1a ⟨by decide, by decide⟩
  have z1c : zq.slots[((0 : Int32)).toNatClampNeg]? = some (.double (Jvm.FP.l2d (x1.toInt64))) := Has.at z1b zr rfl
  obtain ⟨zs, z9, zt, z1d⟩ := getF z8 hx hZ hown (host := "") (Or.inl (own_W hw 17 rfl)) Via.refl zp zh (g := (mkF m 9 #[.val (.ref z0), .val (.int 0), .val (.int 2)] [(.ref z0), (.double (Jvm.FP.l2d (x1.toInt64))), (.int 2), (.ref z0)])) rfl rfl (hb hby y2_9)
  obtain ⟨zu, zb, z1v, z1e, z1w, z1f, z1x⟩ := (id zi)
  have zv : ¬ ((0 : Int32) < 0 ∨ zu.slots.size ≤ ((0 : Int32)).toNatClampNeg) := inb_of z1e ⟨by decide, by decide⟩
  have z1g : zu.slots[((0 : Int32)).toNatClampNeg]? = some (.long c1) := Has.at z1f zv rfl
  obtain ⟨zw, zc, zd, z1h⟩ := getF z9 hx hZ hown (host := "") (Or.inl (own_W hw 20 rfl)) Via.refl zt zj (g := (mkF m 15 #[.val (.ref z0), .val (.int 0), .val (.int 2)] [(.ref z0), (.long c1), (.double (Jvm.FP.l2d (x1.toInt64))), (.int 2), (.ref z0)])) rfl rfl (hb hby y2_15)
  obtain ⟨zx, ze, z1y, z1i, z1z, z1j, z20⟩ := (id zk)
  have zy : ¬ ((0 : Int32) < 0 ∨ zx.slots.size ≤ ((0 : Int32)).toNatClampNeg) := inb_of z1i ⟨by decide, by decide⟩
  have z1k : zx.slots[((0 : Int32)).toNatClampNeg]? = some (.int s1) := Has.at z1j zy rfl
  obtain ⟨cq65, z1l, q65'⟩ := z13.cell
  obtain ⟨_, _, ⟨zz, L65, z21, n65⟩, -, z4, ⟨Lc65, z10, l65, y65, z65⟩, z11⟩ := zc.privateBack hx (y := own_m4) hown (mvT hZ (own_W hw 45 rfl)) (mvT hZ (own_W hw 46 rfl)) (own_selpS (y := own_m4) (mvT hZ (own_W hw 39 rfl)) rfl (mvP (args := #[]) hZ (own_W hw 47 rfl)) (mvT hZ (own_W hw 46 rfl)) (by decide)) (Cond.privateMethod_at (mvP hZ (own_W hw 47 rfl) (args := #[]))) (mvT hZ (own_W hw 48 rfl)) (by decide) (backOf (W := 0) (rmP2 l Z a0 hw [] h0 n0 A K x1 x2 x3 c1 c2 c3 s1 s2 s3 x1 c1 s1 z0 z1 z2 z3 z5 z6 z7 EN OL0 zf zg zh zi zj zk z14 z15 z16 z17 z18 zl zm zn) hZ (own_W hw 48 rfl) (own_W hw 6 rfl) (by decide) (by decide)) (g := (mkF m 20 #[.val (.ref z0), .val (.int 0), .val (.int 2)] [(.int s1), (.long c1), (.double (Jvm.FP.l2d (x1.toInt64))), (.int 2), (.ref z0)])) rfl (by rw [hml]; rfl) (Steps.refl _) (a := z0) (by rw [zd]; exact z1l) q65' (argsL := [(.int 2), (.double (Jvm.FP.l2d (x1.toInt64))), (.long c1), (.int s1)]) (rest := []) (lenOf own_pd0 rfl) rfl (by show 2 * 0 + _ ≤ _; exact Nat.le_of_eq rfl) (hb hby y2_20) (fun _ _ => ⟨rfl, zd, (by decide : 0 + 0 ≤ _), (by decide : 0 + 0 ≤ _)⟩)
  dsimp only [Pt.U, Pt.locs, Pt.cells, Pt.slots] at z4 l65 y65 z65 z11 z10
  replace z4 := own_sub z4 l65 y65 z65
  obtain ⟨rfl, z1m, z12, z1n, z1o, z1p⟩ := z10
  have z1q := Fr.app N0 z1m
  have z22 := OL0.keep z12 (allS zl (allS zm (allS zn all0)))
  have z1r := KK0.trans z12 (allS (own_Ix 2 rfl) (allS (own_Ix 1 rfl) (allS (own_Ix 0 rfl) all0)))
  obtain ⟨fs, hr, hrun, hended, hW, hsame⟩ := z4.leave (v := none) (fun _ => rfl)
  refine ⟨_, _, pre0 _ ?_, hrun, hended, _, _, rfl, ?_, ⟨_, rfl⟩, hW, hsame.mono (by decide) (by decide)⟩
  · show Steps p.tables e below (s₁.setTop (mkF m 0 #[.val (.ref z0), .val (.int 0), .val (.int 2)] [])) _
    refine XS.aloadN X0.here hx rfl (hb hby y2_0) rfl rfl ?_
    refine XS.iloadN X0.here hx rfl (hb hby y2_1) rfl ?_
    refine XS.aloadN X0.here hx rfl (hb hby y2_2) rfl rfl ?_
    refine z19 _ ?_
    show Steps p.tables e below (zo.setTop (mkF m 6 #[.val (.ref z0), .val (.int 0), .val (.int 2)] [(.ref z1), (.int 2), (.ref z0)])) _
    refine XS.iloadN z8.here hx rfl (hb hby y2_6) rfl ?_
    refine z8.daload hx (j := (0 : Int32)) (v := (.double (Jvm.FP.l2d (x1.toInt64)))) (by rw [zp]; exact za.1) (State.isArrayOf_alike hZ.alike za.2.1) za.2.2 zr z1c (g := (mkF m 7 #[.val (.ref z0), .val (.int 0), .val (.int 2)] [(.int 0), (.ref z1), (.int 2), (.ref z0)])) rfl rfl (hb hby y2_7) _ ?_
    show Steps p.tables e below (zo.setTop (mkF m 8 #[.val (.ref z0), .val (.int 0), .val (.int 2)] [(.double (Jvm.FP.l2d (x1.toInt64))), (.int 2), (.ref z0)])) _
    refine XS.aloadN z8.here hx rfl (hb hby y2_8) rfl rfl ?_
    refine z1d _ ?_
    show Steps p.tables e below (zs.setTop (mkF m 12 #[.val (.ref z0), .val (.int 0), .val (.int 2)] [(.ref z2), (.double (Jvm.FP.l2d (x1.toInt64))), (.int 2), (.ref z0)])) _
    refine XS.iloadN z9.here hx rfl (hb hby y2_12) rfl ?_
    refine z9.laload hx (j := (0 : Int32)) (v := (.long c1)) (by rw [zt]; exact zb.1) (State.isArrayOf_alike hZ.alike zb.2.1) zb.2.2 zv z1g (g := (mkF m 13 #[.val (.ref z0), .val (.int 0), .val (.int 2)] [(.int 0), (.ref z2), (.double (Jvm.FP.l2d (x1.toInt64))), (.int 2), (.ref z0)])) rfl rfl (hb hby y2_13) _ ?_
    show Steps p.tables e below (zs.setTop (mkF m 14 #[.val (.ref z0), .val (.int 0), .val (.int 2)] [(.long c1), (.double (Jvm.FP.l2d (x1.toInt64))), (.int 2), (.ref z0)])) _
    refine XS.aloadN z9.here hx rfl (hb hby y2_14) rfl rfl ?_
    refine z1h _ ?_
    show Steps p.tables e below (zw.setTop (mkF m 18 #[.val (.ref z0), .val (.int 0), .val (.int 2)] [(.ref z3), (.long c1), (.double (Jvm.FP.l2d (x1.toInt64))), (.int 2), (.ref z0)])) _
    refine XS.iloadN zc.here hx rfl (hb hby y2_18) rfl ?_
    refine zc.iaload hx (j := (0 : Int32)) (v := (.int s1)) (by rw [zd]; exact ze.1) (State.isArrayOf_alike hZ.alike ze.2.1) ze.2.2 zy z1k (g := (mkF m 19 #[.val (.ref z0), .val (.int 0), .val (.int 2)] [(.int 0), (.ref z3), (.long c1), (.double (Jvm.FP.l2d (x1.toInt64))), (.int 2), (.ref z0)])) rfl rfl (hb hby y2_19) _ ?_
    show Steps p.tables e below (zw.setTop (mkF m 20 #[.val (.ref z0), .val (.int 0), .val (.int 2)] [(.int s1), (.long c1), (.double (Jvm.FP.l2d (x1.toInt64))), (.int 2), (.ref z0)])) _
    refine z11.trans ?_
    show Steps p.tables e below (zz.setTop (mkF m 23 #[.val (.ref z0), .val (.int 0), .val (.int 2)] [])) _
    exact z4.returnOut hx Bd.returns (hb hby y2_23) hr
  · show Q_rmM02 Z A K x1 x2 x3 c1 c2 c3 s1 s2 s3 z0 z1 z2 z3 z5 z6 z7 h0 n0 _ zz.heap _
    exact ⟨rfl, z1q, z1r, z1n, z1o, z1p⟩
def Q_rmM10 (Z : State) (A : Nat → Addr) (K : Nat → ClassId) (x1 : Int32) (x2 : Int32) (x3 : Int32) (c1 : Int64) (c2 : Int64) (c3 : Int64) (s1 : Int32) (s2 : Int32) (s3 : Int32) (z6 : Addr) (z0 : Addr) (z1 : Addr) (z2 : Addr) (z3 : ClassId) (z4 : ClassId) (z5 : ClassId) (h0 : Heap) (n0 : Nat) (v : Option Value) (h : Heap) (L : List Loc) : Prop := v = none ∧ Fr n0 L ∧ Keep h0 h [z2, z1, z0] ∧ (Arv Z h z0 z3 .double (16 : Int32) [(.double (Jvm.FP.l2d (x2.toInt64))), (.double (Jvm.FP.l2d (x2.toInt64))), (.double (Jvm.FP.l2d (x3.toInt64)))] (.double (Jvm.FP.l2d ((0 : Int32).toInt64)))) ∧ (Arv Z h z1 z4 .long (16 : Int32) [(.long c2), (.long c2), (.long c3)] (.long 0)) ∧ (Arv Z h z2 z5 .int 16 [(.int s2), (.int s2), (.int s3)] (.int 0))
set_option maxRecDepth 65536 in
set_option maxHeartbeats 40000000 in
theorem rmM10 (l : Launch) (Z : State) (a0 : Array Value) (hw : ∀ d ∈ tables_1, d.before a0 Z = true) (ws : List Jvm.Cond) (h0 : Heap) (n0 : Nat) (A : Nat → Addr) (K : Nat → ClassId) (x1 : Int32) (x2 : Int32) (x3 : Int32) (c1 : Int64) (c2 : Int64) (c3 : Int64) (s1 : Int32) (s2 : Int32) (s3 : Int32)  (z0 : Addr) (z1 : Addr) (z2 : Addr) (z3 : Addr) (z5 : ClassId) (z6 : ClassId) (z7 : ClassId) (EN : own_St Z A K) (OL0 : Old Z n0 h0) (zf : Fld Z h0 z0 y_s0 "at" "[D" (.ref z1)) (zg : Arv Z h0 z1 z5 .double (16 : Int32) [(.double (Jvm.FP.l2d (x1.toInt64))), (.double (Jvm.FP.l2d (x2.toInt64))), (.double (Jvm.FP.l2d (x3.toInt64)))] (.double (Jvm.FP.l2d ((0 : Int32).toInt64)))) (zh : Fld Z h0 z0 y_s0 "added" "[J" (.ref z2)) (zi : Arv Z h0 z2 z6 .long (16 : Int32) [(.long c1), (.long c2), (.long c3)] (.long 0)) (zj : Fld Z h0 z0 y_s0 "slot" "[I" (.ref z3)) (zk : Arv Z h0 z3 z7 .int 16 [(.int s1), (.int s2), (.int s3)] (.int 0)) (z13 : Exa Z h0 z0 y_s0) (z14 : z0 ≠ z1) (z15 : z1 ≠ z2) (z16 : z0 ≠ z2) (z17 : z1 ≠ z3) (z18 : z2 ≠ z3) (zl : n0 ≤ z1) (zm : n0 ≤ z2) (zn : n0 ≤ z3) :
    MetFree l own_m6 (head1 (Jvm.Cond.code own_m6 prog_48_method_10_code 3 none :: ws) (Room.mk 1 0 0 18)) (fun a U => a = #[(.ref z0), (.int 1), (.int 0)] ∧ Z.Warmed39 U.vm ∧ U.heap = h0) (fun _ _ _ _ _ => True) (fun _ U o U' => ∃ v L, o = .returned v ∧ Q_rmM10 Z A K x1 x2 x3 c1 c2 c3 s1 s2 s3 z0 z1 z2 z3 z5 z6 z7 h0 n0 v U'.heap L ∧ FrameEnd U o U' L (Room.mk 1 0 0 18).cells (Room.mk 1 0 0 18).slots) := by
  refine MetFree.of_bodySF (plainFor_of_name own_pn0) hisR ?_
  intro p e s m args below meth c s₁ Bd hml0 hP hK
  obtain ⟨rfl, hZ, hh⟩ := hP
  have hx := Bd.exec
  have hby := Bd.bytes
  have hml : c.maxLocals = 3 := hml0
  have hown : s.vm.findClass y_s0 = some m.cls := findClass_of_methodNamed Bd.named
  have hnm := (name_of_methodNamed Bd.named Bd.method).1
  have X0 : Stand p l e (Room.mk 1 0 0 18) s m #[(.ref z0), (.int 1), (.int 0)] below meth c s₁ [] 0 0 := Stand.of_body Bd
  have e0 : s₁.heap = h0 := by rw [← hh, Bd.state]; rfl
  have N0 := Fr.nil n0
  have pre0 : ∀ t, Steps p.tables e below (s₁.setTop (mkF m 0 #[.val (.ref z0), .val (.int 1), .val (.int 0)] [])) t → Steps p.tables e below (s₁.setTop (entryFrame m #[(.ref z0), (.int 1), (.int 0)] 3)) t := fun t k => castTop (by first | (simp [entryFrame, mkF, argsToLocals, Value.category, maxLocals]; done) | rfl) k
  have KK0 : Keep h0 h0 [z3, z2, z1] := Keep.refl _ _
  obtain ⟨zo, z8, zp, z19⟩ := getF X0 hx hZ hown (host := "") (Or.inl (own_W hw 14 rfl)) Via.refl e0 zf (g := (mkF m 3 #[.val (.ref z0), .val (.int 1), .val (.int 0)] [(.ref z0), (.int 0), (.ref z0)])) rfl rfl (hb hby y2_3)
  obtain ⟨zq, za, z1s, z1a, z1t, z1b, z1u⟩ := (id zg)
  have zr : ¬ ((1 : Int32) < 0 ∨ zq.slots.size ≤ ((1 : Int32)).toNatClampNeg) := inb_of z1a ⟨by decide, by decide⟩
  have z1c : zq.slots[((1 : Int32)).toNatClampNeg]? = some (.double (Jvm.FP.l2d (x2.toInt64))) := Has.at z1b zr rfl
  obtain ⟨zs, z9, zt, z1d⟩ := getF z8 hx hZ hown (host := "") (Or.inl (own_W hw 17 rfl)) Via.refl zp zh (g := (mkF m 9 #[.val (.ref z0), .val (.int 1), .val (.int 0)] [(.ref z0), (.double (Jvm.FP.l2d (x2.toInt64))), (.int 0), (.ref z0)])) rfl rfl (hb hby y2_9)
  obtain ⟨zu, zb, z1v, z1e, z1w, z1f, z1x⟩ := (id zi)
  have zv : ¬ ((1 : Int32) < 0 ∨ zu.slots.size ≤ ((1 : Int32)).toNatClampNeg) := inb_of z1e ⟨by decide, by decide⟩
  have z1g : zu.slots[((1 : Int32)).toNatClampNeg]? = some (.long c2) := Has.at z1f zv rfl
  obtain ⟨zw, zc, zd, z1h⟩ := getF z9 hx hZ hown (host := "") (Or.inl (own_W hw 20 rfl)) Via.refl zt zj (g := (mkF m 15 #[.val (.ref z0), .val (.int 1), .val (.int 0)] [(.ref z0), (.long c2), (.double (Jvm.FP.l2d (x2.toInt64))), (.int 0), (.ref z0)])) rfl rfl (hb hby y2_15)
  obtain ⟨zx, ze, z1y, z1i, z1z, z1j, z20⟩ := (id zk)
  have zy : ¬ ((1 : Int32) < 0 ∨ zx.slots.size ≤ ((1 : Int32)).toNatClampNeg) := inb_of z1i ⟨by decide, by decide⟩
  have z1k : zx.slots[((1 : Int32)).toNatClampNeg]? = some (.int s2) := Has.at z1j zy rfl
  obtain ⟨cq72, z1l, q72'⟩ := z13.cell
  obtain ⟨_, _, ⟨zz, L72, z21, n72⟩, -, z4, ⟨Lc72, z10, l72, y72, z72⟩, z11⟩ := zc.privateBack hx (y := own_m4) hown (mvT hZ (own_W hw 45 rfl)) (mvT hZ (own_W hw 46 rfl)) (own_selpS (y := own_m4) (mvT hZ (own_W hw 39 rfl)) rfl (mvP (args := #[]) hZ (own_W hw 47 rfl)) (mvT hZ (own_W hw 46 rfl)) (by decide)) (Cond.privateMethod_at (mvP hZ (own_W hw 47 rfl) (args := #[]))) (mvT hZ (own_W hw 48 rfl)) (by decide) (backOf (W := 0) (rmP0 l Z a0 hw [] h0 n0 A K x1 x2 x3 c1 c2 c3 s1 s2 s3 x2 c2 s2 z0 z1 z2 z3 z5 z6 z7 EN OL0 zf zg zh zi zj zk z14 z15 z16 z17 z18 zl zm zn) hZ (own_W hw 48 rfl) (own_W hw 6 rfl) (by decide) (by decide)) (g := (mkF m 20 #[.val (.ref z0), .val (.int 1), .val (.int 0)] [(.int s2), (.long c2), (.double (Jvm.FP.l2d (x2.toInt64))), (.int 0), (.ref z0)])) rfl (by rw [hml]; rfl) (Steps.refl _) (a := z0) (by rw [zd]; exact z1l) q72' (argsL := [(.int 0), (.double (Jvm.FP.l2d (x2.toInt64))), (.long c2), (.int s2)]) (rest := []) (lenOf own_pd0 rfl) rfl (by show 2 * 0 + _ ≤ _; exact Nat.le_of_eq rfl) (hb hby y2_20) (fun _ _ => ⟨rfl, zd, (by decide : 0 + 0 ≤ _), (by decide : 0 + 0 ≤ _)⟩)
  dsimp only [Pt.U, Pt.locs, Pt.cells, Pt.slots] at z4 l72 y72 z72 z11 z10
  replace z4 := own_sub z4 l72 y72 z72
  obtain ⟨rfl, z1m, z12, z1n, z1o, z1p⟩ := z10
  have z1q := Fr.app N0 z1m
  have z22 := OL0.keep z12 (allS zl (allS zm (allS zn all0)))
  have z1r := KK0.trans z12 (allS (own_Ix 2 rfl) (allS (own_Ix 1 rfl) (allS (own_Ix 0 rfl) all0)))
  obtain ⟨fs, hr, hrun, hended, hW, hsame⟩ := z4.leave (v := none) (fun _ => rfl)
  refine ⟨_, _, pre0 _ ?_, hrun, hended, _, _, rfl, ?_, ⟨_, rfl⟩, hW, hsame.mono (by decide) (by decide)⟩
  · show Steps p.tables e below (s₁.setTop (mkF m 0 #[.val (.ref z0), .val (.int 1), .val (.int 0)] [])) _
    refine XS.aloadN X0.here hx rfl (hb hby y2_0) rfl rfl ?_
    refine XS.iloadN X0.here hx rfl (hb hby y2_1) rfl ?_
    refine XS.aloadN X0.here hx rfl (hb hby y2_2) rfl rfl ?_
    refine z19 _ ?_
    show Steps p.tables e below (zo.setTop (mkF m 6 #[.val (.ref z0), .val (.int 1), .val (.int 0)] [(.ref z1), (.int 0), (.ref z0)])) _
    refine XS.iloadN z8.here hx rfl (hb hby y2_6) rfl ?_
    refine z8.daload hx (j := (1 : Int32)) (v := (.double (Jvm.FP.l2d (x2.toInt64)))) (by rw [zp]; exact za.1) (State.isArrayOf_alike hZ.alike za.2.1) za.2.2 zr z1c (g := (mkF m 7 #[.val (.ref z0), .val (.int 1), .val (.int 0)] [(.int 1), (.ref z1), (.int 0), (.ref z0)])) rfl rfl (hb hby y2_7) _ ?_
    show Steps p.tables e below (zo.setTop (mkF m 8 #[.val (.ref z0), .val (.int 1), .val (.int 0)] [(.double (Jvm.FP.l2d (x2.toInt64))), (.int 0), (.ref z0)])) _
    refine XS.aloadN z8.here hx rfl (hb hby y2_8) rfl rfl ?_
    refine z1d _ ?_
    show Steps p.tables e below (zs.setTop (mkF m 12 #[.val (.ref z0), .val (.int 1), .val (.int 0)] [(.ref z2), (.double (Jvm.FP.l2d (x2.toInt64))), (.int 0), (.ref z0)])) _
    refine XS.iloadN z9.here hx rfl (hb hby y2_12) rfl ?_
    refine z9.laload hx (j := (1 : Int32)) (v := (.long c2)) (by rw [zt]; exact zb.1) (State.isArrayOf_alike hZ.alike zb.2.1) zb.2.2 zv z1g (g := (mkF m 13 #[.val (.ref z0), .val (.int 1), .val (.int 0)] [(.int 1), (.ref z2), (.double (Jvm.FP.l2d (x2.toInt64))), (.int 0), (.ref z0)])) rfl rfl (hb hby y2_13) _ ?_
    show Steps p.tables e below (zs.setTop (mkF m 14 #[.val (.ref z0), .val (.int 1), .val (.int 0)] [(.long c2), (.double (Jvm.FP.l2d (x2.toInt64))), (.int 0), (.ref z0)])) _
    refine XS.aloadN z9.here hx rfl (hb hby y2_14) rfl rfl ?_
    refine z1h _ ?_
    show Steps p.tables e below (zw.setTop (mkF m 18 #[.val (.ref z0), .val (.int 1), .val (.int 0)] [(.ref z3), (.long c2), (.double (Jvm.FP.l2d (x2.toInt64))), (.int 0), (.ref z0)])) _
    refine XS.iloadN zc.here hx rfl (hb hby y2_18) rfl ?_
    refine zc.iaload hx (j := (1 : Int32)) (v := (.int s2)) (by rw [zd]; exact ze.1) (State.isArrayOf_alike hZ.alike ze.2.1) ze.2.2 zy z1k (g := (mkF m 19 #[.val (.ref z0), .val (.int 1), .val (.int 0)] [(.int 1), (.ref z3), (.long c2), (.double (Jvm.FP.l2d (x2.toInt64))), (.int 0), (.ref z0)])) rfl rfl (hb hby y2_19) _ ?_
    show Steps p.tables e below (zw.setTop (mkF m 20 #[.val (.ref z0), .val (.int 1), .val (.int 0)] [(.int s2), (.long c2), (.double (Jvm.FP.l2d (x2.toInt64))), (.int 0), (.ref z0)])) _
    refine z11.trans ?_
    show Steps p.tables e below (zz.setTop (mkF m 23 #[.val (.ref z0), .val (.int 1), .val (.int 0)] [])) _
    exact z4.returnOut hx Bd.returns (hb hby y2_23) hr
  · show Q_rmM10 Z A K x1 x2 x3 c1 c2 c3 s1 s2 s3 z0 z1 z2 z3 z5 z6 z7 h0 n0 _ zz.heap _
    exact ⟨rfl, z1q, z1r, z1n, z1o, z1p⟩
def Q_rmA0 (Z : State) (A : Nat → Addr) (K : Nat → ClassId) (x1 : Int32) (x2 : Int32) (x3 : Int32) (c1 : Int64) (c2 : Int64) (c3 : Int64) (s1 : Int32) (s2 : Int32) (s3 : Int32) (zg : Int32) (z8 : Int32) (z9 : Int32) (t1 : Int32) (t2 : Int32) (t3 : Int32) (ga : Int64) (vx : Int32) (vf : Int32) (vt : Int32) (z0 : Addr) (z1 : Addr) (z2 : Addr) (z3 : Addr) (z4 : Addr) (z5 : Addr) (z6 : Addr) (za : Addr) (zb : ClassId) (zc : ClassId) (zd : ClassId) (ze : ClassId) (zf : ClassId) (z7 : ClassId) (zh : ClassId) (h0 : Heap) (n0 : Nat) (v : Option Value) (h : Heap) (L : List Loc) : Prop := v = none ∧ Fr n0 L ∧ Keep h0 h [z4, z5, z6, z0, z3, z2, z1] ∧ (Exa Z h z0 y_s0) ∧ (Fld Z h z0 y_s0 "at" "[D" (.ref z1)) ∧ (Fld Z h z0 y_s0 "added" "[J" (.ref z2)) ∧ (Fld Z h z0 y_s0 "slot" "[I" (.ref z3)) ∧ (Fld Z h z0 y_s0 "from" "[I" (.ref z4)) ∧ (Fld Z h z0 y_s0 "to" "[I" (.ref z5)) ∧ (Fld Z h z0 y_s0 "message" y_s1 (.ref z6)) ∧ (Fld Z h z0 y_s0 "free" "[I" (.ref za)) ∧ (Fld Z h z0 y_s0 "size" "I" (.int 1)) ∧ (Fld Z h z0 y_s0 "additions" "J" (.long (ga + (1 : Int64)))) ∧ (Arv Z h z1 zb .double (16 : Int32) [(.double (Jvm.FP.l2d (vx.toInt64))), (.double (Jvm.FP.l2d (x2.toInt64))), (.double (Jvm.FP.l2d (x3.toInt64)))] (.double (Jvm.FP.l2d ((0 : Int32).toInt64)))) ∧ (Arv Z h z2 zc .long (16 : Int32) [(.long ga), (.long c2), (.long c3)] (.long 0)) ∧ (Arv Z h z3 zd .int 16 [(.int 0), (.int s2), (.int s3)] (.int 0)) ∧ (Arv Z h z4 ze .int 16 [(.int vf), (.int z8), (.int z9)] (.int 0)) ∧ (Arv Z h z5 zf .int 16 [(.int vt), (.int t2), (.int t3)] (.int 0)) ∧ (own_AM Z h z6 z7 (.object y_s2)) ∧ (Ovr Z z7 y_s2)
theorem y3_0 : decode prog_48_method_2_code 0 = .ok (.aload_n 0, 1) := by decide +kernel
theorem y3_1 : decode prog_48_method_2_code 1 = .ok (.getfield 40, 3) := by decide +kernel
theorem y3_4 : decode prog_48_method_2_code 4 = .ok (.aload_n 0, 1) := by decide +kernel
theorem y3_5 : decode prog_48_method_2_code 5 = .ok (.getfield 19, 3) := by decide +kernel
theorem y3_8 : decode prog_48_method_2_code 8 = .ok (.arraylength, 1) := by decide +kernel
theorem y3_9 : decode prog_48_method_2_code 9 = .ok (.if_icmp .ne 7, 3) := by decide +kernel
theorem y3_16 : decode prog_48_method_2_code 16 = .ok (.aload_n 0, 1) := by decide +kernel
theorem y3_17 : decode prog_48_method_2_code 17 = .ok (.getfield 33, 3) := by decide +kernel
theorem y3_20 : decode prog_48_method_2_code 20 = .ok (.aload_n 0, 1) := by decide +kernel
theorem y3_21 : decode prog_48_method_2_code 21 = .ok (.getfield 19, 3) := by decide +kernel
theorem y3_24 : decode prog_48_method_2_code 24 = .ok (.arraylength, 1) := by decide +kernel
theorem y3_25 : decode prog_48_method_2_code 25 = .ok (.iconst 1, 1) := by decide +kernel
theorem y3_26 : decode prog_48_method_2_code 26 = .ok (.isub, 1) := by decide +kernel
theorem y3_27 : decode prog_48_method_2_code 27 = .ok (.aload_n 0, 1) := by decide +kernel
theorem y3_28 : decode prog_48_method_2_code 28 = .ok (.getfield 40, 3) := by decide +kernel
theorem y3_31 : decode prog_48_method_2_code 31 = .ok (.isub, 1) := by decide +kernel
theorem y3_32 : decode prog_48_method_2_code 32 = .ok (.iaload, 1) := by decide +kernel
theorem y3_33 : decode prog_48_method_2_code 33 = .ok (.istore 6, 2) := by decide +kernel
theorem y3_35 : decode prog_48_method_2_code 35 = .ok (.aload_n 0, 1) := by decide +kernel
theorem y3_36 : decode prog_48_method_2_code 36 = .ok (.getfield 23, 3) := by decide +kernel
theorem y3_39 : decode prog_48_method_2_code 39 = .ok (.iload 6, 2) := by decide +kernel
theorem y3_41 : decode prog_48_method_2_code 41 = .ok (.iload_n 3, 1) := by decide +kernel
theorem y3_42 : decode prog_48_method_2_code 42 = .ok (.iastore, 1) := by decide +kernel
theorem y3_43 : decode prog_48_method_2_code 43 = .ok (.aload_n 0, 1) := by decide +kernel
theorem y3_44 : decode prog_48_method_2_code 44 = .ok (.getfield 26, 3) := by decide +kernel
theorem y3_47 : decode prog_48_method_2_code 47 = .ok (.iload 6, 2) := by decide +kernel
theorem y3_49 : decode prog_48_method_2_code 49 = .ok (.iload 4, 2) := by decide +kernel
theorem y3_51 : decode prog_48_method_2_code 51 = .ok (.iastore, 1) := by decide +kernel
theorem y3_52 : decode prog_48_method_2_code 52 = .ok (.aload_n 0, 1) := by decide +kernel
theorem y3_53 : decode prog_48_method_2_code 53 = .ok (.getfield 29, 3) := by decide +kernel
theorem y3_56 : decode prog_48_method_2_code 56 = .ok (.iload 6, 2) := by decide +kernel
theorem y3_58 : decode prog_48_method_2_code 58 = .ok (.aload 5, 2) := by decide +kernel
theorem y3_60 : decode prog_48_method_2_code 60 = .ok (.aastore, 1) := by decide +kernel
theorem y3_61 : decode prog_48_method_2_code 61 = .ok (.aload_n 0, 1) := by decide +kernel
theorem y3_62 : decode prog_48_method_2_code 62 = .ok (.dup, 1) := by decide +kernel
theorem y3_63 : decode prog_48_method_2_code 63 = .ok (.getfield 40, 3) := by decide +kernel
theorem y3_66 : decode prog_48_method_2_code 66 = .ok (.dup_x1, 1) := by decide +kernel
theorem y3_67 : decode prog_48_method_2_code 67 = .ok (.iconst 1, 1) := by decide +kernel
theorem y3_68 : decode prog_48_method_2_code 68 = .ok (.iadd, 1) := by decide +kernel
theorem y3_69 : decode prog_48_method_2_code 69 = .ok (.putfield 40, 3) := by decide +kernel
theorem y3_72 : decode prog_48_method_2_code 72 = .ok (.istore 7, 2) := by decide +kernel
theorem y3_74 : decode prog_48_method_2_code 74 = .ok (.iload 7, 2) := by decide +kernel
theorem y3_76 : decode prog_48_method_2_code 76 = .ok (.ifCond .le 42, 3) := by decide +kernel
theorem y3_118 : decode prog_48_method_2_code 118 = .ok (.aload_n 0, 1) := by decide +kernel
theorem y3_119 : decode prog_48_method_2_code 119 = .ok (.iload 7, 2) := by decide +kernel
theorem y3_121 : decode prog_48_method_2_code 121 = .ok (.dload_n 1, 1) := by decide +kernel
theorem y3_122 : decode prog_48_method_2_code 122 = .ok (.aload_n 0, 1) := by decide +kernel
theorem y3_123 : decode prog_48_method_2_code 123 = .ok (.dup, 1) := by decide +kernel
theorem y3_124 : decode prog_48_method_2_code 124 = .ok (.getfield 51, 3) := by decide +kernel
theorem y3_127 : decode prog_48_method_2_code 127 = .ok (.dup2_x1, 1) := by decide +kernel
theorem y3_128 : decode prog_48_method_2_code 128 = .ok (.lconst 1, 1) := by decide +kernel
theorem y3_129 : decode prog_48_method_2_code 129 = .ok (.ladd, 1) := by decide +kernel
theorem y3_130 : decode prog_48_method_2_code 130 = .ok (.putfield 51, 3) := by decide +kernel
theorem y3_133 : decode prog_48_method_2_code 133 = .ok (.iload 6, 2) := by decide +kernel
theorem y3_135 : decode prog_48_method_2_code 135 = .ok (.invokevirtual 55, 3) := by decide +kernel
theorem y3_138 : decode prog_48_method_2_code 138 = .ok (.return_, 1) := by decide +kernel
set_option maxRecDepth 65536 in
set_option maxHeartbeats 40000000 in
theorem rmA0 (l : Launch) (Z : State) (a0 : Array Value) (hw : ∀ d ∈ tables_1, d.before a0 Z = true) (ws : List Jvm.Cond) (h0 : Heap) (n0 : Nat) (A : Nat → Addr) (K : Nat → ClassId) (x1 : Int32) (x2 : Int32) (x3 : Int32) (c1 : Int64) (c2 : Int64) (c3 : Int64) (s1 : Int32) (s2 : Int32) (s3 : Int32) (z11 : Int32) (zp : Int32) (zq : Int32) (t1 : Int32) (t2 : Int32) (t3 : Int32) (ga : Int64) (vx : Int32) (vf : Int32) (vt : Int32)  (z0 : Addr) (zc : Addr) (zd : Addr) (z6 : Addr) (z8 : Addr) (z9 : Addr) (z7 : Addr) (zb : Addr) (zr : ClassId) (zs : ClassId) (zt : ClassId) (zu : ClassId) (zv : ClassId) (zl : ClassId) (z12 : ClassId) (EN : own_St Z A K) (OL0 : Old Z n0 h0) (z13 : Fld Z h0 z0 y_s0 "size" "I" (.int 0)) (z14 : Fld Z h0 z0 y_s0 "slot" "[I" (.ref z6)) (z15 : Arv Z h0 z6 zt .int 16 [(.int s1), (.int s2), (.int s3)] (.int 0)) (z1k : Fld Z h0 z0 y_s0 "free" "[I" (.ref zb)) (z2y : Arv Z h0 zb z12 .int 16 [(.int 15), (.int 14), (.int 13), (.int 12), (.int 11), (.int 10), (.int 9), (.int 8), (.int 7), (.int 6), (.int 5), (.int 4), (.int 3), (.int 2), (.int 1), (.int 0)] (.int 0)) (z1l : Fld Z h0 z0 y_s0 "from" "[I" (.ref z8)) (z2z : Arv Z h0 z8 zu .int 16 [(.int z11), (.int zp), (.int zq)] (.int 0)) (z30 : Fld Z h0 z0 y_s0 "to" "[I" (.ref z9)) (z31 : Arv Z h0 z9 zv .int 16 [(.int t1), (.int t2), (.int t3)] (.int 0)) (z32 : Fld Z h0 z0 y_s0 "message" y_s1 (.ref z7)) (z33 : own_AM Z h0 z7 zl (.object y_s2)) (z34 : Exa Z h0 z0 y_s0) (z35 : Fld Z h0 z0 y_s0 "additions" "J" (.long ga)) (z36 : Fld Z h0 z0 y_s0 "at" "[D" (.ref zc)) (z37 : Arv Z h0 zc zr .double (16 : Int32) [(.double (Jvm.FP.l2d (x1.toInt64))), (.double (Jvm.FP.l2d (x2.toInt64))), (.double (Jvm.FP.l2d (x3.toInt64)))] (.double (Jvm.FP.l2d ((0 : Int32).toInt64)))) (z38 : Fld Z h0 z0 y_s0 "added" "[J" (.ref zd)) (z39 : Arv Z h0 zd zs .long (16 : Int32) [(.long c1), (.long c2), (.long c3)] (.long 0)) (z3a : Ovr Z zl y_s2) (zg : z0 ≠ z8) (z1m : z8 ≠ z9) (zh : z0 ≠ z9) (z1n : z8 ≠ z7) (z1o : z9 ≠ z7) (zi : z0 ≠ z7) (z1p : zc ≠ z8) (z1q : zc ≠ z9) (z1r : zc ≠ z7) (ze : z0 ≠ zc) (z1s : zd ≠ z8) (z1t : zd ≠ z9) (z1u : zd ≠ z7) (zf : z0 ≠ zd) (z1v : z6 ≠ z8) (z1w : z6 ≠ z9) (z1x : z6 ≠ z7) (zj : z0 ≠ z6) (z3b : zc ≠ zd) (z3c : zc ≠ z6) (z3d : zd ≠ z6) (z1y : n0 ≤ z8) (z1z : n0 ≤ z9) (z20 : n0 ≤ z7) (zw : n0 ≤ z0) (z21 : n0 ≤ zc) (z22 : n0 ≤ zd) (z23 : n0 ≤ z6) :
    MetFree l own_m0 (head1 (Jvm.Cond.code own_m0 prog_48_method_2_code 9 none :: ws) (Room.mk 1 0 0 18)) (fun a U => a = #[(.ref z0), (.double (Jvm.FP.l2d (vx.toInt64))), (.int vf), (.int vt), .null] ∧ Z.Warmed39 U.vm ∧ U.heap = h0) (fun _ _ _ _ _ => True) (fun _ U o U' => ∃ v L, o = .returned v ∧ Q_rmA0 Z A K x1 x2 x3 c1 c2 c3 s1 s2 s3 z11 zp zq t1 t2 t3 ga vx vf vt z0 zc zd z6 z8 z9 z7 zb zr zs zt zu zv zl z12 h0 n0 v U'.heap L ∧ FrameEnd U o U' L (Room.mk 1 0 0 18).cells (Room.mk 1 0 0 18).slots) := by
  refine MetFree.of_bodySF (plainFor_of_name own_pn0) hisR ?_
  intro p e s m args below meth c s₁ Bd hml0 hP hK
  obtain ⟨rfl, hZ, hh⟩ := hP
  have hx := Bd.exec
  have hby := Bd.bytes
  have hml : c.maxLocals = 9 := hml0
  have hown : s.vm.findClass y_s0 = some m.cls := findClass_of_methodNamed Bd.named
  have hnm := (name_of_methodNamed Bd.named Bd.method).1
  have X0 : Stand p l e (Room.mk 1 0 0 18) s m #[(.ref z0), (.double (Jvm.FP.l2d (vx.toInt64))), (.int vf), (.int vt), .null] below meth c s₁ [] 0 0 := Stand.of_body Bd
  have e0 : s₁.heap = h0 := by rw [← hh, Bd.state]; rfl
  have N0 := Fr.nil n0
  have pre0 : ∀ t, Steps p.tables e below (s₁.setTop (mkF m 0 #[.val (.ref z0), .val (.double (Jvm.FP.l2d (vx.toInt64))), .second, .val (.int vf), .val (.int vt), .val .null, .unset, .unset, .unset] [])) t → Steps p.tables e below (s₁.setTop (entryFrame m #[(.ref z0), (.double (Jvm.FP.l2d (vx.toInt64))), (.int vf), (.int vt), .null] 9)) t := fun t k => castTop (by first | (simp [entryFrame, mkF, argsToLocals, Value.category, maxLocals]; done) | rfl) k
  have KK0 : Keep h0 h0 [z8, z9, z7, z0, z6, zd, zc] := Keep.refl _ _
  obtain ⟨z3e, z24, z3f, z3g⟩ := getF X0 hx hZ hown (host := "") (Or.inl (own_W hw 41 rfl)) Via.refl e0 z13 (g := (mkF m 1 #[.val (.ref z0), .val (.double (Jvm.FP.l2d (vx.toInt64))), .second, .val (.int vf), .val (.int vt), .val .null, .unset, .unset, .unset] [(.ref z0)])) rfl rfl (hb hby y3_1)
  obtain ⟨z16, zx, z25, z3h⟩ := getF z24 hx hZ hown (host := "") (Or.inl (own_W hw 20 rfl)) Via.refl z3f z14 (g := (mkF m 5 #[.val (.ref z0), .val (.double (Jvm.FP.l2d (vx.toInt64))), .second, .val (.int vf), .val (.int vt), .val .null, .unset, .unset, .unset] [(.ref z0), (.int 0)])) rfl rfl (hb hby y3_5)
  obtain ⟨z6a, z26, -, z3i, z3j, -, -⟩ := (id z15)
  obtain ⟨z3k, z27, z3l, z3m⟩ := getF zx hx hZ hown (host := "") (Or.inl (own_W hw 30 rfl)) Via.refl z25 z1k (g := (mkF m 17 #[.val (.ref z0), .val (.double (Jvm.FP.l2d (vx.toInt64))), .second, .val (.int vf), .val (.int vt), .val .null, .unset, .unset, .unset] [(.ref z0)])) rfl rfl (hb hby y3_17)
  obtain ⟨z17, zm, z28, z3n⟩ := getF z27 hx hZ hown (host := "") (Or.inl (own_W hw 20 rfl)) Via.refl z3l z14 (g := (mkF m 21 #[.val (.ref z0), .val (.double (Jvm.FP.l2d (vx.toInt64))), .second, .val (.int vf), .val (.int vt), .val .null, .unset, .unset, .unset] [(.ref z0), (.ref zb)])) rfl rfl (hb hby y3_21)
  obtain ⟨z6b, z29, -, z3o, z3p, -, -⟩ := (id z15)
  obtain ⟨z18, zn, z2a, z3q⟩ := getF zm hx hZ hown (host := "") (Or.inl (own_W hw 41 rfl)) Via.refl z28 z13 (g := (mkF m 28 #[.val (.ref z0), .val (.double (Jvm.FP.l2d (vx.toInt64))), .second, .val (.int vf), .val (.int vt), .val .null, .unset, .unset, .unset] [(.ref z0), (.int 15), (.ref zb)])) rfl rfl (hb hby y3_28)
  obtain ⟨z2b, z19, z6c, z3r, z6d, z3s, z6e⟩ := (id z2y)
  have z2c : ¬ ((15 : Int32) < 0 ∨ z2b.slots.size ≤ ((15 : Int32)).toNatClampNeg) := inb_of z3r ⟨by decide, by decide⟩
  have z3t : z2b.slots[((15 : Int32)).toNatClampNeg]? = some (.int 0) := Has.at z3s z2c rfl
  obtain ⟨z3u, z1a, z3v, z3w⟩ := getF zn hx hZ hown (host := "") (Or.inl (own_W hw 22 rfl)) Via.refl z2a z1l (g := (mkF m 36 #[.val (.ref z0), .val (.double (Jvm.FP.l2d (vx.toInt64))), .second, .val (.int vf), .val (.int vt), .val .null, .val (.int 0), .unset, .unset] [(.ref z0)])) rfl rfl (hb hby y3_36)
  obtain ⟨z3x, z2d, z3y, z2e, z3z, z40, z41⟩ := (id z2z)
  have z42 : ¬ ((0 : Int32) < 0 ∨ z3x.slots.size ≤ ((0 : Int32)).toNatClampNeg) := inb_of z2e ⟨by decide, by decide⟩
  obtain ⟨z43, z44, z1b, z45, z1, z46⟩ := stI z1a hx hZ z3v z2d (j := (0 : Int32)) z42 (g := (mkF m 42 #[.val (.ref z0), .val (.double (Jvm.FP.l2d (vx.toInt64))), .second, .val (.int vf), .val (.int vt), .val .null, .val (.int 0), .unset, .unset] [(.int vf), (.int 0), (.ref z8)])) rfl rfl (hb hby y3_42)
  have z47 := Fr.snoc z1b N0 z1y
  have z48 := OL0.wr z1 z1y
  have z49 := KK0.wr z1 (own_Ix 0 rfl)
  have z4a : Arv Z z44 z8 zu .int 16 [(.int vf), (.int zp), (.int zq)] (.int 0) := Arv.set z2d z3y z2e z3z z40 z41 rfl z1 0 (by decide) (by decide : 0 < 3)
  have z2f := (z30.other z1 (Or.inl zg))
  obtain ⟨z4b, z1c, z4c, z4d⟩ := getF z1b hx hZ hown (host := "") (Or.inl (own_W hw 24 rfl)) Via.refl z45 z2f (g := (mkF m 44 #[.val (.ref z0), .val (.double (Jvm.FP.l2d (vx.toInt64))), .second, .val (.int vf), .val (.int vt), .val .null, .val (.int 0), .unset, .unset] [(.ref z0)])) rfl rfl (hb hby y3_44)
  have z4e := (z31.other z1 (Ne.symm z1m))
  obtain ⟨z4f, z2g, z4g, z2h, z4h, z4i, z4j⟩ := (id z4e)
  have z4k : ¬ ((0 : Int32) < 0 ∨ z4f.slots.size ≤ ((0 : Int32)).toNatClampNeg) := inb_of z2h ⟨by decide, by decide⟩
  obtain ⟨z4l, z2i, z1d, z4m, z2, z4n⟩ := stI z1c hx hZ z4c z2g (j := (0 : Int32)) z4k (g := (mkF m 51 #[.val (.ref z0), .val (.double (Jvm.FP.l2d (vx.toInt64))), .second, .val (.int vf), .val (.int vt), .val .null, .val (.int 0), .unset, .unset] [(.int vt), (.int 0), (.ref z9)])) rfl rfl (hb hby y3_51)
  have z4o := Fr.snoc z1d z47 z1z
  have z4p := z48.wr z2 z1z
  have z4q := z49.wr z2 (own_Ix 1 rfl)
  have z4r : Arv Z z2i z9 zv .int 16 [(.int vt), (.int t2), (.int t3)] (.int 0) := Arv.set z2g z4g z2h z4h z4i z4j rfl z2 0 (by decide) (by decide : 0 < 3)
  have z2j := ((z32.other z1 (Or.inl zg)).other z2 (Or.inl zh))
  obtain ⟨z4s, z1e, z4t, z4u⟩ := getF z1d hx hZ hown (host := "") (Or.inl (own_W hw 28 rfl)) Via.refl z4m z2j (g := (mkF m 53 #[.val (.ref z0), .val (.double (Jvm.FP.l2d (vx.toInt64))), .second, .val (.int vf), .val (.int vt), .val .null, .val (.int 0), .unset, .unset] [(.ref z0)])) rfl rfl (hb hby y3_53)
  have z2k : own_AM Z z2i z7 zl (.object y_s2) := ((z33.other z1 (Ne.symm z1n)).other z2 (Ne.symm z1o))
  obtain ⟨vs92, dv92, z4v, z4w, z6f, z4x, z6g, z6h, z6i⟩ := (id z2k)
  have z4y : ¬ ((0 : Int32) < 0 ∨ z4v.slots.size ≤ ((0 : Int32)).toNatClampNeg) := inb_of z4x ⟨by decide, by decide⟩
  obtain ⟨z4z, z50, zy, z51, z3, z52⟩ := stR z1e hx hZ z4t z4w (j := (0 : Int32)) z4y rfl (Or.inl rfl) (g := (mkF m 60 #[.val (.ref z0), .val (.double (Jvm.FP.l2d (vx.toInt64))), .second, .val (.int vf), .val (.int vt), .val .null, .val (.int 0), .unset, .unset] [.null, (.int 0), (.ref z7)])) rfl rfl (hb hby y3_60)
  have z53 := Fr.snoc zy z4o z20
  have z54 := z4p.wr z3 z20
  have z55 := z4q.wr z3 (own_Ix 2 rfl)
  have z56 : own_AM Z z50 z7 zl (.object y_s2) := own_AM.set z2k rfl z3
  have z1f := (((z13.other z1 (Or.inl zg)).other z2 (Or.inl zh)).other z3 (Or.inl zi))
  obtain ⟨z2l, zz, z57, z58⟩ := getF zy hx hZ hown (host := "") (Or.inl (own_W hw 41 rfl)) Via.refl z51 z1f (g := (mkF m 63 #[.val (.ref z0), .val (.double (Jvm.FP.l2d (vx.toInt64))), .second, .val (.int vf), .val (.int vt), .val .null, .val (.int 0), .unset, .unset] [(.ref z0), (.ref z0)])) rfl rfl (hb hby y3_63)
  have z2m := (((z34.wr z1).wr z2).wr z3)
  obtain ⟨z2n, z59, zk, z5a, z4, z5b⟩ := putF zz hx hZ hown (host := "") (Or.inl (own_W hw 41 rfl)) Via.refl z57 z1f z2m (Or.inl (own_W hw 42 rfl)) (own_W hw 5 rfl) (ty := .int) (by decide) rfl rfl (g := (mkF m 69 #[.val (.ref z0), .val (.double (Jvm.FP.l2d (vx.toInt64))), .second, .val (.int vf), .val (.int vt), .val .null, .val (.int 0), .unset, .unset] [(.int 1), (.ref z0), (.int 0)])) rfl rfl (hb hby y3_69)
  have z5c := Fr.snoc zk z53 zw
  have z5d := z54.wr z4 zw
  have z5e := z55.wr z4 (own_Ix 3 rfl)
  have z5f : Fld Z z59 z0 y_s0 "size" "I" (.int 1) := z1f.same z4
  have z1g := ((((z35.other z1 (Or.inl zg)).other z2 (Or.inl zh)).other z3 (Or.inl zi)).other z4 (Or.inr (slot_ne (Or.inl (own_W hw 44 rfl)) (Or.inl (own_W hw 42 rfl)) (by decide) (t := .long) (t' := .int) (by decide) (by decide))))
  obtain ⟨z1h, z10, z5g, z5h⟩ := getF zk hx hZ hown (host := "") (Or.inl (own_W hw 43 rfl)) Via.refl z5a z1g (g := (mkF m 124 #[.val (.ref z0), .val (.double (Jvm.FP.l2d (vx.toInt64))), .second, .val (.int vf), .val (.int vt), .val .null, .val (.int 0), .val (.int 0), .unset] [(.ref z0), (.ref z0), (.double (Jvm.FP.l2d (vx.toInt64))), (.int 0), (.ref z0)])) rfl rfl (hb hby y3_124)
  have z2o := (z2m.wr z4)
  obtain ⟨z5i, z2p, z1i, z2q, z5, z5j⟩ := putF z10 hx hZ hown (host := "") (Or.inl (own_W hw 43 rfl)) Via.refl z5g z1g z2o (Or.inl (own_W hw 44 rfl)) (own_W hw 5 rfl) (ty := .long) (by decide) rfl rfl (g := (mkF m 130 #[.val (.ref z0), .val (.double (Jvm.FP.l2d (vx.toInt64))), .second, .val (.int vf), .val (.int vt), .val .null, .val (.int 0), .val (.int 0), .unset] [(.long (ga + (1 : Int64))), (.ref z0), (.long ga), (.double (Jvm.FP.l2d (vx.toInt64))), (.int 0), (.ref z0)])) rfl rfl (hb hby y3_130)
  have z5k := Fr.snoc z1i z5c zw
  have z2r := z5d.wr z5 zw
  have z5l := z5e.wr z5 (own_Ix 3 rfl)
  have z5m : Fld Z z2p z0 y_s0 "additions" "J" (.long (ga + (1 : Int64))) := z1g.same z5
  have z2s := (((((z36.other z1 (Or.inl zg)).other z2 (Or.inl zh)).other z3 (Or.inl zi)).other z4 (Or.inr (slot_ne (Or.inl (own_W hw 15 rfl)) (Or.inl (own_W hw 42 rfl)) (by decide) (t := (.array .double)) (t' := .int) (by decide) (by decide)))).other z5 (Or.inr (slot_ne (Or.inl (own_W hw 15 rfl)) (Or.inl (own_W hw 44 rfl)) (by decide) (t := (.array .double)) (t' := .long) (by decide) (by decide))))
  have z5n := (((((z37.other z1 z1p).other z2 z1q).other z3 z1r).other z4 (Ne.symm ze)).other z5 (Ne.symm ze))
  have z2t := (((((z38.other z1 (Or.inl zg)).other z2 (Or.inl zh)).other z3 (Or.inl zi)).other z4 (Or.inr (slot_ne (Or.inl (own_W hw 18 rfl)) (Or.inl (own_W hw 42 rfl)) (by decide) (t := (.array .long)) (t' := .int) (by decide) (by decide)))).other z5 (Or.inr (slot_ne (Or.inl (own_W hw 18 rfl)) (Or.inl (own_W hw 44 rfl)) (by decide) (t := (.array .long)) (t' := .long) (by decide) (by decide))))
  have z5o := (((((z39.other z1 z1s).other z2 z1t).other z3 z1u).other z4 (Ne.symm zf)).other z5 (Ne.symm zf))
  have z2u := (((((z14.other z1 (Or.inl zg)).other z2 (Or.inl zh)).other z3 (Or.inl zi)).other z4 (Or.inr (slot_ne (Or.inl (own_W hw 21 rfl)) (Or.inl (own_W hw 42 rfl)) (by decide) (t := (.array .int)) (t' := .int) (by decide) (by decide)))).other z5 (Or.inr (slot_ne (Or.inl (own_W hw 21 rfl)) (Or.inl (own_W hw 44 rfl)) (by decide) (t := (.array .int)) (t' := .long) (by decide) (by decide))))
  have z5p := (((((z15.other z1 z1v).other z2 z1w).other z3 z1x).other z4 (Ne.symm zj)).other z5 (Ne.symm zj))
  have z2v := (z2o.wr z5)
  obtain ⟨cq108, z5q, q108'⟩ := z2v.cell
  obtain ⟨_, _, ⟨z1j, L108, z6j, n108⟩, -, zo, ⟨Lc108, z2w, l108, y108, z108⟩, z2x⟩ := z1i.privateBack hx (y := own_m4) hown (mvT hZ (own_W hw 45 rfl)) (mvT hZ (own_W hw 46 rfl)) (own_selpS (y := own_m4) (mvT hZ (own_W hw 39 rfl)) rfl (mvP (args := #[]) hZ (own_W hw 47 rfl)) (mvT hZ (own_W hw 46 rfl)) (by decide)) (Cond.privateMethod_at (mvP hZ (own_W hw 47 rfl) (args := #[]))) (mvT hZ (own_W hw 48 rfl)) (by decide) (backOf (W := 0) (rmP0 l Z a0 hw [] z2p n0 A K x1 x2 x3 c1 c2 c3 s1 s2 s3 vx ga (0 : Int32) z0 zc zd z6 zr zs zt EN z2r z2s z5n z2t z5o z2u z5p ze z3b zf z3c z3d z21 z22 z23) hZ (own_W hw 48 rfl) (own_W hw 6 rfl) (by decide) (by decide)) (g := (mkF m 135 #[.val (.ref z0), .val (.double (Jvm.FP.l2d (vx.toInt64))), .second, .val (.int vf), .val (.int vt), .val .null, .val (.int 0), .val (.int 0), .unset] [(.int 0), (.long ga), (.double (Jvm.FP.l2d (vx.toInt64))), (.int 0), (.ref z0)])) rfl (by rw [hml]; rfl) (Steps.refl _) (a := z0) (by rw [z2q]; exact z5q) q108' (argsL := [(.int 0), (.double (Jvm.FP.l2d (vx.toInt64))), (.long ga), (.int 0)]) (rest := []) (lenOf own_pd0 rfl) rfl (by show 2 * 0 + _ ≤ _; exact Nat.le_of_eq rfl) (hb hby y3_135) (fun _ _ => ⟨rfl, z2q, (by decide : 0 + 0 ≤ _), (by decide : 0 + 0 ≤ _)⟩)
  dsimp only [Pt.U, Pt.locs, Pt.cells, Pt.slots] at zo l108 y108 z108 z2x z2w
  replace zo := own_sub zo l108 y108 z108
  obtain ⟨rfl, z5r, za, z5s, z5t, z5u⟩ := z2w
  have z5v := Fr.app z5k z5r
  have z6k := z2r.keep za (allS z21 (allS z22 (allS z23 all0)))
  have z5w := z5l.trans za (allS (own_Ix 6 rfl) (allS (own_Ix 5 rfl) (allS (own_Ix 4 rfl) all0)))
  have z5x := (z2v.keep za)
  have z5y := (z2s.keep za (ninS ze (ninS zf (ninS zj nin0))))
  have z5z := (z2t.keep za (ninS ze (ninS zf (ninS zj nin0))))
  have z60 := (z2u.keep za (ninS ze (ninS zf (ninS zj nin0))))
  have z61 := ((((((z1l.other z1 (Or.inl zg)).other z2 (Or.inl zh)).other z3 (Or.inl zi)).other z4 (Or.inr (slot_ne (Or.inl (own_W hw 23 rfl)) (Or.inl (own_W hw 42 rfl)) (by decide) (t := (.array .int)) (t' := .int) (by decide) (by decide)))).other z5 (Or.inr (slot_ne (Or.inl (own_W hw 23 rfl)) (Or.inl (own_W hw 44 rfl)) (by decide) (t := (.array .int)) (t' := .long) (by decide) (by decide)))).keep za (ninS ze (ninS zf (ninS zj nin0))))
  have z62 := (((((z2f.other z2 (Or.inl zh)).other z3 (Or.inl zi)).other z4 (Or.inr (slot_ne (Or.inl (own_W hw 25 rfl)) (Or.inl (own_W hw 42 rfl)) (by decide) (t := (.array .int)) (t' := .int) (by decide) (by decide)))).other z5 (Or.inr (slot_ne (Or.inl (own_W hw 25 rfl)) (Or.inl (own_W hw 44 rfl)) (by decide) (t := (.array .int)) (t' := .long) (by decide) (by decide)))).keep za (ninS ze (ninS zf (ninS zj nin0))))
  have z63 := ((((z2j.other z3 (Or.inl zi)).other z4 (Or.inr (slot_ne (Or.inl (own_W hw 29 rfl)) (Or.inl (own_W hw 42 rfl)) (by decide) (t := (.array (.object y_s2))) (t' := .int) (by decide) (by decide)))).other z5 (Or.inr (slot_ne (Or.inl (own_W hw 29 rfl)) (Or.inl (own_W hw 44 rfl)) (by decide) (t := (.array (.object y_s2))) (t' := .long) (by decide) (by decide)))).keep za (ninS ze (ninS zf (ninS zj nin0))))
  have z64 := ((((((z1k.other z1 (Or.inl zg)).other z2 (Or.inl zh)).other z3 (Or.inl zi)).other z4 (Or.inr (slot_ne (Or.inl (own_W hw 31 rfl)) (Or.inl (own_W hw 42 rfl)) (by decide) (t := (.array .int)) (t' := .int) (by decide) (by decide)))).other z5 (Or.inr (slot_ne (Or.inl (own_W hw 31 rfl)) (Or.inl (own_W hw 44 rfl)) (by decide) (t := (.array .int)) (t' := .long) (by decide) (by decide)))).keep za (ninS ze (ninS zf (ninS zj nin0))))
  have z65 := ((z5f.other z5 (Or.inr (slot_ne (Or.inl (own_W hw 42 rfl)) (Or.inl (own_W hw 44 rfl)) (by decide) (t := .int) (t' := .long) (by decide) (by decide)))).keep za (ninS ze (ninS zf (ninS zj nin0))))
  have z66 := (z5m.keep za (ninS ze (ninS zf (ninS zj nin0))))
  have z67 := (((((z4a.other z2 z1m).other z3 z1n).other z4 (Ne.symm zg)).other z5 (Ne.symm zg)).keep za (ninS (Ne.symm z1p) (ninS (Ne.symm z1s) (ninS (Ne.symm z1v) nin0))))
  have z68 := ((((z4r.other z3 z1o).other z4 (Ne.symm zh)).other z5 (Ne.symm zh)).keep za (ninS (Ne.symm z1q) (ninS (Ne.symm z1t) (ninS (Ne.symm z1w) nin0))))
  have z69 : own_AM Z z1j.heap z7 zl (.object y_s2) := (((z56.other z4 (Ne.symm zi)).other z5 (Ne.symm zi)).keep za (ninS (Ne.symm z1r) (ninS (Ne.symm z1u) (ninS (Ne.symm z1x) nin0))))
  obtain ⟨fs, hr, hrun, hended, hW, hsame⟩ := zo.leave (v := none) (fun _ => rfl)
  refine ⟨_, _, pre0 _ ?_, hrun, hended, _, _, rfl, ?_, ⟨_, rfl⟩, hW, hsame.mono (by decide) (by decide)⟩
  · show Steps p.tables e below (s₁.setTop (mkF m 0 #[.val (.ref z0), .val (.double (Jvm.FP.l2d (vx.toInt64))), .second, .val (.int vf), .val (.int vt), .val .null, .unset, .unset, .unset] [])) _
    refine XS.aloadN X0.here hx rfl (hb hby y3_0) rfl rfl ?_
    refine z3g _ ?_
    show Steps p.tables e below (z3e.setTop (mkF m 4 #[.val (.ref z0), .val (.double (Jvm.FP.l2d (vx.toInt64))), .second, .val (.int vf), .val (.int vt), .val .null, .unset, .unset, .unset] [(.int 0)])) _
    refine XS.aloadN z24.here hx rfl (hb hby y3_4) rfl rfl ?_
    refine z3h _ ?_
    show Steps p.tables e below (z16.setTop (mkF m 8 #[.val (.ref z0), .val (.double (Jvm.FP.l2d (vx.toInt64))), .second, .val (.int vf), .val (.int vt), .val .null, .unset, .unset, .unset] [(.ref z6), (.int 0)])) _
    refine zx.arraylength hx (by rw [z25]; exact z26.1) (State.isArrayOf_alike hZ.alike z26.2.1) (g := (mkF m 8 #[.val (.ref z0), .val (.double (Jvm.FP.l2d (vx.toInt64))), .second, .val (.int vf), .val (.int vt), .val .null, .unset, .unset, .unset] [(.ref z6), (.int 0)])) rfl rfl (hb hby y3_8) _ ?_
    rw [len_of z3i z3j]
    show Steps p.tables e below (z16.setTop (mkF m 9 #[.val (.ref z0), .val (.double (Jvm.FP.l2d (vx.toInt64))), .second, .val (.int vf), .val (.int vt), .val .null, .unset, .unset, .unset] [(.int 16), (.int 0)])) _
    refine XS.icmpYes zx.here hx rfl (pc0 := 9) (pc' := 16) rfl (hb hby y3_9) rfl (feq (by decide : ¬ ((0 : Int32) = (16 : Int32)))).2 (by decide) (by decide) ?_
    show Steps p.tables e below (z16.setTop (mkF m 16 #[.val (.ref z0), .val (.double (Jvm.FP.l2d (vx.toInt64))), .second, .val (.int vf), .val (.int vt), .val .null, .unset, .unset, .unset] [])) _
    refine XS.aloadN zx.here hx rfl (hb hby y3_16) rfl rfl ?_
    refine z3m _ ?_
    show Steps p.tables e below (z3k.setTop (mkF m 20 #[.val (.ref z0), .val (.double (Jvm.FP.l2d (vx.toInt64))), .second, .val (.int vf), .val (.int vt), .val .null, .unset, .unset, .unset] [(.ref zb)])) _
    refine XS.aloadN z27.here hx rfl (hb hby y3_20) rfl rfl ?_
    refine z3n _ ?_
    show Steps p.tables e below (z17.setTop (mkF m 24 #[.val (.ref z0), .val (.double (Jvm.FP.l2d (vx.toInt64))), .second, .val (.int vf), .val (.int vt), .val .null, .unset, .unset, .unset] [(.ref z6), (.ref zb)])) _
    refine zm.arraylength hx (by rw [z28]; exact z29.1) (State.isArrayOf_alike hZ.alike z29.2.1) (g := (mkF m 24 #[.val (.ref z0), .val (.double (Jvm.FP.l2d (vx.toInt64))), .second, .val (.int vf), .val (.int vt), .val .null, .unset, .unset, .unset] [(.ref z6), (.ref zb)])) rfl rfl (hb hby y3_24) _ ?_
    rw [len_of z3o z3p]
    show Steps p.tables e below (z17.setTop (mkF m 25 #[.val (.ref z0), .val (.double (Jvm.FP.l2d (vx.toInt64))), .second, .val (.int vf), .val (.int vt), .val .null, .unset, .unset, .unset] [(.int 16), (.ref zb)])) _
    refine XS.iconst zm.here hx rfl (hb hby y3_25) ?_
    refine XS.isub zm.here hx rfl (hb hby y3_26) rfl ?_
    show Steps p.tables e below (z17.setTop (mkF m 27 #[.val (.ref z0), .val (.double (Jvm.FP.l2d (vx.toInt64))), .second, .val (.int vf), .val (.int vt), .val .null, .unset, .unset, .unset] [(.int 15), (.ref zb)])) _
    refine XS.aloadN zm.here hx rfl (hb hby y3_27) rfl rfl ?_
    refine z3q _ ?_
    show Steps p.tables e below (z18.setTop (mkF m 31 #[.val (.ref z0), .val (.double (Jvm.FP.l2d (vx.toInt64))), .second, .val (.int vf), .val (.int vt), .val .null, .unset, .unset, .unset] [(.int 0), (.int 15), (.ref zb)])) _
    refine XS.isub zn.here hx rfl (hb hby y3_31) rfl ?_
    show Steps p.tables e below (z18.setTop (mkF m 32 #[.val (.ref z0), .val (.double (Jvm.FP.l2d (vx.toInt64))), .second, .val (.int vf), .val (.int vt), .val .null, .unset, .unset, .unset] [(.int 15), (.ref zb)])) _
    refine zn.iaload hx (j := (15 : Int32)) (v := (.int 0)) (by rw [z2a]; exact z19.1) (State.isArrayOf_alike hZ.alike z19.2.1) z19.2.2 z2c z3t (g := (mkF m 32 #[.val (.ref z0), .val (.double (Jvm.FP.l2d (vx.toInt64))), .second, .val (.int vf), .val (.int vt), .val .null, .unset, .unset, .unset] [(.int 15), (.ref zb)])) rfl rfl (hb hby y3_32) _ ?_
    show Steps p.tables e below (z18.setTop (mkF m 33 #[.val (.ref z0), .val (.double (Jvm.FP.l2d (vx.toInt64))), .second, .val (.int vf), .val (.int vt), .val .null, .unset, .unset, .unset] [(.int 0)])) _
    refine XS.istore zn.here hx rfl (hb hby y3_33) rfl (l' := #[.val (.ref z0), .val (.double (Jvm.FP.l2d (vx.toInt64))), .second, .val (.int vf), .val (.int vt), .val .null, .val (.int 0), .unset, .unset]) rfl ?_
    refine XS.aloadN zn.here hx rfl (hb hby y3_35) rfl rfl ?_
    refine z3w _ ?_
    show Steps p.tables e below (z3u.setTop (mkF m 39 #[.val (.ref z0), .val (.double (Jvm.FP.l2d (vx.toInt64))), .second, .val (.int vf), .val (.int vt), .val .null, .val (.int 0), .unset, .unset] [(.ref z8)])) _
    refine XS.iload z1a.here hx rfl (hb hby y3_39) rfl ?_
    refine XS.iloadN z1a.here hx rfl (hb hby y3_41) rfl ?_
    refine z46 _ ?_
    show Steps p.tables e below (z43.setTop (mkF m 43 #[.val (.ref z0), .val (.double (Jvm.FP.l2d (vx.toInt64))), .second, .val (.int vf), .val (.int vt), .val .null, .val (.int 0), .unset, .unset] [])) _
    refine XS.aloadN z1b.here hx rfl (hb hby y3_43) rfl rfl ?_
    refine z4d _ ?_
    show Steps p.tables e below (z4b.setTop (mkF m 47 #[.val (.ref z0), .val (.double (Jvm.FP.l2d (vx.toInt64))), .second, .val (.int vf), .val (.int vt), .val .null, .val (.int 0), .unset, .unset] [(.ref z9)])) _
    refine XS.iload z1c.here hx rfl (hb hby y3_47) rfl ?_
    refine XS.iload z1c.here hx rfl (hb hby y3_49) rfl ?_
    refine z4n _ ?_
    show Steps p.tables e below (z4l.setTop (mkF m 52 #[.val (.ref z0), .val (.double (Jvm.FP.l2d (vx.toInt64))), .second, .val (.int vf), .val (.int vt), .val .null, .val (.int 0), .unset, .unset] [])) _
    refine XS.aloadN z1d.here hx rfl (hb hby y3_52) rfl rfl ?_
    refine z4u _ ?_
    show Steps p.tables e below (z4s.setTop (mkF m 56 #[.val (.ref z0), .val (.double (Jvm.FP.l2d (vx.toInt64))), .second, .val (.int vf), .val (.int vt), .val .null, .val (.int 0), .unset, .unset] [(.ref z7)])) _
    refine XS.iload z1e.here hx rfl (hb hby y3_56) rfl ?_
    refine XS.aload z1e.here hx rfl (hb hby y3_58) rfl rfl ?_
    refine z52 _ ?_
    show Steps p.tables e below (z4z.setTop (mkF m 61 #[.val (.ref z0), .val (.double (Jvm.FP.l2d (vx.toInt64))), .second, .val (.int vf), .val (.int vt), .val .null, .val (.int 0), .unset, .unset] [])) _
    refine XS.aloadN zy.here hx rfl (hb hby y3_61) rfl rfl ?_
    refine XS.dup zy.here hx rfl (hb hby y3_62) rfl rfl ?_
    refine z58 _ ?_
    show Steps p.tables e below (z2l.setTop (mkF m 66 #[.val (.ref z0), .val (.double (Jvm.FP.l2d (vx.toInt64))), .second, .val (.int vf), .val (.int vt), .val .null, .val (.int 0), .unset, .unset] [(.int 0), (.ref z0)])) _
    refine XS.dupX1 zz.here hx rfl (hb hby y3_66) rfl rfl rfl ?_
    refine XS.iconst zz.here hx rfl (hb hby y3_67) ?_
    refine XS.iadd zz.here hx rfl (hb hby y3_68) rfl ?_
    show Steps p.tables e below (z2l.setTop (mkF m 69 #[.val (.ref z0), .val (.double (Jvm.FP.l2d (vx.toInt64))), .second, .val (.int vf), .val (.int vt), .val .null, .val (.int 0), .unset, .unset] [(.int 1), (.ref z0), (.int 0)])) _
    refine z5b _ ?_
    show Steps p.tables e below (z2n.setTop (mkF m 72 #[.val (.ref z0), .val (.double (Jvm.FP.l2d (vx.toInt64))), .second, .val (.int vf), .val (.int vt), .val .null, .val (.int 0), .unset, .unset] [(.int 0)])) _
    refine XS.istore zk.here hx rfl (hb hby y3_72) rfl (l' := #[.val (.ref z0), .val (.double (Jvm.FP.l2d (vx.toInt64))), .second, .val (.int vf), .val (.int vt), .val .null, .val (.int 0), .val (.int 0), .unset]) rfl ?_
    refine XS.iload zk.here hx rfl (hb hby y3_74) rfl ?_
    refine XS.ifYes zk.here hx rfl (pc0 := 76) (pc' := 118) rfl (hb hby y3_76) rfl ((if0 _ _).trans (flt (by decide : ¬ ((0 : Int32) < (0 : Int32)))).2.2.2) (by decide) (by decide) ?_
    show Steps p.tables e below (z2n.setTop (mkF m 118 #[.val (.ref z0), .val (.double (Jvm.FP.l2d (vx.toInt64))), .second, .val (.int vf), .val (.int vt), .val .null, .val (.int 0), .val (.int 0), .unset] [])) _
    refine XS.aloadN zk.here hx rfl (hb hby y3_118) rfl rfl ?_
    refine XS.iload zk.here hx rfl (hb hby y3_119) rfl ?_
    refine XS.dloadN zk.here hx rfl (hb hby y3_121) rfl ?_
    refine XS.aloadN zk.here hx rfl (hb hby y3_122) rfl rfl ?_
    refine XS.dup zk.here hx rfl (hb hby y3_123) rfl rfl ?_
    refine z5h _ ?_
    show Steps p.tables e below (z1h.setTop (mkF m 127 #[.val (.ref z0), .val (.double (Jvm.FP.l2d (vx.toInt64))), .second, .val (.int vf), .val (.int vt), .val .null, .val (.int 0), .val (.int 0), .unset] [(.long ga), (.ref z0), (.double (Jvm.FP.l2d (vx.toInt64))), (.int 0), (.ref z0)])) _
    refine own_dup2X1 z10.here hx rfl (hb hby y3_127) rfl ?_
    show Steps p.tables e below (z1h.setTop (mkF m 128 #[.val (.ref z0), .val (.double (Jvm.FP.l2d (vx.toInt64))), .second, .val (.int vf), .val (.int vt), .val .null, .val (.int 0), .val (.int 0), .unset] [(.long ga), (.ref z0), (.long ga), (.double (Jvm.FP.l2d (vx.toInt64))), (.int 0), (.ref z0)])) _
    refine XS.lconst z10.here hx rfl (hb hby y3_128) ?_
    refine XS.ladd z10.here hx rfl (hb hby y3_129) rfl ?_
    show Steps p.tables e below (z1h.setTop (mkF m 130 #[.val (.ref z0), .val (.double (Jvm.FP.l2d (vx.toInt64))), .second, .val (.int vf), .val (.int vt), .val .null, .val (.int 0), .val (.int 0), .unset] [(.long (ga + (1 : Int64))), (.ref z0), (.long ga), (.double (Jvm.FP.l2d (vx.toInt64))), (.int 0), (.ref z0)])) _
    refine z5j _ ?_
    show Steps p.tables e below (z5i.setTop (mkF m 133 #[.val (.ref z0), .val (.double (Jvm.FP.l2d (vx.toInt64))), .second, .val (.int vf), .val (.int vt), .val .null, .val (.int 0), .val (.int 0), .unset] [(.long ga), (.double (Jvm.FP.l2d (vx.toInt64))), (.int 0), (.ref z0)])) _
    refine XS.iload z1i.here hx rfl (hb hby y3_133) rfl ?_
    refine z2x.trans ?_
    show Steps p.tables e below (z1j.setTop (mkF m 138 #[.val (.ref z0), .val (.double (Jvm.FP.l2d (vx.toInt64))), .second, .val (.int vf), .val (.int vt), .val .null, .val (.int 0), .val (.int 0), .unset] [])) _
    exact zo.returnOut hx Bd.returns (hb hby y3_138) hr
  · show Q_rmA0 Z A K x1 x2 x3 c1 c2 c3 s1 s2 s3 z11 zp zq t1 t2 t3 ga vx vf vt z0 zc zd z6 z8 z9 z7 zb zr zs zt zu zv zl z12 h0 n0 _ z1j.heap _
    exact ⟨rfl, z5v, z5w, z5x, z5y, z5z, z60, z61, z62, z63, z64, z65, z66, z5s, z5t, z5u, z67, z68, z69, z3a⟩
def Q_rmA1y (Z : State) (A : Nat → Addr) (K : Nat → ClassId) (x1 : Int32) (x2 : Int32) (x3 : Int32) (c1 : Int64) (c2 : Int64) (c3 : Int64) (s1 : Int32) (s2 : Int32) (s3 : Int32) (z8 : Int32) (zg : Int32) (z9 : Int32) (t1 : Int32) (t2 : Int32) (t3 : Int32) (ga : Int64) (vx : Int32) (vf : Int32) (vt : Int32) (z0 : Addr) (z1 : Addr) (z2 : Addr) (z3 : Addr) (z4 : Addr) (z5 : Addr) (z6 : Addr) (za : Addr) (zb : ClassId) (zc : ClassId) (zd : ClassId) (ze : ClassId) (zf : ClassId) (z7 : ClassId) (zh : ClassId) (h0 : Heap) (n0 : Nat) (v : Option Value) (h : Heap) (L : List Loc) : Prop := v = none ∧ Fr n0 L ∧ Keep h0 h [z4, z5, z6, z0, z1, z2, z3] ∧ (Exa Z h z0 y_s0) ∧ (Fld Z h z0 y_s0 "at" "[D" (.ref z1)) ∧ (Fld Z h z0 y_s0 "added" "[J" (.ref z2)) ∧ (Fld Z h z0 y_s0 "slot" "[I" (.ref z3)) ∧ (Fld Z h z0 y_s0 "from" "[I" (.ref z4)) ∧ (Fld Z h z0 y_s0 "to" "[I" (.ref z5)) ∧ (Fld Z h z0 y_s0 "message" y_s1 (.ref z6)) ∧ (Fld Z h z0 y_s0 "free" "[I" (.ref za)) ∧ (Fld Z h z0 y_s0 "size" "I" (.int 2)) ∧ (Fld Z h z0 y_s0 "additions" "J" (.long (ga + (1 : Int64)))) ∧ (Arv Z h z1 zb .double (16 : Int32) [(.double (Jvm.FP.l2d (vx.toInt64))), (.double (Jvm.FP.l2d (x1.toInt64))), (.double (Jvm.FP.l2d (x3.toInt64)))] (.double (Jvm.FP.l2d ((0 : Int32).toInt64)))) ∧ (Arv Z h z2 zc .long (16 : Int32) [(.long ga), (.long c1), (.long c3)] (.long 0)) ∧ (Arv Z h z3 zd .int 16 [(.int 1), (.int s1), (.int s3)] (.int 0)) ∧ (Arv Z h z4 ze .int 16 [(.int z8), (.int vf), (.int z9)] (.int 0)) ∧ (Arv Z h z5 zf .int 16 [(.int t1), (.int vt), (.int t3)] (.int 0)) ∧ (own_AM Z h z6 z7 (.object y_s2)) ∧ (Ovr Z z7 y_s2)
theorem y3_79 : decode prog_48_method_2_code 79 = .ok (.dload_n 1, 1) := by decide +kernel
theorem y3_80 : decode prog_48_method_2_code 80 = .ok (.aload_n 0, 1) := by decide +kernel
theorem y3_81 : decode prog_48_method_2_code 81 = .ok (.getfield 9, 3) := by decide +kernel
theorem y3_84 : decode prog_48_method_2_code 84 = .ok (.iload 7, 2) := by decide +kernel
theorem y3_86 : decode prog_48_method_2_code 86 = .ok (.iconst 1, 1) := by decide +kernel
theorem y3_87 : decode prog_48_method_2_code 87 = .ok (.isub, 1) := by decide +kernel
theorem y3_88 : decode prog_48_method_2_code 88 = .ok (.iconst 4, 1) := by decide +kernel
theorem y3_89 : decode prog_48_method_2_code 89 = .ok (.idiv, 1) := by decide +kernel
theorem y3_90 : decode prog_48_method_2_code 90 = .ok (.daload, 1) := by decide +kernel
theorem y3_91 : decode prog_48_method_2_code 91 = .ok (.dcmp .g, 1) := by decide +kernel
theorem y3_92 : decode prog_48_method_2_code 92 = .ok (.ifCond .ge 26, 3) := by decide +kernel
theorem y3_95 : decode prog_48_method_2_code 95 = .ok (.iload 7, 2) := by decide +kernel
theorem y3_97 : decode prog_48_method_2_code 97 = .ok (.iconst 1, 1) := by decide +kernel
theorem y3_98 : decode prog_48_method_2_code 98 = .ok (.isub, 1) := by decide +kernel
theorem y3_99 : decode prog_48_method_2_code 99 = .ok (.iconst 4, 1) := by decide +kernel
theorem y3_100 : decode prog_48_method_2_code 100 = .ok (.idiv, 1) := by decide +kernel
theorem y3_101 : decode prog_48_method_2_code 101 = .ok (.istore 8, 2) := by decide +kernel
theorem y3_103 : decode prog_48_method_2_code 103 = .ok (.aload_n 0, 1) := by decide +kernel
theorem y3_104 : decode prog_48_method_2_code 104 = .ok (.iload 8, 2) := by decide +kernel
theorem y3_106 : decode prog_48_method_2_code 106 = .ok (.iload 7, 2) := by decide +kernel
theorem y3_108 : decode prog_48_method_2_code 108 = .ok (.invokevirtual 47, 3) := by decide +kernel
theorem y3_111 : decode prog_48_method_2_code 111 = .ok (.iload 8, 2) := by decide +kernel
theorem y3_113 : decode prog_48_method_2_code 113 = .ok (.istore 7, 2) := by decide +kernel
theorem y3_115 : decode prog_48_method_2_code 115 = .ok (.goto (-41), 3) := by decide +kernel
set_option maxRecDepth 65536 in
set_option maxHeartbeats 40000000 in
theorem rmA1y (l : Launch) (Z : State) (a0 : Array Value) (hw : ∀ d ∈ tables_1, d.before a0 Z = true) (ws : List Jvm.Cond) (h0 : Heap) (n0 : Nat) (A : Nat → Addr) (K : Nat → ClassId) (x1 : Int32) (x2 : Int32) (x3 : Int32) (c1 : Int64) (c2 : Int64) (c3 : Int64) (s1 : Int32) (s2 : Int32) (s3 : Int32) (zw : Int32) (z18 : Int32) (zx : Int32) (t1 : Int32) (t2 : Int32) (t3 : Int32) (ga : Int64) (vx : Int32) (vf : Int32) (vt : Int32)  (z0 : Addr) (z4 : Addr) (zh : Addr) (z5 : Addr) (zd : Addr) (ze : Addr) (zc : Addr) (zi : Addr) (zq : ClassId) (zr : ClassId) (zs : ClassId) (zy : ClassId) (zz : ClassId) (zo : ClassId) (z19 : ClassId) (EN : own_St Z A K) (OL0 : Old Z n0 h0) (z1a : Fld Z h0 z0 y_s0 "size" "I" (.int 1)) (z1b : Fld Z h0 z0 y_s0 "slot" "[I" (.ref z5)) (z1c : Arv Z h0 z5 zs .int 16 [(.int s1), (.int s2), (.int s3)] (.int 0)) (z24 : Fld Z h0 z0 y_s0 "free" "[I" (.ref zi)) (z3j : Arv Z h0 zi z19 .int 16 [(.int 15), (.int 14), (.int 13), (.int 12), (.int 11), (.int 10), (.int 9), (.int 8), (.int 7), (.int 6), (.int 5), (.int 4), (.int 3), (.int 2), (.int 1), (.int 0)] (.int 0)) (z25 : Fld Z h0 z0 y_s0 "from" "[I" (.ref zd)) (z3k : Arv Z h0 zd zy .int 16 [(.int zw), (.int z18), (.int zx)] (.int 0)) (z3l : Fld Z h0 z0 y_s0 "to" "[I" (.ref ze)) (z3m : Arv Z h0 ze zz .int 16 [(.int t1), (.int t2), (.int t3)] (.int 0)) (z3n : Fld Z h0 z0 y_s0 "message" y_s1 (.ref zc)) (z3o : own_AM Z h0 zc zo (.object y_s2)) (z3p : Exa Z h0 z0 y_s0) (z3q : Fld Z h0 z0 y_s0 "at" "[D" (.ref z4)) (z3r : Arv Z h0 z4 zq .double (16 : Int32) [(.double (Jvm.FP.l2d (x1.toInt64))), (.double (Jvm.FP.l2d (x2.toInt64))), (.double (Jvm.FP.l2d (x3.toInt64)))] (.double (Jvm.FP.l2d ((0 : Int32).toInt64)))) (z3s : Fld Z h0 z0 y_s0 "added" "[J" (.ref zh)) (z3t : Arv Z h0 zh zr .long (16 : Int32) [(.long c1), (.long c2), (.long c3)] (.long 0)) (z3u : Fld Z h0 z0 y_s0 "additions" "J" (.long ga)) (z3v : Ovr Z zo y_s2) (hri : vx < x1) (zk : z0 ≠ zd) (z26 : zd ≠ ze) (zl : z0 ≠ ze) (z27 : zd ≠ zc) (z28 : ze ≠ zc) (zm : z0 ≠ zc) (z1d : z4 ≠ zd) (z1e : z4 ≠ ze) (z1f : z4 ≠ zc) (z1 : z0 ≠ z4) (z1g : zh ≠ zd) (z1h : zh ≠ ze) (z1i : zh ≠ zc) (z2 : z0 ≠ zh) (z1j : z5 ≠ zd) (z1k : z5 ≠ ze) (z1l : z5 ≠ zc) (z3 : z0 ≠ z5) (z29 : z4 ≠ zh) (z2a : z4 ≠ z5) (z2b : zh ≠ z5) (z2c : n0 ≤ zd) (z2d : n0 ≤ ze) (z2e : n0 ≤ zc) (z10 : n0 ≤ z0) (z11 : n0 ≤ z4) (z12 : n0 ≤ zh) (z13 : n0 ≤ z5) :
    MetFree l own_m0 (head1 (Jvm.Cond.code own_m0 prog_48_method_2_code 9 none :: ws) (Room.mk 2 0 0 32)) (fun a U => a = #[(.ref z0), (.double (Jvm.FP.l2d (vx.toInt64))), (.int vf), (.int vt), .null] ∧ Z.Warmed39 U.vm ∧ U.heap = h0) (fun _ _ _ _ _ => True) (fun _ U o U' => ∃ v L, o = .returned v ∧ Q_rmA1y Z A K x1 x2 x3 c1 c2 c3 s1 s2 s3 zw z18 zx t1 t2 t3 ga vx vf vt z0 z4 zh z5 zd ze zc zi zq zr zs zy zz zo z19 h0 n0 v U'.heap L ∧ FrameEnd U o U' L (Room.mk 2 0 0 32).cells (Room.mk 2 0 0 32).slots) := by
  refine MetFree.of_bodySF (plainFor_of_name own_pn0) hisR ?_
  intro p e s m args below meth c s₁ Bd hml0 hP hK
  obtain ⟨rfl, hZ, hh⟩ := hP
  have hx := Bd.exec
  have hby := Bd.bytes
  have hml : c.maxLocals = 9 := hml0
  have hown : s.vm.findClass y_s0 = some m.cls := findClass_of_methodNamed Bd.named
  have hnm := (name_of_methodNamed Bd.named Bd.method).1
  have X0 : Stand p l e (Room.mk 2 0 0 32) s m #[(.ref z0), (.double (Jvm.FP.l2d (vx.toInt64))), (.int vf), (.int vt), .null] below meth c s₁ [] 0 0 := Stand.of_body Bd
  have e0 : s₁.heap = h0 := by rw [← hh, Bd.state]; rfl
  have N0 := Fr.nil n0
  have pre0 : ∀ t, Steps p.tables e below (s₁.setTop (mkF m 0 #[.val (.ref z0), .val (.double (Jvm.FP.l2d (vx.toInt64))), .second, .val (.int vf), .val (.int vt), .val .null, .unset, .unset, .unset] [])) t → Steps p.tables e below (s₁.setTop (entryFrame m #[(.ref z0), (.double (Jvm.FP.l2d (vx.toInt64))), (.int vf), (.int vt), .null] 9)) t := fun t k => castTop (by first | (simp [entryFrame, mkF, argsToLocals, Value.category, maxLocals]; done) | rfl) k
  have KK0 : Keep h0 h0 [zd, ze, zc, z0, z4, zh, z5] := Keep.refl _ _
  obtain ⟨z3w, z2f, z3x, z3y⟩ := getF X0 hx hZ hown (host := "") (Or.inl (own_W hw 41 rfl)) Via.refl e0 z1a (g := (mkF m 1 #[.val (.ref z0), .val (.double (Jvm.FP.l2d (vx.toInt64))), .second, .val (.int vf), .val (.int vt), .val .null, .unset, .unset, .unset] [(.ref z0)])) rfl rfl (hb hby y3_1)
  obtain ⟨z1m, z14, z2g, z3z⟩ := getF z2f hx hZ hown (host := "") (Or.inl (own_W hw 20 rfl)) Via.refl z3x z1b (g := (mkF m 5 #[.val (.ref z0), .val (.double (Jvm.FP.l2d (vx.toInt64))), .second, .val (.int vf), .val (.int vt), .val .null, .unset, .unset, .unset] [(.ref z0), (.int 1)])) rfl rfl (hb hby y3_5)
  obtain ⟨z74, z2h, -, z40, z41, -, -⟩ := (id z1c)
  obtain ⟨z42, z2i, z43, z44⟩ := getF z14 hx hZ hown (host := "") (Or.inl (own_W hw 30 rfl)) Via.refl z2g z24 (g := (mkF m 17 #[.val (.ref z0), .val (.double (Jvm.FP.l2d (vx.toInt64))), .second, .val (.int vf), .val (.int vt), .val .null, .unset, .unset, .unset] [(.ref z0)])) rfl rfl (hb hby y3_17)
  obtain ⟨z1n, zt, z2j, z45⟩ := getF z2i hx hZ hown (host := "") (Or.inl (own_W hw 20 rfl)) Via.refl z43 z1b (g := (mkF m 21 #[.val (.ref z0), .val (.double (Jvm.FP.l2d (vx.toInt64))), .second, .val (.int vf), .val (.int vt), .val .null, .unset, .unset, .unset] [(.ref z0), (.ref zi)])) rfl rfl (hb hby y3_21)
  obtain ⟨z75, z2k, -, z46, z47, -, -⟩ := (id z1c)
  obtain ⟨z1o, zu, z2l, z48⟩ := getF zt hx hZ hown (host := "") (Or.inl (own_W hw 41 rfl)) Via.refl z2j z1a (g := (mkF m 28 #[.val (.ref z0), .val (.double (Jvm.FP.l2d (vx.toInt64))), .second, .val (.int vf), .val (.int vt), .val .null, .unset, .unset, .unset] [(.ref z0), (.int 15), (.ref zi)])) rfl rfl (hb hby y3_28)
  obtain ⟨z2m, z1p, z76, z49, z77, z4a, z78⟩ := (id z3j)
  have z2n : ¬ ((14 : Int32) < 0 ∨ z2m.slots.size ≤ ((14 : Int32)).toNatClampNeg) := inb_of z49 ⟨by decide, by decide⟩
  have z4b : z2m.slots[((14 : Int32)).toNatClampNeg]? = some (.int 1) := Has.at z4a z2n rfl
  obtain ⟨z4c, z1q, z4d, z4e⟩ := getF zu hx hZ hown (host := "") (Or.inl (own_W hw 22 rfl)) Via.refl z2l z25 (g := (mkF m 36 #[.val (.ref z0), .val (.double (Jvm.FP.l2d (vx.toInt64))), .second, .val (.int vf), .val (.int vt), .val .null, .val (.int 1), .unset, .unset] [(.ref z0)])) rfl rfl (hb hby y3_36)
  obtain ⟨z4f, z2o, z4g, z2p, z4h, z4i, z4j⟩ := (id z3k)
  have z4k : ¬ ((1 : Int32) < 0 ∨ z4f.slots.size ≤ ((1 : Int32)).toNatClampNeg) := inb_of z2p ⟨by decide, by decide⟩
  obtain ⟨z4l, z4m, z1r, z4n, z6, z4o⟩ := stI z1q hx hZ z4d z2o (j := (1 : Int32)) z4k (g := (mkF m 42 #[.val (.ref z0), .val (.double (Jvm.FP.l2d (vx.toInt64))), .second, .val (.int vf), .val (.int vt), .val .null, .val (.int 1), .unset, .unset] [(.int vf), (.int 1), (.ref zd)])) rfl rfl (hb hby y3_42)
  have z4p := Fr.snoc z1r N0 z2c
  have z4q := OL0.wr z6 z2c
  have z4r := KK0.wr z6 (own_Ix 0 rfl)
  have z4s : Arv Z z4m zd zy .int 16 [(.int zw), (.int vf), (.int zx)] (.int 0) := Arv.set z2o z4g z2p z4h z4i z4j rfl z6 1 (by decide) (by decide : 1 < 3)
  have z2q := (z3l.other z6 (Or.inl zk))
  obtain ⟨z4t, z1s, z4u, z4v⟩ := getF z1r hx hZ hown (host := "") (Or.inl (own_W hw 24 rfl)) Via.refl z4n z2q (g := (mkF m 44 #[.val (.ref z0), .val (.double (Jvm.FP.l2d (vx.toInt64))), .second, .val (.int vf), .val (.int vt), .val .null, .val (.int 1), .unset, .unset] [(.ref z0)])) rfl rfl (hb hby y3_44)
  have z4w := (z3m.other z6 (Ne.symm z26))
  obtain ⟨z4x, z2r, z4y, z2s, z4z, z50, z51⟩ := (id z4w)
  have z52 : ¬ ((1 : Int32) < 0 ∨ z4x.slots.size ≤ ((1 : Int32)).toNatClampNeg) := inb_of z2s ⟨by decide, by decide⟩
  obtain ⟨z53, z2t, z1t, z54, z7, z55⟩ := stI z1s hx hZ z4u z2r (j := (1 : Int32)) z52 (g := (mkF m 51 #[.val (.ref z0), .val (.double (Jvm.FP.l2d (vx.toInt64))), .second, .val (.int vf), .val (.int vt), .val .null, .val (.int 1), .unset, .unset] [(.int vt), (.int 1), (.ref ze)])) rfl rfl (hb hby y3_51)
  have z56 := Fr.snoc z1t z4p z2d
  have z57 := z4q.wr z7 z2d
  have z58 := z4r.wr z7 (own_Ix 1 rfl)
  have z59 : Arv Z z2t ze zz .int 16 [(.int t1), (.int vt), (.int t3)] (.int 0) := Arv.set z2r z4y z2s z4z z50 z51 rfl z7 1 (by decide) (by decide : 1 < 3)
  have z2u := ((z3n.other z6 (Or.inl zk)).other z7 (Or.inl zl))
  obtain ⟨z5a, z1u, z5b, z5c⟩ := getF z1t hx hZ hown (host := "") (Or.inl (own_W hw 28 rfl)) Via.refl z54 z2u (g := (mkF m 53 #[.val (.ref z0), .val (.double (Jvm.FP.l2d (vx.toInt64))), .second, .val (.int vf), .val (.int vt), .val .null, .val (.int 1), .unset, .unset] [(.ref z0)])) rfl rfl (hb hby y3_53)
  have z2v : own_AM Z z2t zc zo (.object y_s2) := ((z3o.other z6 (Ne.symm z27)).other z7 (Ne.symm z28))
  obtain ⟨vs142, dv142, z5d, z5e, z79, z5f, z7a, z7b, z7c⟩ := (id z2v)
  have z5g : ¬ ((1 : Int32) < 0 ∨ z5d.slots.size ≤ ((1 : Int32)).toNatClampNeg) := inb_of z5f ⟨by decide, by decide⟩
  obtain ⟨z5h, z5i, z15, z5j, z8, z5k⟩ := stR z1u hx hZ z5b z5e (j := (1 : Int32)) z5g rfl (Or.inl rfl) (g := (mkF m 60 #[.val (.ref z0), .val (.double (Jvm.FP.l2d (vx.toInt64))), .second, .val (.int vf), .val (.int vt), .val .null, .val (.int 1), .unset, .unset] [.null, (.int 1), (.ref zc)])) rfl rfl (hb hby y3_60)
  have z5l := Fr.snoc z15 z56 z2e
  have z5m := z57.wr z8 z2e
  have z5n := z58.wr z8 (own_Ix 2 rfl)
  have z5o : own_AM Z z5i zc zo (.object y_s2) := own_AM.set z2v rfl z8
  have z1v := (((z1a.other z6 (Or.inl zk)).other z7 (Or.inl zl)).other z8 (Or.inl zm))
  obtain ⟨z2w, z16, z5p, z5q⟩ := getF z15 hx hZ hown (host := "") (Or.inl (own_W hw 41 rfl)) Via.refl z5j z1v (g := (mkF m 63 #[.val (.ref z0), .val (.double (Jvm.FP.l2d (vx.toInt64))), .second, .val (.int vf), .val (.int vt), .val .null, .val (.int 1), .unset, .unset] [(.ref z0), (.ref z0)])) rfl rfl (hb hby y3_63)
  have z2x := (((z3p.wr z6).wr z7).wr z8)
  obtain ⟨z2y, z2z, zp, z5r, z9, z5s⟩ := putF z16 hx hZ hown (host := "") (Or.inl (own_W hw 41 rfl)) Via.refl z5p z1v z2x (Or.inl (own_W hw 42 rfl)) (own_W hw 5 rfl) (ty := .int) (by decide) rfl rfl (g := (mkF m 69 #[.val (.ref z0), .val (.double (Jvm.FP.l2d (vx.toInt64))), .second, .val (.int vf), .val (.int vt), .val .null, .val (.int 1), .unset, .unset] [(.int 2), (.ref z0), (.int 1)])) rfl rfl (hb hby y3_69)
  have z5t := Fr.snoc zp z5l z10
  have z30 := z5m.wr z9 z10
  have z5u := z5n.wr z9 (own_Ix 3 rfl)
  have z5v : Fld Z z2z z0 y_s0 "size" "I" (.int 2) := z1v.same z9
  have z1w := ((((z3q.other z6 (Or.inl zk)).other z7 (Or.inl zl)).other z8 (Or.inl zm)).other z9 (Or.inr (slot_ne (Or.inl (own_W hw 15 rfl)) (Or.inl (own_W hw 42 rfl)) (by decide) (t := (.array .double)) (t' := .int) (by decide) (by decide))))
  obtain ⟨zn, za, z1x, z5w⟩ := getF zp hx hZ hown (host := "") (Or.inl (own_W hw 14 rfl)) Via.refl z5r z1w (g := (mkF m 81 #[.val (.ref z0), .val (.double (Jvm.FP.l2d (vx.toInt64))), .second, .val (.int vf), .val (.int vt), .val .null, .val (.int 1), .val (.int 1), .unset] [(.ref z0), (.double (Jvm.FP.l2d (vx.toInt64)))])) rfl rfl (hb hby y3_81)
  have z31 := ((((z3r.other z6 z1d).other z7 z1e).other z8 z1f).other z9 (Ne.symm z1))
  obtain ⟨z32, z1y, z7d, z5x, z7e, z5y, z7f⟩ := (id z31)
  have z33 : ¬ ((0 : Int32) < 0 ∨ z32.slots.size ≤ ((0 : Int32)).toNatClampNeg) := inb_of z5x ⟨by decide, by decide⟩
  have z5z : z32.slots[((0 : Int32)).toNatClampNeg]? = some (.double (Jvm.FP.l2d (x1.toInt64))) := Has.at z5y z33 rfl
  have z34 := ((((z3s.other z6 (Or.inl zk)).other z7 (Or.inl zl)).other z8 (Or.inl zm)).other z9 (Or.inr (slot_ne (Or.inl (own_W hw 18 rfl)) (Or.inl (own_W hw 42 rfl)) (by decide) (t := (.array .long)) (t' := .int) (by decide) (by decide))))
  have z60 := ((((z3t.other z6 z1g).other z7 z1h).other z8 z1i).other z9 (Ne.symm z2))
  have z35 := ((((z1b.other z6 (Or.inl zk)).other z7 (Or.inl zl)).other z8 (Or.inl zm)).other z9 (Or.inr (slot_ne (Or.inl (own_W hw 21 rfl)) (Or.inl (own_W hw 42 rfl)) (by decide) (t := (.array .int)) (t' := .int) (by decide) (by decide))))
  have z61 := ((((z1c.other z6 z1j).other z7 z1k).other z8 z1l).other z9 (Ne.symm z3))
  have z1z := (z2x.wr z9)
  obtain ⟨cq157, z62, q157'⟩ := z1z.cell
  obtain ⟨_, _, ⟨z36, L157, z7g, n157⟩, -, zj, ⟨Lc157, z37, l157, y157, z157⟩, z38⟩ := za.privateBack hx (y := own_m6) hown (mvT hZ (own_W hw 66 rfl)) (mvT hZ (own_W hw 67 rfl)) (own_selpS (y := own_m6) (mvT hZ (own_W hw 39 rfl)) rfl (mvP (args := #[]) hZ (own_W hw 68 rfl)) (mvT hZ (own_W hw 67 rfl)) (by decide)) (Cond.privateMethod_at (mvP hZ (own_W hw 68 rfl) (args := #[]))) (mvT hZ (own_W hw 69 rfl)) (by decide) (backOf (W := 0) (rmM01 l Z a0 hw [] z2z n0 A K x1 x2 x3 c1 c2 c3 s1 s2 s3 z0 z4 zh z5 zq zr zs EN z30 z1w z31 z34 z60 z35 z61 z1z z1 z29 z2 z2a z2b z11 z12 z13) hZ (own_W hw 69 rfl) (own_W hw 6 rfl) (by decide) (by decide)) (g := (mkF m 108 #[.val (.ref z0), .val (.double (Jvm.FP.l2d (vx.toInt64))), .second, .val (.int vf), .val (.int vt), .val .null, .val (.int 1), .val (.int 1), .val (.int 0)] [(.int 1), (.int 0), (.ref z0)])) rfl (by rw [hml]; rfl) (Steps.refl _) (a := z0) (by rw [z1x]; exact z62) q157' (argsL := [(.int 0), (.int 1)]) (rest := []) (lenOf own_pd1 rfl) rfl (by show 2 * 0 + _ ≤ _; exact Nat.le_of_eq rfl) (hb hby y3_108) (fun _ _ => ⟨rfl, z1x, (by decide : 0 + 0 ≤ _), (by decide : 0 + 0 ≤ _)⟩)
  dsimp only [Pt.U, Pt.locs, Pt.cells, Pt.slots] at zj l157 y157 z157 z38 z37
  replace zj := own_sub zj l157 y157 z157
  obtain ⟨rfl, z63, zf, z64, z65, z66⟩ := z37
  have z67 := Fr.app z5t z63
  have z68 := z30.keep zf (allS z13 (allS z12 (allS z11 all0)))
  have z69 := z5u.trans zf (allS (own_Ix 6 rfl) (allS (own_Ix 5 rfl) (allS (own_Ix 4 rfl) all0)))
  have z20 := (((((z3u.other z6 (Or.inl zk)).other z7 (Or.inl zl)).other z8 (Or.inl zm)).other z9 (Or.inr (slot_ne (Or.inl (own_W hw 44 rfl)) (Or.inl (own_W hw 42 rfl)) (by decide) (t := .long) (t' := .int) (by decide) (by decide)))).keep zf (ninS z3 (ninS z2 (ninS z1 nin0))))
  obtain ⟨z21, z17, z6a, z6b⟩ := getF zj hx hZ hown (host := "") (Or.inl (own_W hw 43 rfl)) Via.refl rfl z20 (g := (mkF m 124 #[.val (.ref z0), .val (.double (Jvm.FP.l2d (vx.toInt64))), .second, .val (.int vf), .val (.int vt), .val .null, .val (.int 1), .val (.int 0), .val (.int 0)] [(.ref z0), (.ref z0), (.double (Jvm.FP.l2d (vx.toInt64))), (.int 0), (.ref z0)])) rfl rfl (hb hby y3_124)
  have z39 := (z1z.keep zf)
  obtain ⟨z6c, z3a, z22, z3b, zb, z6d⟩ := putF z17 hx hZ hown (host := "") (Or.inl (own_W hw 43 rfl)) Via.refl z6a z20 z39 (Or.inl (own_W hw 44 rfl)) (own_W hw 5 rfl) (ty := .long) (by decide) rfl rfl (g := (mkF m 130 #[.val (.ref z0), .val (.double (Jvm.FP.l2d (vx.toInt64))), .second, .val (.int vf), .val (.int vt), .val .null, .val (.int 1), .val (.int 0), .val (.int 0)] [(.long (ga + (1 : Int64))), (.ref z0), (.long ga), (.double (Jvm.FP.l2d (vx.toInt64))), (.int 0), (.ref z0)])) rfl rfl (hb hby y3_130)
  have z6e := Fr.snoc z22 z67 z10
  have z3c := z68.wr zb z10
  have z6f := z69.wr zb (own_Ix 3 rfl)
  have z6g : Fld Z z3a z0 y_s0 "additions" "J" (.long (ga + (1 : Int64))) := z20.same zb
  have z3d := ((z1w.keep zf (ninS z3 (ninS z2 (ninS z1 nin0)))).other zb (Or.inr (slot_ne (Or.inl (own_W hw 15 rfl)) (Or.inl (own_W hw 44 rfl)) (by decide) (t := (.array .double)) (t' := .long) (by decide) (by decide))))
  have z6h := (z64.other zb (Ne.symm z1))
  have z3e := ((z34.keep zf (ninS z3 (ninS z2 (ninS z1 nin0)))).other zb (Or.inr (slot_ne (Or.inl (own_W hw 18 rfl)) (Or.inl (own_W hw 44 rfl)) (by decide) (t := (.array .long)) (t' := .long) (by decide) (by decide))))
  have z6i := (z65.other zb (Ne.symm z2))
  have z3f := ((z35.keep zf (ninS z3 (ninS z2 (ninS z1 nin0)))).other zb (Or.inr (slot_ne (Or.inl (own_W hw 21 rfl)) (Or.inl (own_W hw 44 rfl)) (by decide) (t := (.array .int)) (t' := .long) (by decide) (by decide))))
  have z6j := (z66.other zb (Ne.symm z3))
  have z3g := (z39.wr zb)
  obtain ⟨cq168, z6k, q168'⟩ := z3g.cell
  obtain ⟨_, _, ⟨z23, L168, z7h, n168⟩, -, zv, ⟨Lc168, z3h, l168, y168, z168⟩, z3i⟩ := z22.privateBack hx (y := own_m4) hown (mvT hZ (own_W hw 45 rfl)) (mvT hZ (own_W hw 46 rfl)) (own_selpS (y := own_m4) (mvT hZ (own_W hw 39 rfl)) rfl (mvP (args := #[]) hZ (own_W hw 47 rfl)) (mvT hZ (own_W hw 46 rfl)) (by decide)) (Cond.privateMethod_at (mvP hZ (own_W hw 47 rfl) (args := #[]))) (mvT hZ (own_W hw 48 rfl)) (by decide) (backOf (W := 0) (rmP0 l Z a0 hw [] z3a n0 A K x1 x1 x3 c1 c1 c3 s1 s1 s3 vx ga (1 : Int32) z0 z4 zh z5 zq zr zs EN z3c z3d z6h z3e z6i z3f z6j z1 z29 z2 z2a z2b z11 z12 z13) hZ (own_W hw 48 rfl) (own_W hw 6 rfl) (by decide) (by decide)) (g := (mkF m 135 #[.val (.ref z0), .val (.double (Jvm.FP.l2d (vx.toInt64))), .second, .val (.int vf), .val (.int vt), .val .null, .val (.int 1), .val (.int 0), .val (.int 0)] [(.int 1), (.long ga), (.double (Jvm.FP.l2d (vx.toInt64))), (.int 0), (.ref z0)])) rfl (by rw [hml]; rfl) (Steps.refl _) (a := z0) (by rw [z3b]; exact z6k) q168' (argsL := [(.int 0), (.double (Jvm.FP.l2d (vx.toInt64))), (.long ga), (.int 1)]) (rest := []) (lenOf own_pd0 rfl) rfl (by show 2 * 0 + _ ≤ _; exact Nat.le_of_eq rfl) (hb hby y3_135) (fun _ _ => ⟨rfl, z3b, (by decide : 0 + 0 ≤ _), (by decide : 0 + 0 ≤ _)⟩)
  dsimp only [Pt.U, Pt.locs, Pt.cells, Pt.slots] at zv l168 y168 z168 z3i z3h
  replace zv := own_sub zv l168 y168 z168
  obtain ⟨rfl, z6l, zg, z6m, z6n, z6o⟩ := z3h
  have z6p := Fr.app z6e z6l
  have z7i := z3c.keep zg (allS z11 (allS z12 (allS z13 all0)))
  have z6q := z6f.trans zg (allS (own_Ix 4 rfl) (allS (own_Ix 5 rfl) (allS (own_Ix 6 rfl) all0)))
  have z6r := (z3g.keep zg)
  have z6s := (z3d.keep zg (ninS z1 (ninS z2 (ninS z3 nin0))))
  have z6t := (z3e.keep zg (ninS z1 (ninS z2 (ninS z3 nin0))))
  have z6u := (z3f.keep zg (ninS z1 (ninS z2 (ninS z3 nin0))))
  have z6v := (((((((z25.other z6 (Or.inl zk)).other z7 (Or.inl zl)).other z8 (Or.inl zm)).other z9 (Or.inr (slot_ne (Or.inl (own_W hw 23 rfl)) (Or.inl (own_W hw 42 rfl)) (by decide) (t := (.array .int)) (t' := .int) (by decide) (by decide)))).keep zf (ninS z3 (ninS z2 (ninS z1 nin0)))).other zb (Or.inr (slot_ne (Or.inl (own_W hw 23 rfl)) (Or.inl (own_W hw 44 rfl)) (by decide) (t := (.array .int)) (t' := .long) (by decide) (by decide)))).keep zg (ninS z1 (ninS z2 (ninS z3 nin0))))
  have z6w := ((((((z2q.other z7 (Or.inl zl)).other z8 (Or.inl zm)).other z9 (Or.inr (slot_ne (Or.inl (own_W hw 25 rfl)) (Or.inl (own_W hw 42 rfl)) (by decide) (t := (.array .int)) (t' := .int) (by decide) (by decide)))).keep zf (ninS z3 (ninS z2 (ninS z1 nin0)))).other zb (Or.inr (slot_ne (Or.inl (own_W hw 25 rfl)) (Or.inl (own_W hw 44 rfl)) (by decide) (t := (.array .int)) (t' := .long) (by decide) (by decide)))).keep zg (ninS z1 (ninS z2 (ninS z3 nin0))))
  have z6x := (((((z2u.other z8 (Or.inl zm)).other z9 (Or.inr (slot_ne (Or.inl (own_W hw 29 rfl)) (Or.inl (own_W hw 42 rfl)) (by decide) (t := (.array (.object y_s2))) (t' := .int) (by decide) (by decide)))).keep zf (ninS z3 (ninS z2 (ninS z1 nin0)))).other zb (Or.inr (slot_ne (Or.inl (own_W hw 29 rfl)) (Or.inl (own_W hw 44 rfl)) (by decide) (t := (.array (.object y_s2))) (t' := .long) (by decide) (by decide)))).keep zg (ninS z1 (ninS z2 (ninS z3 nin0))))
  have z6y := (((((((z24.other z6 (Or.inl zk)).other z7 (Or.inl zl)).other z8 (Or.inl zm)).other z9 (Or.inr (slot_ne (Or.inl (own_W hw 31 rfl)) (Or.inl (own_W hw 42 rfl)) (by decide) (t := (.array .int)) (t' := .int) (by decide) (by decide)))).keep zf (ninS z3 (ninS z2 (ninS z1 nin0)))).other zb (Or.inr (slot_ne (Or.inl (own_W hw 31 rfl)) (Or.inl (own_W hw 44 rfl)) (by decide) (t := (.array .int)) (t' := .long) (by decide) (by decide)))).keep zg (ninS z1 (ninS z2 (ninS z3 nin0))))
  have z6z := (((z5v.keep zf (ninS z3 (ninS z2 (ninS z1 nin0)))).other zb (Or.inr (slot_ne (Or.inl (own_W hw 42 rfl)) (Or.inl (own_W hw 44 rfl)) (by decide) (t := .int) (t' := .long) (by decide) (by decide)))).keep zg (ninS z1 (ninS z2 (ninS z3 nin0))))
  have z70 := (z6g.keep zg (ninS z1 (ninS z2 (ninS z3 nin0))))
  have z71 := ((((((z4s.other z7 z26).other z8 z27).other z9 (Ne.symm zk)).keep zf (ninS (Ne.symm z1j) (ninS (Ne.symm z1g) (ninS (Ne.symm z1d) nin0)))).other zb (Ne.symm zk)).keep zg (ninS (Ne.symm z1d) (ninS (Ne.symm z1g) (ninS (Ne.symm z1j) nin0))))
  have z72 := (((((z59.other z8 z28).other z9 (Ne.symm zl)).keep zf (ninS (Ne.symm z1k) (ninS (Ne.symm z1h) (ninS (Ne.symm z1e) nin0)))).other zb (Ne.symm zl)).keep zg (ninS (Ne.symm z1e) (ninS (Ne.symm z1h) (ninS (Ne.symm z1k) nin0))))
  have z73 : own_AM Z z23.heap zc zo (.object y_s2) := ((((z5o.other z9 (Ne.symm zm)).keep zf (ninS (Ne.symm z1l) (ninS (Ne.symm z1i) (ninS (Ne.symm z1f) nin0)))).other zb (Ne.symm zm)).keep zg (ninS (Ne.symm z1f) (ninS (Ne.symm z1i) (ninS (Ne.symm z1l) nin0))))
  obtain ⟨fs, hr, hrun, hended, hW, hsame⟩ := zv.leave (v := none) (fun _ => rfl)
  refine ⟨_, _, pre0 _ ?_, hrun, hended, _, _, rfl, ?_, ⟨_, rfl⟩, hW, hsame.mono (by decide) (by decide)⟩
  · show Steps p.tables e below (s₁.setTop (mkF m 0 #[.val (.ref z0), .val (.double (Jvm.FP.l2d (vx.toInt64))), .second, .val (.int vf), .val (.int vt), .val .null, .unset, .unset, .unset] [])) _
    refine XS.aloadN X0.here hx rfl (hb hby y3_0) rfl rfl ?_
    refine z3y _ ?_
    show Steps p.tables e below (z3w.setTop (mkF m 4 #[.val (.ref z0), .val (.double (Jvm.FP.l2d (vx.toInt64))), .second, .val (.int vf), .val (.int vt), .val .null, .unset, .unset, .unset] [(.int 1)])) _
    refine XS.aloadN z2f.here hx rfl (hb hby y3_4) rfl rfl ?_
    refine z3z _ ?_
    show Steps p.tables e below (z1m.setTop (mkF m 8 #[.val (.ref z0), .val (.double (Jvm.FP.l2d (vx.toInt64))), .second, .val (.int vf), .val (.int vt), .val .null, .unset, .unset, .unset] [(.ref z5), (.int 1)])) _
    refine z14.arraylength hx (by rw [z2g]; exact z2h.1) (State.isArrayOf_alike hZ.alike z2h.2.1) (g := (mkF m 8 #[.val (.ref z0), .val (.double (Jvm.FP.l2d (vx.toInt64))), .second, .val (.int vf), .val (.int vt), .val .null, .unset, .unset, .unset] [(.ref z5), (.int 1)])) rfl rfl (hb hby y3_8) _ ?_
    rw [len_of z40 z41]
    show Steps p.tables e below (z1m.setTop (mkF m 9 #[.val (.ref z0), .val (.double (Jvm.FP.l2d (vx.toInt64))), .second, .val (.int vf), .val (.int vt), .val .null, .unset, .unset, .unset] [(.int 16), (.int 1)])) _
    refine XS.icmpYes z14.here hx rfl (pc0 := 9) (pc' := 16) rfl (hb hby y3_9) rfl (feq (by decide : ¬ ((1 : Int32) = (16 : Int32)))).2 (by decide) (by decide) ?_
    show Steps p.tables e below (z1m.setTop (mkF m 16 #[.val (.ref z0), .val (.double (Jvm.FP.l2d (vx.toInt64))), .second, .val (.int vf), .val (.int vt), .val .null, .unset, .unset, .unset] [])) _
    refine XS.aloadN z14.here hx rfl (hb hby y3_16) rfl rfl ?_
    refine z44 _ ?_
    show Steps p.tables e below (z42.setTop (mkF m 20 #[.val (.ref z0), .val (.double (Jvm.FP.l2d (vx.toInt64))), .second, .val (.int vf), .val (.int vt), .val .null, .unset, .unset, .unset] [(.ref zi)])) _
    refine XS.aloadN z2i.here hx rfl (hb hby y3_20) rfl rfl ?_
    refine z45 _ ?_
    show Steps p.tables e below (z1n.setTop (mkF m 24 #[.val (.ref z0), .val (.double (Jvm.FP.l2d (vx.toInt64))), .second, .val (.int vf), .val (.int vt), .val .null, .unset, .unset, .unset] [(.ref z5), (.ref zi)])) _
    refine zt.arraylength hx (by rw [z2j]; exact z2k.1) (State.isArrayOf_alike hZ.alike z2k.2.1) (g := (mkF m 24 #[.val (.ref z0), .val (.double (Jvm.FP.l2d (vx.toInt64))), .second, .val (.int vf), .val (.int vt), .val .null, .unset, .unset, .unset] [(.ref z5), (.ref zi)])) rfl rfl (hb hby y3_24) _ ?_
    rw [len_of z46 z47]
    show Steps p.tables e below (z1n.setTop (mkF m 25 #[.val (.ref z0), .val (.double (Jvm.FP.l2d (vx.toInt64))), .second, .val (.int vf), .val (.int vt), .val .null, .unset, .unset, .unset] [(.int 16), (.ref zi)])) _
    refine XS.iconst zt.here hx rfl (hb hby y3_25) ?_
    refine XS.isub zt.here hx rfl (hb hby y3_26) rfl ?_
    show Steps p.tables e below (z1n.setTop (mkF m 27 #[.val (.ref z0), .val (.double (Jvm.FP.l2d (vx.toInt64))), .second, .val (.int vf), .val (.int vt), .val .null, .unset, .unset, .unset] [(.int 15), (.ref zi)])) _
    refine XS.aloadN zt.here hx rfl (hb hby y3_27) rfl rfl ?_
    refine z48 _ ?_
    show Steps p.tables e below (z1o.setTop (mkF m 31 #[.val (.ref z0), .val (.double (Jvm.FP.l2d (vx.toInt64))), .second, .val (.int vf), .val (.int vt), .val .null, .unset, .unset, .unset] [(.int 1), (.int 15), (.ref zi)])) _
    refine XS.isub zu.here hx rfl (hb hby y3_31) rfl ?_
    show Steps p.tables e below (z1o.setTop (mkF m 32 #[.val (.ref z0), .val (.double (Jvm.FP.l2d (vx.toInt64))), .second, .val (.int vf), .val (.int vt), .val .null, .unset, .unset, .unset] [(.int 14), (.ref zi)])) _
    refine zu.iaload hx (j := (14 : Int32)) (v := (.int 1)) (by rw [z2l]; exact z1p.1) (State.isArrayOf_alike hZ.alike z1p.2.1) z1p.2.2 z2n z4b (g := (mkF m 32 #[.val (.ref z0), .val (.double (Jvm.FP.l2d (vx.toInt64))), .second, .val (.int vf), .val (.int vt), .val .null, .unset, .unset, .unset] [(.int 14), (.ref zi)])) rfl rfl (hb hby y3_32) _ ?_
    show Steps p.tables e below (z1o.setTop (mkF m 33 #[.val (.ref z0), .val (.double (Jvm.FP.l2d (vx.toInt64))), .second, .val (.int vf), .val (.int vt), .val .null, .unset, .unset, .unset] [(.int 1)])) _
    refine XS.istore zu.here hx rfl (hb hby y3_33) rfl (l' := #[.val (.ref z0), .val (.double (Jvm.FP.l2d (vx.toInt64))), .second, .val (.int vf), .val (.int vt), .val .null, .val (.int 1), .unset, .unset]) rfl ?_
    refine XS.aloadN zu.here hx rfl (hb hby y3_35) rfl rfl ?_
    refine z4e _ ?_
    show Steps p.tables e below (z4c.setTop (mkF m 39 #[.val (.ref z0), .val (.double (Jvm.FP.l2d (vx.toInt64))), .second, .val (.int vf), .val (.int vt), .val .null, .val (.int 1), .unset, .unset] [(.ref zd)])) _
    refine XS.iload z1q.here hx rfl (hb hby y3_39) rfl ?_
    refine XS.iloadN z1q.here hx rfl (hb hby y3_41) rfl ?_
    refine z4o _ ?_
    show Steps p.tables e below (z4l.setTop (mkF m 43 #[.val (.ref z0), .val (.double (Jvm.FP.l2d (vx.toInt64))), .second, .val (.int vf), .val (.int vt), .val .null, .val (.int 1), .unset, .unset] [])) _
    refine XS.aloadN z1r.here hx rfl (hb hby y3_43) rfl rfl ?_
    refine z4v _ ?_
    show Steps p.tables e below (z4t.setTop (mkF m 47 #[.val (.ref z0), .val (.double (Jvm.FP.l2d (vx.toInt64))), .second, .val (.int vf), .val (.int vt), .val .null, .val (.int 1), .unset, .unset] [(.ref ze)])) _
    refine XS.iload z1s.here hx rfl (hb hby y3_47) rfl ?_
    refine XS.iload z1s.here hx rfl (hb hby y3_49) rfl ?_
    refine z55 _ ?_
    show Steps p.tables e below (z53.setTop (mkF m 52 #[.val (.ref z0), .val (.double (Jvm.FP.l2d (vx.toInt64))), .second, .val (.int vf), .val (.int vt), .val .null, .val (.int 1), .unset, .unset] [])) _
    refine XS.aloadN z1t.here hx rfl (hb hby y3_52) rfl rfl ?_
    refine z5c _ ?_
    show Steps p.tables e below (z5a.setTop (mkF m 56 #[.val (.ref z0), .val (.double (Jvm.FP.l2d (vx.toInt64))), .second, .val (.int vf), .val (.int vt), .val .null, .val (.int 1), .unset, .unset] [(.ref zc)])) _
    refine XS.iload z1u.here hx rfl (hb hby y3_56) rfl ?_
    refine XS.aload z1u.here hx rfl (hb hby y3_58) rfl rfl ?_
    refine z5k _ ?_
    show Steps p.tables e below (z5h.setTop (mkF m 61 #[.val (.ref z0), .val (.double (Jvm.FP.l2d (vx.toInt64))), .second, .val (.int vf), .val (.int vt), .val .null, .val (.int 1), .unset, .unset] [])) _
    refine XS.aloadN z15.here hx rfl (hb hby y3_61) rfl rfl ?_
    refine XS.dup z15.here hx rfl (hb hby y3_62) rfl rfl ?_
    refine z5q _ ?_
    show Steps p.tables e below (z2w.setTop (mkF m 66 #[.val (.ref z0), .val (.double (Jvm.FP.l2d (vx.toInt64))), .second, .val (.int vf), .val (.int vt), .val .null, .val (.int 1), .unset, .unset] [(.int 1), (.ref z0)])) _
    refine XS.dupX1 z16.here hx rfl (hb hby y3_66) rfl rfl rfl ?_
    refine XS.iconst z16.here hx rfl (hb hby y3_67) ?_
    refine XS.iadd z16.here hx rfl (hb hby y3_68) rfl ?_
    show Steps p.tables e below (z2w.setTop (mkF m 69 #[.val (.ref z0), .val (.double (Jvm.FP.l2d (vx.toInt64))), .second, .val (.int vf), .val (.int vt), .val .null, .val (.int 1), .unset, .unset] [(.int 2), (.ref z0), (.int 1)])) _
    refine z5s _ ?_
    show Steps p.tables e below (z2y.setTop (mkF m 72 #[.val (.ref z0), .val (.double (Jvm.FP.l2d (vx.toInt64))), .second, .val (.int vf), .val (.int vt), .val .null, .val (.int 1), .unset, .unset] [(.int 1)])) _
    refine XS.istore zp.here hx rfl (hb hby y3_72) rfl (l' := #[.val (.ref z0), .val (.double (Jvm.FP.l2d (vx.toInt64))), .second, .val (.int vf), .val (.int vt), .val .null, .val (.int 1), .val (.int 1), .unset]) rfl ?_
    refine XS.iload zp.here hx rfl (hb hby y3_74) rfl ?_
    refine XS.ifNo zp.here hx rfl (hb hby y3_76) rfl ((if0 _ _).trans (tlt (by decide : (0 : Int32) < (1 : Int32))).2.2.2) ?_
    show Steps p.tables e below (z2y.setTop (mkF m 79 #[.val (.ref z0), .val (.double (Jvm.FP.l2d (vx.toInt64))), .second, .val (.int vf), .val (.int vt), .val .null, .val (.int 1), .val (.int 1), .unset] [])) _
    refine XS.dloadN zp.here hx rfl (hb hby y3_79) rfl ?_
    refine XS.aloadN zp.here hx rfl (hb hby y3_80) rfl rfl ?_
    refine z5w _ ?_
    show Steps p.tables e below (zn.setTop (mkF m 84 #[.val (.ref z0), .val (.double (Jvm.FP.l2d (vx.toInt64))), .second, .val (.int vf), .val (.int vt), .val .null, .val (.int 1), .val (.int 1), .unset] [(.ref z4), (.double (Jvm.FP.l2d (vx.toInt64)))])) _
    refine XS.iload za.here hx rfl (hb hby y3_84) rfl ?_
    refine XS.iconst za.here hx rfl (hb hby y3_86) ?_
    refine XS.isub za.here hx rfl (hb hby y3_87) rfl ?_
    show Steps p.tables e below (zn.setTop (mkF m 88 #[.val (.ref z0), .val (.double (Jvm.FP.l2d (vx.toInt64))), .second, .val (.int vf), .val (.int vt), .val .null, .val (.int 1), .val (.int 1), .unset] [(.int 0), (.ref z4), (.double (Jvm.FP.l2d (vx.toInt64)))])) _
    refine XS.iconst za.here hx rfl (hb hby y3_88) ?_
    refine XS.idiv za.here hx rfl (hb hby y3_89) rfl (by decide) ?_
    show Steps p.tables e below (zn.setTop (mkF m 90 #[.val (.ref z0), .val (.double (Jvm.FP.l2d (vx.toInt64))), .second, .val (.int vf), .val (.int vt), .val .null, .val (.int 1), .val (.int 1), .unset] [(.int 0), (.ref z4), (.double (Jvm.FP.l2d (vx.toInt64)))])) _
    refine za.daload hx (j := (0 : Int32)) (v := (.double (Jvm.FP.l2d (x1.toInt64)))) (by rw [z1x]; exact z1y.1) (State.isArrayOf_alike hZ.alike z1y.2.1) z1y.2.2 z33 z5z (g := (mkF m 90 #[.val (.ref z0), .val (.double (Jvm.FP.l2d (vx.toInt64))), .second, .val (.int vf), .val (.int vt), .val .null, .val (.int 1), .val (.int 1), .unset] [(.int 0), (.ref z4), (.double (Jvm.FP.l2d (vx.toInt64)))])) rfl rfl (hb hby y3_90) _ ?_
    show Steps p.tables e below (zn.setTop (mkF m 91 #[.val (.ref z0), .val (.double (Jvm.FP.l2d (vx.toInt64))), .second, .val (.int vf), .val (.int vt), .val .null, .val (.int 1), .val (.int 1), .unset] [(.double (Jvm.FP.l2d (x1.toInt64))), (.double (Jvm.FP.l2d (vx.toInt64)))])) _
    refine XS.dcmpS za.here hx rfl (hb hby y3_91) rfl (dcmpV_w (own_b53 vx) (own_b53 x1) _) ?_
    show Steps p.tables e below (zn.setTop (mkF m 92 #[.val (.ref z0), .val (.double (Jvm.FP.l2d (vx.toInt64))), .second, .val (.int vf), .val (.int vt), .val .null, .val (.int 1), .val (.int 1), .unset] [(.int (lcmpW (vx.toInt64) (x1.toInt64)))])) _
    refine XS.ifNo za.here hx rfl (hb hby y3_92) rfl ((if0 _ _).trans (tlt ((own_llt _ _).mpr hri)).2.1) ?_
    show Steps p.tables e below (zn.setTop (mkF m 95 #[.val (.ref z0), .val (.double (Jvm.FP.l2d (vx.toInt64))), .second, .val (.int vf), .val (.int vt), .val .null, .val (.int 1), .val (.int 1), .unset] [])) _
    refine XS.iload za.here hx rfl (hb hby y3_95) rfl ?_
    refine XS.iconst za.here hx rfl (hb hby y3_97) ?_
    refine XS.isub za.here hx rfl (hb hby y3_98) rfl ?_
    show Steps p.tables e below (zn.setTop (mkF m 99 #[.val (.ref z0), .val (.double (Jvm.FP.l2d (vx.toInt64))), .second, .val (.int vf), .val (.int vt), .val .null, .val (.int 1), .val (.int 1), .unset] [(.int 0)])) _
    refine XS.iconst za.here hx rfl (hb hby y3_99) ?_
    refine XS.idiv za.here hx rfl (hb hby y3_100) rfl (by decide) ?_
    show Steps p.tables e below (zn.setTop (mkF m 101 #[.val (.ref z0), .val (.double (Jvm.FP.l2d (vx.toInt64))), .second, .val (.int vf), .val (.int vt), .val .null, .val (.int 1), .val (.int 1), .unset] [(.int 0)])) _
    refine XS.istore za.here hx rfl (hb hby y3_101) rfl (l' := #[.val (.ref z0), .val (.double (Jvm.FP.l2d (vx.toInt64))), .second, .val (.int vf), .val (.int vt), .val .null, .val (.int 1), .val (.int 1), .val (.int 0)]) rfl ?_
    refine XS.aloadN za.here hx rfl (hb hby y3_103) rfl rfl ?_
    refine XS.iload za.here hx rfl (hb hby y3_104) rfl ?_
    refine XS.iload za.here hx rfl (hb hby y3_106) rfl ?_
    refine z38.trans ?_
    show Steps p.tables e below (z36.setTop (mkF m 111 #[.val (.ref z0), .val (.double (Jvm.FP.l2d (vx.toInt64))), .second, .val (.int vf), .val (.int vt), .val .null, .val (.int 1), .val (.int 1), .val (.int 0)] [])) _
    refine XS.iload zj.here hx rfl (hb hby y3_111) rfl ?_
    refine XS.istore zj.here hx rfl (hb hby y3_113) rfl (l' := #[.val (.ref z0), .val (.double (Jvm.FP.l2d (vx.toInt64))), .second, .val (.int vf), .val (.int vt), .val .null, .val (.int 1), .val (.int 0), .val (.int 0)]) rfl ?_
    refine XS.goto zj.here hx rfl (pc0 := 115) (pc' := 74) rfl (hb hby y3_115) (by decide) (by decide) ?_
    refine XS.iload zj.here hx rfl (hb hby y3_74) rfl ?_
    refine XS.ifYes zj.here hx rfl (pc0 := 76) (pc' := 118) rfl (hb hby y3_76) rfl ((if0 _ _).trans (flt (by decide : ¬ ((0 : Int32) < (0 : Int32)))).2.2.2) (by decide) (by decide) ?_
    show Steps p.tables e below (z36.setTop (mkF m 118 #[.val (.ref z0), .val (.double (Jvm.FP.l2d (vx.toInt64))), .second, .val (.int vf), .val (.int vt), .val .null, .val (.int 1), .val (.int 0), .val (.int 0)] [])) _
    refine XS.aloadN zj.here hx rfl (hb hby y3_118) rfl rfl ?_
    refine XS.iload zj.here hx rfl (hb hby y3_119) rfl ?_
    refine XS.dloadN zj.here hx rfl (hb hby y3_121) rfl ?_
    refine XS.aloadN zj.here hx rfl (hb hby y3_122) rfl rfl ?_
    refine XS.dup zj.here hx rfl (hb hby y3_123) rfl rfl ?_
    refine z6b _ ?_
    show Steps p.tables e below (z21.setTop (mkF m 127 #[.val (.ref z0), .val (.double (Jvm.FP.l2d (vx.toInt64))), .second, .val (.int vf), .val (.int vt), .val .null, .val (.int 1), .val (.int 0), .val (.int 0)] [(.long ga), (.ref z0), (.double (Jvm.FP.l2d (vx.toInt64))), (.int 0), (.ref z0)])) _
    refine own_dup2X1 z17.here hx rfl (hb hby y3_127) rfl ?_
    show Steps p.tables e below (z21.setTop (mkF m 128 #[.val (.ref z0), .val (.double (Jvm.FP.l2d (vx.toInt64))), .second, .val (.int vf), .val (.int vt), .val .null, .val (.int 1), .val (.int 0), .val (.int 0)] [(.long ga), (.ref z0), (.long ga), (.double (Jvm.FP.l2d (vx.toInt64))), (.int 0), (.ref z0)])) _
    refine XS.lconst z17.here hx rfl (hb hby y3_128) ?_
    refine XS.ladd z17.here hx rfl (hb hby y3_129) rfl ?_
    show Steps p.tables e below (z21.setTop (mkF m 130 #[.val (.ref z0), .val (.double (Jvm.FP.l2d (vx.toInt64))), .second, .val (.int vf), .val (.int vt), .val .null, .val (.int 1), .val (.int 0), .val (.int 0)] [(.long (ga + (1 : Int64))), (.ref z0), (.long ga), (.double (Jvm.FP.l2d (vx.toInt64))), (.int 0), (.ref z0)])) _
    refine z6d _ ?_
    show Steps p.tables e below (z6c.setTop (mkF m 133 #[.val (.ref z0), .val (.double (Jvm.FP.l2d (vx.toInt64))), .second, .val (.int vf), .val (.int vt), .val .null, .val (.int 1), .val (.int 0), .val (.int 0)] [(.long ga), (.double (Jvm.FP.l2d (vx.toInt64))), (.int 0), (.ref z0)])) _
    refine XS.iload z22.here hx rfl (hb hby y3_133) rfl ?_
    refine z3i.trans ?_
    show Steps p.tables e below (z23.setTop (mkF m 138 #[.val (.ref z0), .val (.double (Jvm.FP.l2d (vx.toInt64))), .second, .val (.int vf), .val (.int vt), .val .null, .val (.int 1), .val (.int 0), .val (.int 0)] [])) _
    exact zv.returnOut hx Bd.returns (hb hby y3_138) hr
  · show Q_rmA1y Z A K x1 x2 x3 c1 c2 c3 s1 s2 s3 zw z18 zx t1 t2 t3 ga vx vf vt z0 z4 zh z5 zd ze zc zi zq zr zs zy zz zo z19 h0 n0 _ z23.heap _
    exact ⟨rfl, z6p, z6q, z6r, z6s, z6t, z6u, z6v, z6w, z6x, z6y, z6z, z70, z6m, z6n, z6o, z71, z72, z73, z3v⟩
def Q_rmA1n (Z : State) (A : Nat → Addr) (K : Nat → ClassId) (x1 : Int32) (x2 : Int32) (x3 : Int32) (c1 : Int64) (c2 : Int64) (c3 : Int64) (s1 : Int32) (s2 : Int32) (s3 : Int32) (z8 : Int32) (zg : Int32) (z9 : Int32) (t1 : Int32) (t2 : Int32) (t3 : Int32) (ga : Int64) (vx : Int32) (vf : Int32) (vt : Int32) (z0 : Addr) (z1 : Addr) (z2 : Addr) (z3 : Addr) (z4 : Addr) (z5 : Addr) (z6 : Addr) (za : Addr) (zb : ClassId) (zc : ClassId) (zd : ClassId) (ze : ClassId) (zf : ClassId) (z7 : ClassId) (zh : ClassId) (h0 : Heap) (n0 : Nat) (v : Option Value) (h : Heap) (L : List Loc) : Prop := v = none ∧ Fr n0 L ∧ Keep h0 h [z4, z5, z6, z0, z3, z2, z1] ∧ (Exa Z h z0 y_s0) ∧ (Fld Z h z0 y_s0 "at" "[D" (.ref z1)) ∧ (Fld Z h z0 y_s0 "added" "[J" (.ref z2)) ∧ (Fld Z h z0 y_s0 "slot" "[I" (.ref z3)) ∧ (Fld Z h z0 y_s0 "from" "[I" (.ref z4)) ∧ (Fld Z h z0 y_s0 "to" "[I" (.ref z5)) ∧ (Fld Z h z0 y_s0 "message" y_s1 (.ref z6)) ∧ (Fld Z h z0 y_s0 "free" "[I" (.ref za)) ∧ (Fld Z h z0 y_s0 "size" "I" (.int 2)) ∧ (Fld Z h z0 y_s0 "additions" "J" (.long (ga + (1 : Int64)))) ∧ (Arv Z h z1 zb .double (16 : Int32) [(.double (Jvm.FP.l2d (x1.toInt64))), (.double (Jvm.FP.l2d (vx.toInt64))), (.double (Jvm.FP.l2d (x3.toInt64)))] (.double (Jvm.FP.l2d ((0 : Int32).toInt64)))) ∧ (Arv Z h z2 zc .long (16 : Int32) [(.long c1), (.long ga), (.long c3)] (.long 0)) ∧ (Arv Z h z3 zd .int 16 [(.int s1), (.int 1), (.int s3)] (.int 0)) ∧ (Arv Z h z4 ze .int 16 [(.int z8), (.int vf), (.int z9)] (.int 0)) ∧ (Arv Z h z5 zf .int 16 [(.int t1), (.int vt), (.int t3)] (.int 0)) ∧ (own_AM Z h z6 z7 (.object y_s2)) ∧ (Ovr Z z7 y_s2)
set_option maxRecDepth 65536 in
set_option maxHeartbeats 40000000 in
theorem rmA1n (l : Launch) (Z : State) (a0 : Array Value) (hw : ∀ d ∈ tables_1, d.before a0 Z = true) (ws : List Jvm.Cond) (h0 : Heap) (n0 : Nat) (A : Nat → Addr) (K : Nat → ClassId) (x1 : Int32) (x2 : Int32) (x3 : Int32) (c1 : Int64) (c2 : Int64) (c3 : Int64) (s1 : Int32) (s2 : Int32) (s3 : Int32) (zr : Int32) (z13 : Int32) (zs : Int32) (t1 : Int32) (t2 : Int32) (t3 : Int32) (ga : Int64) (vx : Int32) (vf : Int32) (vt : Int32)  (z0 : Addr) (z6 : Addr) (ze : Addr) (z7 : Addr) (z9 : Addr) (za : Addr) (z8 : Addr) (zc : Addr) (zt : ClassId) (zu : ClassId) (zv : ClassId) (zw : ClassId) (zx : ClassId) (zl : ClassId) (z14 : ClassId) (EN : own_St Z A K) (OL0 : Old Z n0 h0) (z15 : Fld Z h0 z0 y_s0 "size" "I" (.int 1)) (z16 : Fld Z h0 z0 y_s0 "slot" "[I" (.ref z7)) (z17 : Arv Z h0 z7 zv .int 16 [(.int s1), (.int s2), (.int s3)] (.int 0)) (z1n : Fld Z h0 z0 y_s0 "free" "[I" (.ref zc)) (z36 : Arv Z h0 zc z14 .int 16 [(.int 15), (.int 14), (.int 13), (.int 12), (.int 11), (.int 10), (.int 9), (.int 8), (.int 7), (.int 6), (.int 5), (.int 4), (.int 3), (.int 2), (.int 1), (.int 0)] (.int 0)) (z1o : Fld Z h0 z0 y_s0 "from" "[I" (.ref z9)) (z37 : Arv Z h0 z9 zw .int 16 [(.int zr), (.int z13), (.int zs)] (.int 0)) (z38 : Fld Z h0 z0 y_s0 "to" "[I" (.ref za)) (z39 : Arv Z h0 za zx .int 16 [(.int t1), (.int t2), (.int t3)] (.int 0)) (z3a : Fld Z h0 z0 y_s0 "message" y_s1 (.ref z8)) (z3b : own_AM Z h0 z8 zl (.object y_s2)) (z3c : Exa Z h0 z0 y_s0) (z3d : Fld Z h0 z0 y_s0 "at" "[D" (.ref z6)) (z3e : Arv Z h0 z6 zt .double (16 : Int32) [(.double (Jvm.FP.l2d (x1.toInt64))), (.double (Jvm.FP.l2d (x2.toInt64))), (.double (Jvm.FP.l2d (x3.toInt64)))] (.double (Jvm.FP.l2d ((0 : Int32).toInt64)))) (z3f : Fld Z h0 z0 y_s0 "additions" "J" (.long ga)) (z3g : Fld Z h0 z0 y_s0 "added" "[J" (.ref ze)) (z3h : Arv Z h0 ze zu .long (16 : Int32) [(.long c1), (.long c2), (.long c3)] (.long 0)) (z3i : Ovr Z zl y_s2) (hri : ¬ (vx < x1)) (zh : z0 ≠ z9) (z1p : z9 ≠ za) (zi : z0 ≠ za) (z1q : z9 ≠ z8) (z1r : za ≠ z8) (zj : z0 ≠ z8) (z1s : z6 ≠ z9) (z1t : z6 ≠ za) (z1u : z6 ≠ z8) (zf : z0 ≠ z6) (z1v : ze ≠ z9) (z1w : ze ≠ za) (z1x : ze ≠ z8) (zg : z0 ≠ ze) (z1y : z7 ≠ z9) (z1z : z7 ≠ za) (z20 : z7 ≠ z8) (zk : z0 ≠ z7) (z3j : z6 ≠ ze) (z3k : z6 ≠ z7) (z3l : ze ≠ z7) (z21 : n0 ≤ z9) (z22 : n0 ≤ za) (z23 : n0 ≤ z8) (zy : n0 ≤ z0) (z24 : n0 ≤ z6) (z25 : n0 ≤ ze) (z26 : n0 ≤ z7) :
    MetFree l own_m0 (head1 (Jvm.Cond.code own_m0 prog_48_method_2_code 9 none :: ws) (Room.mk 1 0 0 18)) (fun a U => a = #[(.ref z0), (.double (Jvm.FP.l2d (vx.toInt64))), (.int vf), (.int vt), .null] ∧ Z.Warmed39 U.vm ∧ U.heap = h0) (fun _ _ _ _ _ => True) (fun _ U o U' => ∃ v L, o = .returned v ∧ Q_rmA1n Z A K x1 x2 x3 c1 c2 c3 s1 s2 s3 zr z13 zs t1 t2 t3 ga vx vf vt z0 z6 ze z7 z9 za z8 zc zt zu zv zw zx zl z14 h0 n0 v U'.heap L ∧ FrameEnd U o U' L (Room.mk 1 0 0 18).cells (Room.mk 1 0 0 18).slots) := by
  refine MetFree.of_bodySF (plainFor_of_name own_pn0) hisR ?_
  intro p e s m args below meth c s₁ Bd hml0 hP hK
  obtain ⟨rfl, hZ, hh⟩ := hP
  have hx := Bd.exec
  have hby := Bd.bytes
  have hml : c.maxLocals = 9 := hml0
  have hown : s.vm.findClass y_s0 = some m.cls := findClass_of_methodNamed Bd.named
  have hnm := (name_of_methodNamed Bd.named Bd.method).1
  have X0 : Stand p l e (Room.mk 1 0 0 18) s m #[(.ref z0), (.double (Jvm.FP.l2d (vx.toInt64))), (.int vf), (.int vt), .null] below meth c s₁ [] 0 0 := Stand.of_body Bd
  have e0 : s₁.heap = h0 := by rw [← hh, Bd.state]; rfl
  have N0 := Fr.nil n0
  have pre0 : ∀ t, Steps p.tables e below (s₁.setTop (mkF m 0 #[.val (.ref z0), .val (.double (Jvm.FP.l2d (vx.toInt64))), .second, .val (.int vf), .val (.int vt), .val .null, .unset, .unset, .unset] [])) t → Steps p.tables e below (s₁.setTop (entryFrame m #[(.ref z0), (.double (Jvm.FP.l2d (vx.toInt64))), (.int vf), (.int vt), .null] 9)) t := fun t k => castTop (by first | (simp [entryFrame, mkF, argsToLocals, Value.category, maxLocals]; done) | rfl) k
  have KK0 : Keep h0 h0 [z9, za, z8, z0, z7, ze, z6] := Keep.refl _ _
  obtain ⟨z3m, z27, z3n, z3o⟩ := getF X0 hx hZ hown (host := "") (Or.inl (own_W hw 41 rfl)) Via.refl e0 z15 (g := (mkF m 1 #[.val (.ref z0), .val (.double (Jvm.FP.l2d (vx.toInt64))), .second, .val (.int vf), .val (.int vt), .val .null, .unset, .unset, .unset] [(.ref z0)])) rfl rfl (hb hby y3_1)
  obtain ⟨z18, zz, z28, z3p⟩ := getF z27 hx hZ hown (host := "") (Or.inl (own_W hw 20 rfl)) Via.refl z3n z16 (g := (mkF m 5 #[.val (.ref z0), .val (.double (Jvm.FP.l2d (vx.toInt64))), .second, .val (.int vf), .val (.int vt), .val .null, .unset, .unset, .unset] [(.ref z0), (.int 1)])) rfl rfl (hb hby y3_5)
  obtain ⟨z6m, z29, -, z3q, z3r, -, -⟩ := (id z17)
  obtain ⟨z3s, z2a, z3t, z3u⟩ := getF zz hx hZ hown (host := "") (Or.inl (own_W hw 30 rfl)) Via.refl z28 z1n (g := (mkF m 17 #[.val (.ref z0), .val (.double (Jvm.FP.l2d (vx.toInt64))), .second, .val (.int vf), .val (.int vt), .val .null, .unset, .unset, .unset] [(.ref z0)])) rfl rfl (hb hby y3_17)
  obtain ⟨z19, zo, z2b, z3v⟩ := getF z2a hx hZ hown (host := "") (Or.inl (own_W hw 20 rfl)) Via.refl z3t z16 (g := (mkF m 21 #[.val (.ref z0), .val (.double (Jvm.FP.l2d (vx.toInt64))), .second, .val (.int vf), .val (.int vt), .val .null, .unset, .unset, .unset] [(.ref z0), (.ref zc)])) rfl rfl (hb hby y3_21)
  obtain ⟨z6n, z2c, -, z3w, z3x, -, -⟩ := (id z17)
  obtain ⟨z1a, zp, z2d, z3y⟩ := getF zo hx hZ hown (host := "") (Or.inl (own_W hw 41 rfl)) Via.refl z2b z15 (g := (mkF m 28 #[.val (.ref z0), .val (.double (Jvm.FP.l2d (vx.toInt64))), .second, .val (.int vf), .val (.int vt), .val .null, .unset, .unset, .unset] [(.ref z0), (.int 15), (.ref zc)])) rfl rfl (hb hby y3_28)
  obtain ⟨z2e, z1b, z6o, z3z, z6p, z40, z6q⟩ := (id z36)
  have z2f : ¬ ((14 : Int32) < 0 ∨ z2e.slots.size ≤ ((14 : Int32)).toNatClampNeg) := inb_of z3z ⟨by decide, by decide⟩
  have z41 : z2e.slots[((14 : Int32)).toNatClampNeg]? = some (.int 1) := Has.at z40 z2f rfl
  obtain ⟨z42, z1c, z43, z44⟩ := getF zp hx hZ hown (host := "") (Or.inl (own_W hw 22 rfl)) Via.refl z2d z1o (g := (mkF m 36 #[.val (.ref z0), .val (.double (Jvm.FP.l2d (vx.toInt64))), .second, .val (.int vf), .val (.int vt), .val .null, .val (.int 1), .unset, .unset] [(.ref z0)])) rfl rfl (hb hby y3_36)
  obtain ⟨z45, z2g, z46, z2h, z47, z48, z49⟩ := (id z37)
  have z4a : ¬ ((1 : Int32) < 0 ∨ z45.slots.size ≤ ((1 : Int32)).toNatClampNeg) := inb_of z2h ⟨by decide, by decide⟩
  obtain ⟨z4b, z4c, z1d, z4d, z1, z4e⟩ := stI z1c hx hZ z43 z2g (j := (1 : Int32)) z4a (g := (mkF m 42 #[.val (.ref z0), .val (.double (Jvm.FP.l2d (vx.toInt64))), .second, .val (.int vf), .val (.int vt), .val .null, .val (.int 1), .unset, .unset] [(.int vf), (.int 1), (.ref z9)])) rfl rfl (hb hby y3_42)
  have z4f := Fr.snoc z1d N0 z21
  have z4g := OL0.wr z1 z21
  have z4h := KK0.wr z1 (own_Ix 0 rfl)
  have z4i : Arv Z z4c z9 zw .int 16 [(.int zr), (.int vf), (.int zs)] (.int 0) := Arv.set z2g z46 z2h z47 z48 z49 rfl z1 1 (by decide) (by decide : 1 < 3)
  have z2i := (z38.other z1 (Or.inl zh))
  obtain ⟨z4j, z1e, z4k, z4l⟩ := getF z1d hx hZ hown (host := "") (Or.inl (own_W hw 24 rfl)) Via.refl z4d z2i (g := (mkF m 44 #[.val (.ref z0), .val (.double (Jvm.FP.l2d (vx.toInt64))), .second, .val (.int vf), .val (.int vt), .val .null, .val (.int 1), .unset, .unset] [(.ref z0)])) rfl rfl (hb hby y3_44)
  have z4m := (z39.other z1 (Ne.symm z1p))
  obtain ⟨z4n, z2j, z4o, z2k, z4p, z4q, z4r⟩ := (id z4m)
  have z4s : ¬ ((1 : Int32) < 0 ∨ z4n.slots.size ≤ ((1 : Int32)).toNatClampNeg) := inb_of z2k ⟨by decide, by decide⟩
  obtain ⟨z4t, z2l, z1f, z4u, z2, z4v⟩ := stI z1e hx hZ z4k z2j (j := (1 : Int32)) z4s (g := (mkF m 51 #[.val (.ref z0), .val (.double (Jvm.FP.l2d (vx.toInt64))), .second, .val (.int vf), .val (.int vt), .val .null, .val (.int 1), .unset, .unset] [(.int vt), (.int 1), (.ref za)])) rfl rfl (hb hby y3_51)
  have z4w := Fr.snoc z1f z4f z22
  have z4x := z4g.wr z2 z22
  have z4y := z4h.wr z2 (own_Ix 1 rfl)
  have z4z : Arv Z z2l za zx .int 16 [(.int t1), (.int vt), (.int t3)] (.int 0) := Arv.set z2j z4o z2k z4p z4q z4r rfl z2 1 (by decide) (by decide : 1 < 3)
  have z2m := ((z3a.other z1 (Or.inl zh)).other z2 (Or.inl zi))
  obtain ⟨z50, z1g, z51, z52⟩ := getF z1f hx hZ hown (host := "") (Or.inl (own_W hw 28 rfl)) Via.refl z4u z2m (g := (mkF m 53 #[.val (.ref z0), .val (.double (Jvm.FP.l2d (vx.toInt64))), .second, .val (.int vf), .val (.int vt), .val .null, .val (.int 1), .unset, .unset] [(.ref z0)])) rfl rfl (hb hby y3_53)
  have z2n : own_AM Z z2l z8 zl (.object y_s2) := ((z3b.other z1 (Ne.symm z1q)).other z2 (Ne.symm z1r))
  obtain ⟨vs202, dv202, z53, z54, z6r, z55, z6s, z6t, z6u⟩ := (id z2n)
  have z56 : ¬ ((1 : Int32) < 0 ∨ z53.slots.size ≤ ((1 : Int32)).toNatClampNeg) := inb_of z55 ⟨by decide, by decide⟩
  obtain ⟨z57, z58, z10, z59, z3, z5a⟩ := stR z1g hx hZ z51 z54 (j := (1 : Int32)) z56 rfl (Or.inl rfl) (g := (mkF m 60 #[.val (.ref z0), .val (.double (Jvm.FP.l2d (vx.toInt64))), .second, .val (.int vf), .val (.int vt), .val .null, .val (.int 1), .unset, .unset] [.null, (.int 1), (.ref z8)])) rfl rfl (hb hby y3_60)
  have z5b := Fr.snoc z10 z4w z23
  have z5c := z4x.wr z3 z23
  have z5d := z4y.wr z3 (own_Ix 2 rfl)
  have z5e : own_AM Z z58 z8 zl (.object y_s2) := own_AM.set z2n rfl z3
  have z1h := (((z15.other z1 (Or.inl zh)).other z2 (Or.inl zi)).other z3 (Or.inl zj))
  obtain ⟨z2o, z11, z5f, z5g⟩ := getF z10 hx hZ hown (host := "") (Or.inl (own_W hw 41 rfl)) Via.refl z59 z1h (g := (mkF m 63 #[.val (.ref z0), .val (.double (Jvm.FP.l2d (vx.toInt64))), .second, .val (.int vf), .val (.int vt), .val .null, .val (.int 1), .unset, .unset] [(.ref z0), (.ref z0)])) rfl rfl (hb hby y3_63)
  have z2p := (((z3c.wr z1).wr z2).wr z3)
  obtain ⟨z2q, z5h, zm, z5i, z4, z5j⟩ := putF z11 hx hZ hown (host := "") (Or.inl (own_W hw 41 rfl)) Via.refl z5f z1h z2p (Or.inl (own_W hw 42 rfl)) (own_W hw 5 rfl) (ty := .int) (by decide) rfl rfl (g := (mkF m 69 #[.val (.ref z0), .val (.double (Jvm.FP.l2d (vx.toInt64))), .second, .val (.int vf), .val (.int vt), .val .null, .val (.int 1), .unset, .unset] [(.int 2), (.ref z0), (.int 1)])) rfl rfl (hb hby y3_69)
  have z5k := Fr.snoc zm z5b zy
  have z5l := z5c.wr z4 zy
  have z5m := z5d.wr z4 (own_Ix 3 rfl)
  have z5n : Fld Z z5h z0 y_s0 "size" "I" (.int 2) := z1h.same z4
  have z2r := ((((z3d.other z1 (Or.inl zh)).other z2 (Or.inl zi)).other z3 (Or.inl zj)).other z4 (Or.inr (slot_ne (Or.inl (own_W hw 15 rfl)) (Or.inl (own_W hw 42 rfl)) (by decide) (t := (.array .double)) (t' := .int) (by decide) (by decide))))
  obtain ⟨zn, zd, z2s, z5o⟩ := getF zm hx hZ hown (host := "") (Or.inl (own_W hw 14 rfl)) Via.refl z5i z2r (g := (mkF m 81 #[.val (.ref z0), .val (.double (Jvm.FP.l2d (vx.toInt64))), .second, .val (.int vf), .val (.int vt), .val .null, .val (.int 1), .val (.int 1), .unset] [(.ref z0), (.double (Jvm.FP.l2d (vx.toInt64)))])) rfl rfl (hb hby y3_81)
  have z2t := ((((z3e.other z1 z1s).other z2 z1t).other z3 z1u).other z4 (Ne.symm zf))
  obtain ⟨z2u, z1i, z6v, z5p, z6w, z5q, z6x⟩ := (id z2t)
  have z2v : ¬ ((0 : Int32) < 0 ∨ z2u.slots.size ≤ ((0 : Int32)).toNatClampNeg) := inb_of z5p ⟨by decide, by decide⟩
  have z5r : z2u.slots[((0 : Int32)).toNatClampNeg]? = some (.double (Jvm.FP.l2d (x1.toInt64))) := Has.at z5q z2v rfl
  have z1j := ((((z3f.other z1 (Or.inl zh)).other z2 (Or.inl zi)).other z3 (Or.inl zj)).other z4 (Or.inr (slot_ne (Or.inl (own_W hw 44 rfl)) (Or.inl (own_W hw 42 rfl)) (by decide) (t := .long) (t' := .int) (by decide) (by decide))))
  obtain ⟨z1k, z12, z5s, z5t⟩ := getF zd hx hZ hown (host := "") (Or.inl (own_W hw 43 rfl)) Via.refl z2s z1j (g := (mkF m 124 #[.val (.ref z0), .val (.double (Jvm.FP.l2d (vx.toInt64))), .second, .val (.int vf), .val (.int vt), .val .null, .val (.int 1), .val (.int 1), .unset] [(.ref z0), (.ref z0), (.double (Jvm.FP.l2d (vx.toInt64))), (.int 1), (.ref z0)])) rfl rfl (hb hby y3_124)
  have z2w := (z2p.wr z4)
  obtain ⟨z5u, z2x, z1l, z2y, z5, z5v⟩ := putF z12 hx hZ hown (host := "") (Or.inl (own_W hw 43 rfl)) Via.refl z5s z1j z2w (Or.inl (own_W hw 44 rfl)) (own_W hw 5 rfl) (ty := .long) (by decide) rfl rfl (g := (mkF m 130 #[.val (.ref z0), .val (.double (Jvm.FP.l2d (vx.toInt64))), .second, .val (.int vf), .val (.int vt), .val .null, .val (.int 1), .val (.int 1), .unset] [(.long (ga + (1 : Int64))), (.ref z0), (.long ga), (.double (Jvm.FP.l2d (vx.toInt64))), (.int 1), (.ref z0)])) rfl rfl (hb hby y3_130)
  have z5w := Fr.snoc z1l z5k zy
  have z2z := z5l.wr z5 zy
  have z5x := z5m.wr z5 (own_Ix 3 rfl)
  have z5y : Fld Z z2x z0 y_s0 "additions" "J" (.long (ga + (1 : Int64))) := z1j.same z5
  have z30 := (z2r.other z5 (Or.inr (slot_ne (Or.inl (own_W hw 15 rfl)) (Or.inl (own_W hw 44 rfl)) (by decide) (t := (.array .double)) (t' := .long) (by decide) (by decide))))
  have z5z := (z2t.other z5 (Ne.symm zf))
  have z31 := (((((z3g.other z1 (Or.inl zh)).other z2 (Or.inl zi)).other z3 (Or.inl zj)).other z4 (Or.inr (slot_ne (Or.inl (own_W hw 18 rfl)) (Or.inl (own_W hw 42 rfl)) (by decide) (t := (.array .long)) (t' := .int) (by decide) (by decide)))).other z5 (Or.inr (slot_ne (Or.inl (own_W hw 18 rfl)) (Or.inl (own_W hw 44 rfl)) (by decide) (t := (.array .long)) (t' := .long) (by decide) (by decide))))
  have z60 := (((((z3h.other z1 z1v).other z2 z1w).other z3 z1x).other z4 (Ne.symm zg)).other z5 (Ne.symm zg))
  have z32 := (((((z16.other z1 (Or.inl zh)).other z2 (Or.inl zi)).other z3 (Or.inl zj)).other z4 (Or.inr (slot_ne (Or.inl (own_W hw 21 rfl)) (Or.inl (own_W hw 42 rfl)) (by decide) (t := (.array .int)) (t' := .int) (by decide) (by decide)))).other z5 (Or.inr (slot_ne (Or.inl (own_W hw 21 rfl)) (Or.inl (own_W hw 44 rfl)) (by decide) (t := (.array .int)) (t' := .long) (by decide) (by decide))))
  have z61 := (((((z17.other z1 z1y).other z2 z1z).other z3 z20).other z4 (Ne.symm zk)).other z5 (Ne.symm zk))
  have z33 := (z2w.wr z5)
  obtain ⟨cq222, z62, q222'⟩ := z33.cell
  obtain ⟨_, _, ⟨z1m, L222, z6y, n222⟩, -, zq, ⟨Lc222, z34, l222, y222, z222⟩, z35⟩ := z1l.privateBack hx (y := own_m4) hown (mvT hZ (own_W hw 45 rfl)) (mvT hZ (own_W hw 46 rfl)) (own_selpS (y := own_m4) (mvT hZ (own_W hw 39 rfl)) rfl (mvP (args := #[]) hZ (own_W hw 47 rfl)) (mvT hZ (own_W hw 46 rfl)) (by decide)) (Cond.privateMethod_at (mvP hZ (own_W hw 47 rfl) (args := #[]))) (mvT hZ (own_W hw 48 rfl)) (by decide) (backOf (W := 0) (rmP1 l Z a0 hw [] z2x n0 A K x1 x2 x3 c1 c2 c3 s1 s2 s3 vx ga (1 : Int32) z0 z6 ze z7 zt zu zv EN z2z z30 z5z z31 z60 z32 z61 zf z3j zg z3k z3l z24 z25 z26) hZ (own_W hw 48 rfl) (own_W hw 6 rfl) (by decide) (by decide)) (g := (mkF m 135 #[.val (.ref z0), .val (.double (Jvm.FP.l2d (vx.toInt64))), .second, .val (.int vf), .val (.int vt), .val .null, .val (.int 1), .val (.int 1), .unset] [(.int 1), (.long ga), (.double (Jvm.FP.l2d (vx.toInt64))), (.int 1), (.ref z0)])) rfl (by rw [hml]; rfl) (Steps.refl _) (a := z0) (by rw [z2y]; exact z62) q222' (argsL := [(.int 1), (.double (Jvm.FP.l2d (vx.toInt64))), (.long ga), (.int 1)]) (rest := []) (lenOf own_pd0 rfl) rfl (by show 2 * 0 + _ ≤ _; exact Nat.le_of_eq rfl) (hb hby y3_135) (fun _ _ => ⟨rfl, z2y, (by decide : 0 + 0 ≤ _), (by decide : 0 + 0 ≤ _)⟩)
  dsimp only [Pt.U, Pt.locs, Pt.cells, Pt.slots] at zq l222 y222 z222 z35 z34
  replace zq := own_sub zq l222 y222 z222
  obtain ⟨rfl, z63, zb, z64, z65, z66⟩ := z34
  have z67 := Fr.app z5w z63
  have z6z := z2z.keep zb (allS z24 (allS z25 (allS z26 all0)))
  have z68 := z5x.trans zb (allS (own_Ix 6 rfl) (allS (own_Ix 5 rfl) (allS (own_Ix 4 rfl) all0)))
  have z69 := (z33.keep zb)
  have z6a := (z30.keep zb (ninS zf (ninS zg (ninS zk nin0))))
  have z6b := (z31.keep zb (ninS zf (ninS zg (ninS zk nin0))))
  have z6c := (z32.keep zb (ninS zf (ninS zg (ninS zk nin0))))
  have z6d := ((((((z1o.other z1 (Or.inl zh)).other z2 (Or.inl zi)).other z3 (Or.inl zj)).other z4 (Or.inr (slot_ne (Or.inl (own_W hw 23 rfl)) (Or.inl (own_W hw 42 rfl)) (by decide) (t := (.array .int)) (t' := .int) (by decide) (by decide)))).other z5 (Or.inr (slot_ne (Or.inl (own_W hw 23 rfl)) (Or.inl (own_W hw 44 rfl)) (by decide) (t := (.array .int)) (t' := .long) (by decide) (by decide)))).keep zb (ninS zf (ninS zg (ninS zk nin0))))
  have z6e := (((((z2i.other z2 (Or.inl zi)).other z3 (Or.inl zj)).other z4 (Or.inr (slot_ne (Or.inl (own_W hw 25 rfl)) (Or.inl (own_W hw 42 rfl)) (by decide) (t := (.array .int)) (t' := .int) (by decide) (by decide)))).other z5 (Or.inr (slot_ne (Or.inl (own_W hw 25 rfl)) (Or.inl (own_W hw 44 rfl)) (by decide) (t := (.array .int)) (t' := .long) (by decide) (by decide)))).keep zb (ninS zf (ninS zg (ninS zk nin0))))
  have z6f := ((((z2m.other z3 (Or.inl zj)).other z4 (Or.inr (slot_ne (Or.inl (own_W hw 29 rfl)) (Or.inl (own_W hw 42 rfl)) (by decide) (t := (.array (.object y_s2))) (t' := .int) (by decide) (by decide)))).other z5 (Or.inr (slot_ne (Or.inl (own_W hw 29 rfl)) (Or.inl (own_W hw 44 rfl)) (by decide) (t := (.array (.object y_s2))) (t' := .long) (by decide) (by decide)))).keep zb (ninS zf (ninS zg (ninS zk nin0))))
  have z6g := ((((((z1n.other z1 (Or.inl zh)).other z2 (Or.inl zi)).other z3 (Or.inl zj)).other z4 (Or.inr (slot_ne (Or.inl (own_W hw 31 rfl)) (Or.inl (own_W hw 42 rfl)) (by decide) (t := (.array .int)) (t' := .int) (by decide) (by decide)))).other z5 (Or.inr (slot_ne (Or.inl (own_W hw 31 rfl)) (Or.inl (own_W hw 44 rfl)) (by decide) (t := (.array .int)) (t' := .long) (by decide) (by decide)))).keep zb (ninS zf (ninS zg (ninS zk nin0))))
  have z6h := ((z5n.other z5 (Or.inr (slot_ne (Or.inl (own_W hw 42 rfl)) (Or.inl (own_W hw 44 rfl)) (by decide) (t := .int) (t' := .long) (by decide) (by decide)))).keep zb (ninS zf (ninS zg (ninS zk nin0))))
  have z6i := (z5y.keep zb (ninS zf (ninS zg (ninS zk nin0))))
  have z6j := (((((z4i.other z2 z1p).other z3 z1q).other z4 (Ne.symm zh)).other z5 (Ne.symm zh)).keep zb (ninS (Ne.symm z1s) (ninS (Ne.symm z1v) (ninS (Ne.symm z1y) nin0))))
  have z6k := ((((z4z.other z3 z1r).other z4 (Ne.symm zi)).other z5 (Ne.symm zi)).keep zb (ninS (Ne.symm z1t) (ninS (Ne.symm z1w) (ninS (Ne.symm z1z) nin0))))
  have z6l : own_AM Z z1m.heap z8 zl (.object y_s2) := (((z5e.other z4 (Ne.symm zj)).other z5 (Ne.symm zj)).keep zb (ninS (Ne.symm z1u) (ninS (Ne.symm z1x) (ninS (Ne.symm z20) nin0))))
  obtain ⟨fs, hr, hrun, hended, hW, hsame⟩ := zq.leave (v := none) (fun _ => rfl)
  refine ⟨_, _, pre0 _ ?_, hrun, hended, _, _, rfl, ?_, ⟨_, rfl⟩, hW, hsame.mono (by decide) (by decide)⟩
  · show Steps p.tables e below (s₁.setTop (mkF m 0 #[.val (.ref z0), .val (.double (Jvm.FP.l2d (vx.toInt64))), .second, .val (.int vf), .val (.int vt), .val .null, .unset, .unset, .unset] [])) _
    refine XS.aloadN X0.here hx rfl (hb hby y3_0) rfl rfl ?_
    refine z3o _ ?_
    show Steps p.tables e below (z3m.setTop (mkF m 4 #[.val (.ref z0), .val (.double (Jvm.FP.l2d (vx.toInt64))), .second, .val (.int vf), .val (.int vt), .val .null, .unset, .unset, .unset] [(.int 1)])) _
    refine XS.aloadN z27.here hx rfl (hb hby y3_4) rfl rfl ?_
    refine z3p _ ?_
    show Steps p.tables e below (z18.setTop (mkF m 8 #[.val (.ref z0), .val (.double (Jvm.FP.l2d (vx.toInt64))), .second, .val (.int vf), .val (.int vt), .val .null, .unset, .unset, .unset] [(.ref z7), (.int 1)])) _
    refine zz.arraylength hx (by rw [z28]; exact z29.1) (State.isArrayOf_alike hZ.alike z29.2.1) (g := (mkF m 8 #[.val (.ref z0), .val (.double (Jvm.FP.l2d (vx.toInt64))), .second, .val (.int vf), .val (.int vt), .val .null, .unset, .unset, .unset] [(.ref z7), (.int 1)])) rfl rfl (hb hby y3_8) _ ?_
    rw [len_of z3q z3r]
    show Steps p.tables e below (z18.setTop (mkF m 9 #[.val (.ref z0), .val (.double (Jvm.FP.l2d (vx.toInt64))), .second, .val (.int vf), .val (.int vt), .val .null, .unset, .unset, .unset] [(.int 16), (.int 1)])) _
    refine XS.icmpYes zz.here hx rfl (pc0 := 9) (pc' := 16) rfl (hb hby y3_9) rfl (feq (by decide : ¬ ((1 : Int32) = (16 : Int32)))).2 (by decide) (by decide) ?_
    show Steps p.tables e below (z18.setTop (mkF m 16 #[.val (.ref z0), .val (.double (Jvm.FP.l2d (vx.toInt64))), .second, .val (.int vf), .val (.int vt), .val .null, .unset, .unset, .unset] [])) _
    refine XS.aloadN zz.here hx rfl (hb hby y3_16) rfl rfl ?_
    refine z3u _ ?_
    show Steps p.tables e below (z3s.setTop (mkF m 20 #[.val (.ref z0), .val (.double (Jvm.FP.l2d (vx.toInt64))), .second, .val (.int vf), .val (.int vt), .val .null, .unset, .unset, .unset] [(.ref zc)])) _
    refine XS.aloadN z2a.here hx rfl (hb hby y3_20) rfl rfl ?_
    refine z3v _ ?_
    show Steps p.tables e below (z19.setTop (mkF m 24 #[.val (.ref z0), .val (.double (Jvm.FP.l2d (vx.toInt64))), .second, .val (.int vf), .val (.int vt), .val .null, .unset, .unset, .unset] [(.ref z7), (.ref zc)])) _
    refine zo.arraylength hx (by rw [z2b]; exact z2c.1) (State.isArrayOf_alike hZ.alike z2c.2.1) (g := (mkF m 24 #[.val (.ref z0), .val (.double (Jvm.FP.l2d (vx.toInt64))), .second, .val (.int vf), .val (.int vt), .val .null, .unset, .unset, .unset] [(.ref z7), (.ref zc)])) rfl rfl (hb hby y3_24) _ ?_
    rw [len_of z3w z3x]
    show Steps p.tables e below (z19.setTop (mkF m 25 #[.val (.ref z0), .val (.double (Jvm.FP.l2d (vx.toInt64))), .second, .val (.int vf), .val (.int vt), .val .null, .unset, .unset, .unset] [(.int 16), (.ref zc)])) _
    refine XS.iconst zo.here hx rfl (hb hby y3_25) ?_
    refine XS.isub zo.here hx rfl (hb hby y3_26) rfl ?_
    show Steps p.tables e below (z19.setTop (mkF m 27 #[.val (.ref z0), .val (.double (Jvm.FP.l2d (vx.toInt64))), .second, .val (.int vf), .val (.int vt), .val .null, .unset, .unset, .unset] [(.int 15), (.ref zc)])) _
    refine XS.aloadN zo.here hx rfl (hb hby y3_27) rfl rfl ?_
    refine z3y _ ?_
    show Steps p.tables e below (z1a.setTop (mkF m 31 #[.val (.ref z0), .val (.double (Jvm.FP.l2d (vx.toInt64))), .second, .val (.int vf), .val (.int vt), .val .null, .unset, .unset, .unset] [(.int 1), (.int 15), (.ref zc)])) _
    refine XS.isub zp.here hx rfl (hb hby y3_31) rfl ?_
    show Steps p.tables e below (z1a.setTop (mkF m 32 #[.val (.ref z0), .val (.double (Jvm.FP.l2d (vx.toInt64))), .second, .val (.int vf), .val (.int vt), .val .null, .unset, .unset, .unset] [(.int 14), (.ref zc)])) _
    refine zp.iaload hx (j := (14 : Int32)) (v := (.int 1)) (by rw [z2d]; exact z1b.1) (State.isArrayOf_alike hZ.alike z1b.2.1) z1b.2.2 z2f z41 (g := (mkF m 32 #[.val (.ref z0), .val (.double (Jvm.FP.l2d (vx.toInt64))), .second, .val (.int vf), .val (.int vt), .val .null, .unset, .unset, .unset] [(.int 14), (.ref zc)])) rfl rfl (hb hby y3_32) _ ?_
    show Steps p.tables e below (z1a.setTop (mkF m 33 #[.val (.ref z0), .val (.double (Jvm.FP.l2d (vx.toInt64))), .second, .val (.int vf), .val (.int vt), .val .null, .unset, .unset, .unset] [(.int 1)])) _
    refine XS.istore zp.here hx rfl (hb hby y3_33) rfl (l' := #[.val (.ref z0), .val (.double (Jvm.FP.l2d (vx.toInt64))), .second, .val (.int vf), .val (.int vt), .val .null, .val (.int 1), .unset, .unset]) rfl ?_
    refine XS.aloadN zp.here hx rfl (hb hby y3_35) rfl rfl ?_
    refine z44 _ ?_
    show Steps p.tables e below (z42.setTop (mkF m 39 #[.val (.ref z0), .val (.double (Jvm.FP.l2d (vx.toInt64))), .second, .val (.int vf), .val (.int vt), .val .null, .val (.int 1), .unset, .unset] [(.ref z9)])) _
    refine XS.iload z1c.here hx rfl (hb hby y3_39) rfl ?_
    refine XS.iloadN z1c.here hx rfl (hb hby y3_41) rfl ?_
    refine z4e _ ?_
    show Steps p.tables e below (z4b.setTop (mkF m 43 #[.val (.ref z0), .val (.double (Jvm.FP.l2d (vx.toInt64))), .second, .val (.int vf), .val (.int vt), .val .null, .val (.int 1), .unset, .unset] [])) _
    refine XS.aloadN z1d.here hx rfl (hb hby y3_43) rfl rfl ?_
    refine z4l _ ?_
    show Steps p.tables e below (z4j.setTop (mkF m 47 #[.val (.ref z0), .val (.double (Jvm.FP.l2d (vx.toInt64))), .second, .val (.int vf), .val (.int vt), .val .null, .val (.int 1), .unset, .unset] [(.ref za)])) _
    refine XS.iload z1e.here hx rfl (hb hby y3_47) rfl ?_
    refine XS.iload z1e.here hx rfl (hb hby y3_49) rfl ?_
    refine z4v _ ?_
    show Steps p.tables e below (z4t.setTop (mkF m 52 #[.val (.ref z0), .val (.double (Jvm.FP.l2d (vx.toInt64))), .second, .val (.int vf), .val (.int vt), .val .null, .val (.int 1), .unset, .unset] [])) _
    refine XS.aloadN z1f.here hx rfl (hb hby y3_52) rfl rfl ?_
    refine z52 _ ?_
    show Steps p.tables e below (z50.setTop (mkF m 56 #[.val (.ref z0), .val (.double (Jvm.FP.l2d (vx.toInt64))), .second, .val (.int vf), .val (.int vt), .val .null, .val (.int 1), .unset, .unset] [(.ref z8)])) _
    refine XS.iload z1g.here hx rfl (hb hby y3_56) rfl ?_
    refine XS.aload z1g.here hx rfl (hb hby y3_58) rfl rfl ?_
    refine z5a _ ?_
    show Steps p.tables e below (z57.setTop (mkF m 61 #[.val (.ref z0), .val (.double (Jvm.FP.l2d (vx.toInt64))), .second, .val (.int vf), .val (.int vt), .val .null, .val (.int 1), .unset, .unset] [])) _
    refine XS.aloadN z10.here hx rfl (hb hby y3_61) rfl rfl ?_
    refine XS.dup z10.here hx rfl (hb hby y3_62) rfl rfl ?_
    refine z5g _ ?_
    show Steps p.tables e below (z2o.setTop (mkF m 66 #[.val (.ref z0), .val (.double (Jvm.FP.l2d (vx.toInt64))), .second, .val (.int vf), .val (.int vt), .val .null, .val (.int 1), .unset, .unset] [(.int 1), (.ref z0)])) _
    refine XS.dupX1 z11.here hx rfl (hb hby y3_66) rfl rfl rfl ?_
    refine XS.iconst z11.here hx rfl (hb hby y3_67) ?_
    refine XS.iadd z11.here hx rfl (hb hby y3_68) rfl ?_
    show Steps p.tables e below (z2o.setTop (mkF m 69 #[.val (.ref z0), .val (.double (Jvm.FP.l2d (vx.toInt64))), .second, .val (.int vf), .val (.int vt), .val .null, .val (.int 1), .unset, .unset] [(.int 2), (.ref z0), (.int 1)])) _
    refine z5j _ ?_
    show Steps p.tables e below (z2q.setTop (mkF m 72 #[.val (.ref z0), .val (.double (Jvm.FP.l2d (vx.toInt64))), .second, .val (.int vf), .val (.int vt), .val .null, .val (.int 1), .unset, .unset] [(.int 1)])) _
    refine XS.istore zm.here hx rfl (hb hby y3_72) rfl (l' := #[.val (.ref z0), .val (.double (Jvm.FP.l2d (vx.toInt64))), .second, .val (.int vf), .val (.int vt), .val .null, .val (.int 1), .val (.int 1), .unset]) rfl ?_
    refine XS.iload zm.here hx rfl (hb hby y3_74) rfl ?_
    refine XS.ifNo zm.here hx rfl (hb hby y3_76) rfl ((if0 _ _).trans (tlt (by decide : (0 : Int32) < (1 : Int32))).2.2.2) ?_
    show Steps p.tables e below (z2q.setTop (mkF m 79 #[.val (.ref z0), .val (.double (Jvm.FP.l2d (vx.toInt64))), .second, .val (.int vf), .val (.int vt), .val .null, .val (.int 1), .val (.int 1), .unset] [])) _
    refine XS.dloadN zm.here hx rfl (hb hby y3_79) rfl ?_
    refine XS.aloadN zm.here hx rfl (hb hby y3_80) rfl rfl ?_
    refine z5o _ ?_
    show Steps p.tables e below (zn.setTop (mkF m 84 #[.val (.ref z0), .val (.double (Jvm.FP.l2d (vx.toInt64))), .second, .val (.int vf), .val (.int vt), .val .null, .val (.int 1), .val (.int 1), .unset] [(.ref z6), (.double (Jvm.FP.l2d (vx.toInt64)))])) _
    refine XS.iload zd.here hx rfl (hb hby y3_84) rfl ?_
    refine XS.iconst zd.here hx rfl (hb hby y3_86) ?_
    refine XS.isub zd.here hx rfl (hb hby y3_87) rfl ?_
    show Steps p.tables e below (zn.setTop (mkF m 88 #[.val (.ref z0), .val (.double (Jvm.FP.l2d (vx.toInt64))), .second, .val (.int vf), .val (.int vt), .val .null, .val (.int 1), .val (.int 1), .unset] [(.int 0), (.ref z6), (.double (Jvm.FP.l2d (vx.toInt64)))])) _
    refine XS.iconst zd.here hx rfl (hb hby y3_88) ?_
    refine XS.idiv zd.here hx rfl (hb hby y3_89) rfl (by decide) ?_
    show Steps p.tables e below (zn.setTop (mkF m 90 #[.val (.ref z0), .val (.double (Jvm.FP.l2d (vx.toInt64))), .second, .val (.int vf), .val (.int vt), .val .null, .val (.int 1), .val (.int 1), .unset] [(.int 0), (.ref z6), (.double (Jvm.FP.l2d (vx.toInt64)))])) _
    refine zd.daload hx (j := (0 : Int32)) (v := (.double (Jvm.FP.l2d (x1.toInt64)))) (by rw [z2s]; exact z1i.1) (State.isArrayOf_alike hZ.alike z1i.2.1) z1i.2.2 z2v z5r (g := (mkF m 90 #[.val (.ref z0), .val (.double (Jvm.FP.l2d (vx.toInt64))), .second, .val (.int vf), .val (.int vt), .val .null, .val (.int 1), .val (.int 1), .unset] [(.int 0), (.ref z6), (.double (Jvm.FP.l2d (vx.toInt64)))])) rfl rfl (hb hby y3_90) _ ?_
    show Steps p.tables e below (zn.setTop (mkF m 91 #[.val (.ref z0), .val (.double (Jvm.FP.l2d (vx.toInt64))), .second, .val (.int vf), .val (.int vt), .val .null, .val (.int 1), .val (.int 1), .unset] [(.double (Jvm.FP.l2d (x1.toInt64))), (.double (Jvm.FP.l2d (vx.toInt64)))])) _
    refine XS.dcmpS zd.here hx rfl (hb hby y3_91) rfl (dcmpV_w (own_b53 vx) (own_b53 x1) _) ?_
    show Steps p.tables e below (zn.setTop (mkF m 92 #[.val (.ref z0), .val (.double (Jvm.FP.l2d (vx.toInt64))), .second, .val (.int vf), .val (.int vt), .val .null, .val (.int 1), .val (.int 1), .unset] [(.int (lcmpW (vx.toInt64) (x1.toInt64)))])) _
    refine XS.ifYes zd.here hx rfl (pc0 := 92) (pc' := 118) rfl (hb hby y3_92) rfl ((if0 _ _).trans (flt (fun z => hri ((own_llt _ _).mp z))).2.1) (by decide) (by decide) ?_
    show Steps p.tables e below (zn.setTop (mkF m 118 #[.val (.ref z0), .val (.double (Jvm.FP.l2d (vx.toInt64))), .second, .val (.int vf), .val (.int vt), .val .null, .val (.int 1), .val (.int 1), .unset] [])) _
    refine XS.aloadN zd.here hx rfl (hb hby y3_118) rfl rfl ?_
    refine XS.iload zd.here hx rfl (hb hby y3_119) rfl ?_
    refine XS.dloadN zd.here hx rfl (hb hby y3_121) rfl ?_
    refine XS.aloadN zd.here hx rfl (hb hby y3_122) rfl rfl ?_
    refine XS.dup zd.here hx rfl (hb hby y3_123) rfl rfl ?_
    refine z5t _ ?_
    show Steps p.tables e below (z1k.setTop (mkF m 127 #[.val (.ref z0), .val (.double (Jvm.FP.l2d (vx.toInt64))), .second, .val (.int vf), .val (.int vt), .val .null, .val (.int 1), .val (.int 1), .unset] [(.long ga), (.ref z0), (.double (Jvm.FP.l2d (vx.toInt64))), (.int 1), (.ref z0)])) _
    refine own_dup2X1 z12.here hx rfl (hb hby y3_127) rfl ?_
    show Steps p.tables e below (z1k.setTop (mkF m 128 #[.val (.ref z0), .val (.double (Jvm.FP.l2d (vx.toInt64))), .second, .val (.int vf), .val (.int vt), .val .null, .val (.int 1), .val (.int 1), .unset] [(.long ga), (.ref z0), (.long ga), (.double (Jvm.FP.l2d (vx.toInt64))), (.int 1), (.ref z0)])) _
    refine XS.lconst z12.here hx rfl (hb hby y3_128) ?_
    refine XS.ladd z12.here hx rfl (hb hby y3_129) rfl ?_
    show Steps p.tables e below (z1k.setTop (mkF m 130 #[.val (.ref z0), .val (.double (Jvm.FP.l2d (vx.toInt64))), .second, .val (.int vf), .val (.int vt), .val .null, .val (.int 1), .val (.int 1), .unset] [(.long (ga + (1 : Int64))), (.ref z0), (.long ga), (.double (Jvm.FP.l2d (vx.toInt64))), (.int 1), (.ref z0)])) _
    refine z5v _ ?_
    show Steps p.tables e below (z5u.setTop (mkF m 133 #[.val (.ref z0), .val (.double (Jvm.FP.l2d (vx.toInt64))), .second, .val (.int vf), .val (.int vt), .val .null, .val (.int 1), .val (.int 1), .unset] [(.long ga), (.double (Jvm.FP.l2d (vx.toInt64))), (.int 1), (.ref z0)])) _
    refine XS.iload z1l.here hx rfl (hb hby y3_133) rfl ?_
    refine z35.trans ?_
    show Steps p.tables e below (z1m.setTop (mkF m 138 #[.val (.ref z0), .val (.double (Jvm.FP.l2d (vx.toInt64))), .second, .val (.int vf), .val (.int vt), .val .null, .val (.int 1), .val (.int 1), .unset] [])) _
    exact zq.returnOut hx Bd.returns (hb hby y3_138) hr
  · show Q_rmA1n Z A K x1 x2 x3 c1 c2 c3 s1 s2 s3 zr z13 zs t1 t2 t3 ga vx vf vt z0 z6 ze z7 z9 za z8 zc zt zu zv zw zx zl z14 h0 n0 _ z1m.heap _
    exact ⟨rfl, z67, z68, z69, z6a, z6b, z6c, z6d, z6e, z6f, z6g, z6h, z6i, z64, z65, z66, z6j, z6k, z6l, z3i⟩
def Q_rmA2y (Z : State) (A : Nat → Addr) (K : Nat → ClassId) (x1 : Int32) (x2 : Int32) (x3 : Int32) (c1 : Int64) (c2 : Int64) (c3 : Int64) (s1 : Int32) (s2 : Int32) (s3 : Int32) (z8 : Int32) (z9 : Int32) (zg : Int32) (t1 : Int32) (t2 : Int32) (t3 : Int32) (ga : Int64) (vx : Int32) (vf : Int32) (vt : Int32) (z0 : Addr) (z1 : Addr) (z2 : Addr) (z3 : Addr) (z4 : Addr) (z5 : Addr) (z6 : Addr) (za : Addr) (zb : ClassId) (zc : ClassId) (zd : ClassId) (ze : ClassId) (zf : ClassId) (z7 : ClassId) (zh : ClassId) (h0 : Heap) (n0 : Nat) (v : Option Value) (h : Heap) (L : List Loc) : Prop := v = none ∧ Fr n0 L ∧ Keep h0 h [z4, z5, z6, z0, z1, z2, z3] ∧ (Exa Z h z0 y_s0) ∧ (Fld Z h z0 y_s0 "at" "[D" (.ref z1)) ∧ (Fld Z h z0 y_s0 "added" "[J" (.ref z2)) ∧ (Fld Z h z0 y_s0 "slot" "[I" (.ref z3)) ∧ (Fld Z h z0 y_s0 "from" "[I" (.ref z4)) ∧ (Fld Z h z0 y_s0 "to" "[I" (.ref z5)) ∧ (Fld Z h z0 y_s0 "message" y_s1 (.ref z6)) ∧ (Fld Z h z0 y_s0 "free" "[I" (.ref za)) ∧ (Fld Z h z0 y_s0 "size" "I" (.int 3)) ∧ (Fld Z h z0 y_s0 "additions" "J" (.long (ga + (1 : Int64)))) ∧ (Arv Z h z1 zb .double (16 : Int32) [(.double (Jvm.FP.l2d (vx.toInt64))), (.double (Jvm.FP.l2d (x2.toInt64))), (.double (Jvm.FP.l2d (x1.toInt64)))] (.double (Jvm.FP.l2d ((0 : Int32).toInt64)))) ∧ (Arv Z h z2 zc .long (16 : Int32) [(.long ga), (.long c2), (.long c1)] (.long 0)) ∧ (Arv Z h z3 zd .int 16 [(.int 2), (.int s2), (.int s1)] (.int 0)) ∧ (Arv Z h z4 ze .int 16 [(.int z8), (.int z9), (.int vf)] (.int 0)) ∧ (Arv Z h z5 zf .int 16 [(.int t1), (.int t2), (.int vt)] (.int 0)) ∧ (own_AM Z h z6 z7 (.object y_s2)) ∧ (Ovr Z z7 y_s2)
set_option maxRecDepth 65536 in
set_option maxHeartbeats 40000000 in
theorem rmA2y (l : Launch) (Z : State) (a0 : Array Value) (hw : ∀ d ∈ tables_1, d.before a0 Z = true) (ws : List Jvm.Cond) (h0 : Heap) (n0 : Nat) (A : Nat → Addr) (K : Nat → ClassId) (x1 : Int32) (x2 : Int32) (x3 : Int32) (c1 : Int64) (c2 : Int64) (c3 : Int64) (s1 : Int32) (s2 : Int32) (s3 : Int32) (zw : Int32) (zx : Int32) (z18 : Int32) (t1 : Int32) (t2 : Int32) (t3 : Int32) (ga : Int64) (vx : Int32) (vf : Int32) (vt : Int32)  (z0 : Addr) (z4 : Addr) (zh : Addr) (z5 : Addr) (zd : Addr) (ze : Addr) (zc : Addr) (zi : Addr) (zq : ClassId) (zr : ClassId) (zs : ClassId) (zy : ClassId) (zz : ClassId) (zo : ClassId) (z19 : ClassId) (EN : own_St Z A K) (OL0 : Old Z n0 h0) (z1a : Fld Z h0 z0 y_s0 "size" "I" (.int 2)) (z1b : Fld Z h0 z0 y_s0 "slot" "[I" (.ref z5)) (z1c : Arv Z h0 z5 zs .int 16 [(.int s1), (.int s2), (.int s3)] (.int 0)) (z24 : Fld Z h0 z0 y_s0 "free" "[I" (.ref zi)) (z3j : Arv Z h0 zi z19 .int 16 [(.int 15), (.int 14), (.int 13), (.int 12), (.int 11), (.int 10), (.int 9), (.int 8), (.int 7), (.int 6), (.int 5), (.int 4), (.int 3), (.int 2), (.int 1), (.int 0)] (.int 0)) (z25 : Fld Z h0 z0 y_s0 "from" "[I" (.ref zd)) (z3k : Arv Z h0 zd zy .int 16 [(.int zw), (.int zx), (.int z18)] (.int 0)) (z3l : Fld Z h0 z0 y_s0 "to" "[I" (.ref ze)) (z3m : Arv Z h0 ze zz .int 16 [(.int t1), (.int t2), (.int t3)] (.int 0)) (z3n : Fld Z h0 z0 y_s0 "message" y_s1 (.ref zc)) (z3o : own_AM Z h0 zc zo (.object y_s2)) (z3p : Exa Z h0 z0 y_s0) (z3q : Fld Z h0 z0 y_s0 "at" "[D" (.ref z4)) (z3r : Arv Z h0 z4 zq .double (16 : Int32) [(.double (Jvm.FP.l2d (x1.toInt64))), (.double (Jvm.FP.l2d (x2.toInt64))), (.double (Jvm.FP.l2d (x3.toInt64)))] (.double (Jvm.FP.l2d ((0 : Int32).toInt64)))) (z3s : Fld Z h0 z0 y_s0 "added" "[J" (.ref zh)) (z3t : Arv Z h0 zh zr .long (16 : Int32) [(.long c1), (.long c2), (.long c3)] (.long 0)) (z3u : Fld Z h0 z0 y_s0 "additions" "J" (.long ga)) (z3v : Ovr Z zo y_s2) (hri : vx < x1) (zk : z0 ≠ zd) (z26 : zd ≠ ze) (zl : z0 ≠ ze) (z27 : zd ≠ zc) (z28 : ze ≠ zc) (zm : z0 ≠ zc) (z1d : z4 ≠ zd) (z1e : z4 ≠ ze) (z1f : z4 ≠ zc) (z1 : z0 ≠ z4) (z1g : zh ≠ zd) (z1h : zh ≠ ze) (z1i : zh ≠ zc) (z2 : z0 ≠ zh) (z1j : z5 ≠ zd) (z1k : z5 ≠ ze) (z1l : z5 ≠ zc) (z3 : z0 ≠ z5) (z29 : z4 ≠ zh) (z2a : z4 ≠ z5) (z2b : zh ≠ z5) (z2c : n0 ≤ zd) (z2d : n0 ≤ ze) (z2e : n0 ≤ zc) (z10 : n0 ≤ z0) (z11 : n0 ≤ z4) (z12 : n0 ≤ zh) (z13 : n0 ≤ z5) :
    MetFree l own_m0 (head1 (Jvm.Cond.code own_m0 prog_48_method_2_code 9 none :: ws) (Room.mk 2 0 0 32)) (fun a U => a = #[(.ref z0), (.double (Jvm.FP.l2d (vx.toInt64))), (.int vf), (.int vt), .null] ∧ Z.Warmed39 U.vm ∧ U.heap = h0) (fun _ _ _ _ _ => True) (fun _ U o U' => ∃ v L, o = .returned v ∧ Q_rmA2y Z A K x1 x2 x3 c1 c2 c3 s1 s2 s3 zw zx z18 t1 t2 t3 ga vx vf vt z0 z4 zh z5 zd ze zc zi zq zr zs zy zz zo z19 h0 n0 v U'.heap L ∧ FrameEnd U o U' L (Room.mk 2 0 0 32).cells (Room.mk 2 0 0 32).slots) := by
  refine MetFree.of_bodySF (plainFor_of_name own_pn0) hisR ?_
  intro p e s m args below meth c s₁ Bd hml0 hP hK
  obtain ⟨rfl, hZ, hh⟩ := hP
  have hx := Bd.exec
  have hby := Bd.bytes
  have hml : c.maxLocals = 9 := hml0
  have hown : s.vm.findClass y_s0 = some m.cls := findClass_of_methodNamed Bd.named
  have hnm := (name_of_methodNamed Bd.named Bd.method).1
  have X0 : Stand p l e (Room.mk 2 0 0 32) s m #[(.ref z0), (.double (Jvm.FP.l2d (vx.toInt64))), (.int vf), (.int vt), .null] below meth c s₁ [] 0 0 := Stand.of_body Bd
  have e0 : s₁.heap = h0 := by rw [← hh, Bd.state]; rfl
  have N0 := Fr.nil n0
  have pre0 : ∀ t, Steps p.tables e below (s₁.setTop (mkF m 0 #[.val (.ref z0), .val (.double (Jvm.FP.l2d (vx.toInt64))), .second, .val (.int vf), .val (.int vt), .val .null, .unset, .unset, .unset] [])) t → Steps p.tables e below (s₁.setTop (entryFrame m #[(.ref z0), (.double (Jvm.FP.l2d (vx.toInt64))), (.int vf), (.int vt), .null] 9)) t := fun t k => castTop (by first | (simp [entryFrame, mkF, argsToLocals, Value.category, maxLocals]; done) | rfl) k
  have KK0 : Keep h0 h0 [zd, ze, zc, z0, z4, zh, z5] := Keep.refl _ _
  obtain ⟨z3w, z2f, z3x, z3y⟩ := getF X0 hx hZ hown (host := "") (Or.inl (own_W hw 41 rfl)) Via.refl e0 z1a (g := (mkF m 1 #[.val (.ref z0), .val (.double (Jvm.FP.l2d (vx.toInt64))), .second, .val (.int vf), .val (.int vt), .val .null, .unset, .unset, .unset] [(.ref z0)])) rfl rfl (hb hby y3_1)
  obtain ⟨z1m, z14, z2g, z3z⟩ := getF z2f hx hZ hown (host := "") (Or.inl (own_W hw 20 rfl)) Via.refl z3x z1b (g := (mkF m 5 #[.val (.ref z0), .val (.double (Jvm.FP.l2d (vx.toInt64))), .second, .val (.int vf), .val (.int vt), .val .null, .unset, .unset, .unset] [(.ref z0), (.int 2)])) rfl rfl (hb hby y3_5)
  obtain ⟨z74, z2h, -, z40, z41, -, -⟩ := (id z1c)
  obtain ⟨z42, z2i, z43, z44⟩ := getF z14 hx hZ hown (host := "") (Or.inl (own_W hw 30 rfl)) Via.refl z2g z24 (g := (mkF m 17 #[.val (.ref z0), .val (.double (Jvm.FP.l2d (vx.toInt64))), .second, .val (.int vf), .val (.int vt), .val .null, .unset, .unset, .unset] [(.ref z0)])) rfl rfl (hb hby y3_17)
  obtain ⟨z1n, zt, z2j, z45⟩ := getF z2i hx hZ hown (host := "") (Or.inl (own_W hw 20 rfl)) Via.refl z43 z1b (g := (mkF m 21 #[.val (.ref z0), .val (.double (Jvm.FP.l2d (vx.toInt64))), .second, .val (.int vf), .val (.int vt), .val .null, .unset, .unset, .unset] [(.ref z0), (.ref zi)])) rfl rfl (hb hby y3_21)
  obtain ⟨z75, z2k, -, z46, z47, -, -⟩ := (id z1c)
  obtain ⟨z1o, zu, z2l, z48⟩ := getF zt hx hZ hown (host := "") (Or.inl (own_W hw 41 rfl)) Via.refl z2j z1a (g := (mkF m 28 #[.val (.ref z0), .val (.double (Jvm.FP.l2d (vx.toInt64))), .second, .val (.int vf), .val (.int vt), .val .null, .unset, .unset, .unset] [(.ref z0), (.int 15), (.ref zi)])) rfl rfl (hb hby y3_28)
  obtain ⟨z2m, z1p, z76, z49, z77, z4a, z78⟩ := (id z3j)
  have z2n : ¬ ((13 : Int32) < 0 ∨ z2m.slots.size ≤ ((13 : Int32)).toNatClampNeg) := inb_of z49 ⟨by decide, by decide⟩
  have z4b : z2m.slots[((13 : Int32)).toNatClampNeg]? = some (.int 2) := Has.at z4a z2n rfl
  obtain ⟨z4c, z1q, z4d, z4e⟩ := getF zu hx hZ hown (host := "") (Or.inl (own_W hw 22 rfl)) Via.refl z2l z25 (g := (mkF m 36 #[.val (.ref z0), .val (.double (Jvm.FP.l2d (vx.toInt64))), .second, .val (.int vf), .val (.int vt), .val .null, .val (.int 2), .unset, .unset] [(.ref z0)])) rfl rfl (hb hby y3_36)
  obtain ⟨z4f, z2o, z4g, z2p, z4h, z4i, z4j⟩ := (id z3k)
  have z4k : ¬ ((2 : Int32) < 0 ∨ z4f.slots.size ≤ ((2 : Int32)).toNatClampNeg) := inb_of z2p ⟨by decide, by decide⟩
  obtain ⟨z4l, z4m, z1r, z4n, z6, z4o⟩ := stI z1q hx hZ z4d z2o (j := (2 : Int32)) z4k (g := (mkF m 42 #[.val (.ref z0), .val (.double (Jvm.FP.l2d (vx.toInt64))), .second, .val (.int vf), .val (.int vt), .val .null, .val (.int 2), .unset, .unset] [(.int vf), (.int 2), (.ref zd)])) rfl rfl (hb hby y3_42)
  have z4p := Fr.snoc z1r N0 z2c
  have z4q := OL0.wr z6 z2c
  have z4r := KK0.wr z6 (own_Ix 0 rfl)
  have z4s : Arv Z z4m zd zy .int 16 [(.int zw), (.int zx), (.int vf)] (.int 0) := Arv.set z2o z4g z2p z4h z4i z4j rfl z6 2 (by decide) (by decide : 2 < 3)
  have z2q := (z3l.other z6 (Or.inl zk))
  obtain ⟨z4t, z1s, z4u, z4v⟩ := getF z1r hx hZ hown (host := "") (Or.inl (own_W hw 24 rfl)) Via.refl z4n z2q (g := (mkF m 44 #[.val (.ref z0), .val (.double (Jvm.FP.l2d (vx.toInt64))), .second, .val (.int vf), .val (.int vt), .val .null, .val (.int 2), .unset, .unset] [(.ref z0)])) rfl rfl (hb hby y3_44)
  have z4w := (z3m.other z6 (Ne.symm z26))
  obtain ⟨z4x, z2r, z4y, z2s, z4z, z50, z51⟩ := (id z4w)
  have z52 : ¬ ((2 : Int32) < 0 ∨ z4x.slots.size ≤ ((2 : Int32)).toNatClampNeg) := inb_of z2s ⟨by decide, by decide⟩
  obtain ⟨z53, z2t, z1t, z54, z7, z55⟩ := stI z1s hx hZ z4u z2r (j := (2 : Int32)) z52 (g := (mkF m 51 #[.val (.ref z0), .val (.double (Jvm.FP.l2d (vx.toInt64))), .second, .val (.int vf), .val (.int vt), .val .null, .val (.int 2), .unset, .unset] [(.int vt), (.int 2), (.ref ze)])) rfl rfl (hb hby y3_51)
  have z56 := Fr.snoc z1t z4p z2d
  have z57 := z4q.wr z7 z2d
  have z58 := z4r.wr z7 (own_Ix 1 rfl)
  have z59 : Arv Z z2t ze zz .int 16 [(.int t1), (.int t2), (.int vt)] (.int 0) := Arv.set z2r z4y z2s z4z z50 z51 rfl z7 2 (by decide) (by decide : 2 < 3)
  have z2u := ((z3n.other z6 (Or.inl zk)).other z7 (Or.inl zl))
  obtain ⟨z5a, z1u, z5b, z5c⟩ := getF z1t hx hZ hown (host := "") (Or.inl (own_W hw 28 rfl)) Via.refl z54 z2u (g := (mkF m 53 #[.val (.ref z0), .val (.double (Jvm.FP.l2d (vx.toInt64))), .second, .val (.int vf), .val (.int vt), .val .null, .val (.int 2), .unset, .unset] [(.ref z0)])) rfl rfl (hb hby y3_53)
  have z2v : own_AM Z z2t zc zo (.object y_s2) := ((z3o.other z6 (Ne.symm z27)).other z7 (Ne.symm z28))
  obtain ⟨vs256, dv256, z5d, z5e, z79, z5f, z7a, z7b, z7c⟩ := (id z2v)
  have z5g : ¬ ((2 : Int32) < 0 ∨ z5d.slots.size ≤ ((2 : Int32)).toNatClampNeg) := inb_of z5f ⟨by decide, by decide⟩
  obtain ⟨z5h, z5i, z15, z5j, z8, z5k⟩ := stR z1u hx hZ z5b z5e (j := (2 : Int32)) z5g rfl (Or.inl rfl) (g := (mkF m 60 #[.val (.ref z0), .val (.double (Jvm.FP.l2d (vx.toInt64))), .second, .val (.int vf), .val (.int vt), .val .null, .val (.int 2), .unset, .unset] [.null, (.int 2), (.ref zc)])) rfl rfl (hb hby y3_60)
  have z5l := Fr.snoc z15 z56 z2e
  have z5m := z57.wr z8 z2e
  have z5n := z58.wr z8 (own_Ix 2 rfl)
  have z5o : own_AM Z z5i zc zo (.object y_s2) := own_AM.set z2v rfl z8
  have z1v := (((z1a.other z6 (Or.inl zk)).other z7 (Or.inl zl)).other z8 (Or.inl zm))
  obtain ⟨z2w, z16, z5p, z5q⟩ := getF z15 hx hZ hown (host := "") (Or.inl (own_W hw 41 rfl)) Via.refl z5j z1v (g := (mkF m 63 #[.val (.ref z0), .val (.double (Jvm.FP.l2d (vx.toInt64))), .second, .val (.int vf), .val (.int vt), .val .null, .val (.int 2), .unset, .unset] [(.ref z0), (.ref z0)])) rfl rfl (hb hby y3_63)
  have z2x := (((z3p.wr z6).wr z7).wr z8)
  obtain ⟨z2y, z2z, zp, z5r, z9, z5s⟩ := putF z16 hx hZ hown (host := "") (Or.inl (own_W hw 41 rfl)) Via.refl z5p z1v z2x (Or.inl (own_W hw 42 rfl)) (own_W hw 5 rfl) (ty := .int) (by decide) rfl rfl (g := (mkF m 69 #[.val (.ref z0), .val (.double (Jvm.FP.l2d (vx.toInt64))), .second, .val (.int vf), .val (.int vt), .val .null, .val (.int 2), .unset, .unset] [(.int 3), (.ref z0), (.int 2)])) rfl rfl (hb hby y3_69)
  have z5t := Fr.snoc zp z5l z10
  have z30 := z5m.wr z9 z10
  have z5u := z5n.wr z9 (own_Ix 3 rfl)
  have z5v : Fld Z z2z z0 y_s0 "size" "I" (.int 3) := z1v.same z9
  have z1w := ((((z3q.other z6 (Or.inl zk)).other z7 (Or.inl zl)).other z8 (Or.inl zm)).other z9 (Or.inr (slot_ne (Or.inl (own_W hw 15 rfl)) (Or.inl (own_W hw 42 rfl)) (by decide) (t := (.array .double)) (t' := .int) (by decide) (by decide))))
  obtain ⟨zn, za, z1x, z5w⟩ := getF zp hx hZ hown (host := "") (Or.inl (own_W hw 14 rfl)) Via.refl z5r z1w (g := (mkF m 81 #[.val (.ref z0), .val (.double (Jvm.FP.l2d (vx.toInt64))), .second, .val (.int vf), .val (.int vt), .val .null, .val (.int 2), .val (.int 2), .unset] [(.ref z0), (.double (Jvm.FP.l2d (vx.toInt64)))])) rfl rfl (hb hby y3_81)
  have z31 := ((((z3r.other z6 z1d).other z7 z1e).other z8 z1f).other z9 (Ne.symm z1))
  obtain ⟨z32, z1y, z7d, z5x, z7e, z5y, z7f⟩ := (id z31)
  have z33 : ¬ ((0 : Int32) < 0 ∨ z32.slots.size ≤ ((0 : Int32)).toNatClampNeg) := inb_of z5x ⟨by decide, by decide⟩
  have z5z : z32.slots[((0 : Int32)).toNatClampNeg]? = some (.double (Jvm.FP.l2d (x1.toInt64))) := Has.at z5y z33 rfl
  have z34 := ((((z3s.other z6 (Or.inl zk)).other z7 (Or.inl zl)).other z8 (Or.inl zm)).other z9 (Or.inr (slot_ne (Or.inl (own_W hw 18 rfl)) (Or.inl (own_W hw 42 rfl)) (by decide) (t := (.array .long)) (t' := .int) (by decide) (by decide))))
  have z60 := ((((z3t.other z6 z1g).other z7 z1h).other z8 z1i).other z9 (Ne.symm z2))
  have z35 := ((((z1b.other z6 (Or.inl zk)).other z7 (Or.inl zl)).other z8 (Or.inl zm)).other z9 (Or.inr (slot_ne (Or.inl (own_W hw 21 rfl)) (Or.inl (own_W hw 42 rfl)) (by decide) (t := (.array .int)) (t' := .int) (by decide) (by decide))))
  have z61 := ((((z1c.other z6 z1j).other z7 z1k).other z8 z1l).other z9 (Ne.symm z3))
  have z1z := (z2x.wr z9)
  obtain ⟨cq271, z62, q271'⟩ := z1z.cell
  obtain ⟨_, _, ⟨z36, L271, z7g, n271⟩, -, zj, ⟨Lc271, z37, l271, y271, z271⟩, z38⟩ := za.privateBack hx (y := own_m6) hown (mvT hZ (own_W hw 66 rfl)) (mvT hZ (own_W hw 67 rfl)) (own_selpS (y := own_m6) (mvT hZ (own_W hw 39 rfl)) rfl (mvP (args := #[]) hZ (own_W hw 68 rfl)) (mvT hZ (own_W hw 67 rfl)) (by decide)) (Cond.privateMethod_at (mvP hZ (own_W hw 68 rfl) (args := #[]))) (mvT hZ (own_W hw 69 rfl)) (by decide) (backOf (W := 0) (rmM02 l Z a0 hw [] z2z n0 A K x1 x2 x3 c1 c2 c3 s1 s2 s3 z0 z4 zh z5 zq zr zs EN z30 z1w z31 z34 z60 z35 z61 z1z z1 z29 z2 z2a z2b z11 z12 z13) hZ (own_W hw 69 rfl) (own_W hw 6 rfl) (by decide) (by decide)) (g := (mkF m 108 #[.val (.ref z0), .val (.double (Jvm.FP.l2d (vx.toInt64))), .second, .val (.int vf), .val (.int vt), .val .null, .val (.int 2), .val (.int 2), .val (.int 0)] [(.int 2), (.int 0), (.ref z0)])) rfl (by rw [hml]; rfl) (Steps.refl _) (a := z0) (by rw [z1x]; exact z62) q271' (argsL := [(.int 0), (.int 2)]) (rest := []) (lenOf own_pd1 rfl) rfl (by show 2 * 0 + _ ≤ _; exact Nat.le_of_eq rfl) (hb hby y3_108) (fun _ _ => ⟨rfl, z1x, (by decide : 0 + 0 ≤ _), (by decide : 0 + 0 ≤ _)⟩)
  dsimp only [Pt.U, Pt.locs, Pt.cells, Pt.slots] at zj l271 y271 z271 z38 z37
  replace zj := own_sub zj l271 y271 z271
  obtain ⟨rfl, z63, zf, z64, z65, z66⟩ := z37
  have z67 := Fr.app z5t z63
  have z68 := z30.keep zf (allS z13 (allS z12 (allS z11 all0)))
  have z69 := z5u.trans zf (allS (own_Ix 6 rfl) (allS (own_Ix 5 rfl) (allS (own_Ix 4 rfl) all0)))
  have z20 := (((((z3u.other z6 (Or.inl zk)).other z7 (Or.inl zl)).other z8 (Or.inl zm)).other z9 (Or.inr (slot_ne (Or.inl (own_W hw 44 rfl)) (Or.inl (own_W hw 42 rfl)) (by decide) (t := .long) (t' := .int) (by decide) (by decide)))).keep zf (ninS z3 (ninS z2 (ninS z1 nin0))))
  obtain ⟨z21, z17, z6a, z6b⟩ := getF zj hx hZ hown (host := "") (Or.inl (own_W hw 43 rfl)) Via.refl rfl z20 (g := (mkF m 124 #[.val (.ref z0), .val (.double (Jvm.FP.l2d (vx.toInt64))), .second, .val (.int vf), .val (.int vt), .val .null, .val (.int 2), .val (.int 0), .val (.int 0)] [(.ref z0), (.ref z0), (.double (Jvm.FP.l2d (vx.toInt64))), (.int 0), (.ref z0)])) rfl rfl (hb hby y3_124)
  have z39 := (z1z.keep zf)
  obtain ⟨z6c, z3a, z22, z3b, zb, z6d⟩ := putF z17 hx hZ hown (host := "") (Or.inl (own_W hw 43 rfl)) Via.refl z6a z20 z39 (Or.inl (own_W hw 44 rfl)) (own_W hw 5 rfl) (ty := .long) (by decide) rfl rfl (g := (mkF m 130 #[.val (.ref z0), .val (.double (Jvm.FP.l2d (vx.toInt64))), .second, .val (.int vf), .val (.int vt), .val .null, .val (.int 2), .val (.int 0), .val (.int 0)] [(.long (ga + (1 : Int64))), (.ref z0), (.long ga), (.double (Jvm.FP.l2d (vx.toInt64))), (.int 0), (.ref z0)])) rfl rfl (hb hby y3_130)
  have z6e := Fr.snoc z22 z67 z10
  have z3c := z68.wr zb z10
  have z6f := z69.wr zb (own_Ix 3 rfl)
  have z6g : Fld Z z3a z0 y_s0 "additions" "J" (.long (ga + (1 : Int64))) := z20.same zb
  have z3d := ((z1w.keep zf (ninS z3 (ninS z2 (ninS z1 nin0)))).other zb (Or.inr (slot_ne (Or.inl (own_W hw 15 rfl)) (Or.inl (own_W hw 44 rfl)) (by decide) (t := (.array .double)) (t' := .long) (by decide) (by decide))))
  have z6h := (z64.other zb (Ne.symm z1))
  have z3e := ((z34.keep zf (ninS z3 (ninS z2 (ninS z1 nin0)))).other zb (Or.inr (slot_ne (Or.inl (own_W hw 18 rfl)) (Or.inl (own_W hw 44 rfl)) (by decide) (t := (.array .long)) (t' := .long) (by decide) (by decide))))
  have z6i := (z65.other zb (Ne.symm z2))
  have z3f := ((z35.keep zf (ninS z3 (ninS z2 (ninS z1 nin0)))).other zb (Or.inr (slot_ne (Or.inl (own_W hw 21 rfl)) (Or.inl (own_W hw 44 rfl)) (by decide) (t := (.array .int)) (t' := .long) (by decide) (by decide))))
  have z6j := (z66.other zb (Ne.symm z3))
  have z3g := (z39.wr zb)
  obtain ⟨cq282, z6k, q282'⟩ := z3g.cell
  obtain ⟨_, _, ⟨z23, L282, z7h, n282⟩, -, zv, ⟨Lc282, z3h, l282, y282, z282⟩, z3i⟩ := z22.privateBack hx (y := own_m4) hown (mvT hZ (own_W hw 45 rfl)) (mvT hZ (own_W hw 46 rfl)) (own_selpS (y := own_m4) (mvT hZ (own_W hw 39 rfl)) rfl (mvP (args := #[]) hZ (own_W hw 47 rfl)) (mvT hZ (own_W hw 46 rfl)) (by decide)) (Cond.privateMethod_at (mvP hZ (own_W hw 47 rfl) (args := #[]))) (mvT hZ (own_W hw 48 rfl)) (by decide) (backOf (W := 0) (rmP0 l Z a0 hw [] z3a n0 A K x1 x2 x1 c1 c2 c1 s1 s2 s1 vx ga (2 : Int32) z0 z4 zh z5 zq zr zs EN z3c z3d z6h z3e z6i z3f z6j z1 z29 z2 z2a z2b z11 z12 z13) hZ (own_W hw 48 rfl) (own_W hw 6 rfl) (by decide) (by decide)) (g := (mkF m 135 #[.val (.ref z0), .val (.double (Jvm.FP.l2d (vx.toInt64))), .second, .val (.int vf), .val (.int vt), .val .null, .val (.int 2), .val (.int 0), .val (.int 0)] [(.int 2), (.long ga), (.double (Jvm.FP.l2d (vx.toInt64))), (.int 0), (.ref z0)])) rfl (by rw [hml]; rfl) (Steps.refl _) (a := z0) (by rw [z3b]; exact z6k) q282' (argsL := [(.int 0), (.double (Jvm.FP.l2d (vx.toInt64))), (.long ga), (.int 2)]) (rest := []) (lenOf own_pd0 rfl) rfl (by show 2 * 0 + _ ≤ _; exact Nat.le_of_eq rfl) (hb hby y3_135) (fun _ _ => ⟨rfl, z3b, (by decide : 0 + 0 ≤ _), (by decide : 0 + 0 ≤ _)⟩)
  dsimp only [Pt.U, Pt.locs, Pt.cells, Pt.slots] at zv l282 y282 z282 z3i z3h
  replace zv := own_sub zv l282 y282 z282
  obtain ⟨rfl, z6l, zg, z6m, z6n, z6o⟩ := z3h
  have z6p := Fr.app z6e z6l
  have z7i := z3c.keep zg (allS z11 (allS z12 (allS z13 all0)))
  have z6q := z6f.trans zg (allS (own_Ix 4 rfl) (allS (own_Ix 5 rfl) (allS (own_Ix 6 rfl) all0)))
  have z6r := (z3g.keep zg)
  have z6s := (z3d.keep zg (ninS z1 (ninS z2 (ninS z3 nin0))))
  have z6t := (z3e.keep zg (ninS z1 (ninS z2 (ninS z3 nin0))))
  have z6u := (z3f.keep zg (ninS z1 (ninS z2 (ninS z3 nin0))))
  have z6v := (((((((z25.other z6 (Or.inl zk)).other z7 (Or.inl zl)).other z8 (Or.inl zm)).other z9 (Or.inr (slot_ne (Or.inl (own_W hw 23 rfl)) (Or.inl (own_W hw 42 rfl)) (by decide) (t := (.array .int)) (t' := .int) (by decide) (by decide)))).keep zf (ninS z3 (ninS z2 (ninS z1 nin0)))).other zb (Or.inr (slot_ne (Or.inl (own_W hw 23 rfl)) (Or.inl (own_W hw 44 rfl)) (by decide) (t := (.array .int)) (t' := .long) (by decide) (by decide)))).keep zg (ninS z1 (ninS z2 (ninS z3 nin0))))
  have z6w := ((((((z2q.other z7 (Or.inl zl)).other z8 (Or.inl zm)).other z9 (Or.inr (slot_ne (Or.inl (own_W hw 25 rfl)) (Or.inl (own_W hw 42 rfl)) (by decide) (t := (.array .int)) (t' := .int) (by decide) (by decide)))).keep zf (ninS z3 (ninS z2 (ninS z1 nin0)))).other zb (Or.inr (slot_ne (Or.inl (own_W hw 25 rfl)) (Or.inl (own_W hw 44 rfl)) (by decide) (t := (.array .int)) (t' := .long) (by decide) (by decide)))).keep zg (ninS z1 (ninS z2 (ninS z3 nin0))))
  have z6x := (((((z2u.other z8 (Or.inl zm)).other z9 (Or.inr (slot_ne (Or.inl (own_W hw 29 rfl)) (Or.inl (own_W hw 42 rfl)) (by decide) (t := (.array (.object y_s2))) (t' := .int) (by decide) (by decide)))).keep zf (ninS z3 (ninS z2 (ninS z1 nin0)))).other zb (Or.inr (slot_ne (Or.inl (own_W hw 29 rfl)) (Or.inl (own_W hw 44 rfl)) (by decide) (t := (.array (.object y_s2))) (t' := .long) (by decide) (by decide)))).keep zg (ninS z1 (ninS z2 (ninS z3 nin0))))
  have z6y := (((((((z24.other z6 (Or.inl zk)).other z7 (Or.inl zl)).other z8 (Or.inl zm)).other z9 (Or.inr (slot_ne (Or.inl (own_W hw 31 rfl)) (Or.inl (own_W hw 42 rfl)) (by decide) (t := (.array .int)) (t' := .int) (by decide) (by decide)))).keep zf (ninS z3 (ninS z2 (ninS z1 nin0)))).other zb (Or.inr (slot_ne (Or.inl (own_W hw 31 rfl)) (Or.inl (own_W hw 44 rfl)) (by decide) (t := (.array .int)) (t' := .long) (by decide) (by decide)))).keep zg (ninS z1 (ninS z2 (ninS z3 nin0))))
  have z6z := (((z5v.keep zf (ninS z3 (ninS z2 (ninS z1 nin0)))).other zb (Or.inr (slot_ne (Or.inl (own_W hw 42 rfl)) (Or.inl (own_W hw 44 rfl)) (by decide) (t := .int) (t' := .long) (by decide) (by decide)))).keep zg (ninS z1 (ninS z2 (ninS z3 nin0))))
  have z70 := (z6g.keep zg (ninS z1 (ninS z2 (ninS z3 nin0))))
  have z71 := ((((((z4s.other z7 z26).other z8 z27).other z9 (Ne.symm zk)).keep zf (ninS (Ne.symm z1j) (ninS (Ne.symm z1g) (ninS (Ne.symm z1d) nin0)))).other zb (Ne.symm zk)).keep zg (ninS (Ne.symm z1d) (ninS (Ne.symm z1g) (ninS (Ne.symm z1j) nin0))))
  have z72 := (((((z59.other z8 z28).other z9 (Ne.symm zl)).keep zf (ninS (Ne.symm z1k) (ninS (Ne.symm z1h) (ninS (Ne.symm z1e) nin0)))).other zb (Ne.symm zl)).keep zg (ninS (Ne.symm z1e) (ninS (Ne.symm z1h) (ninS (Ne.symm z1k) nin0))))
  have z73 : own_AM Z z23.heap zc zo (.object y_s2) := ((((z5o.other z9 (Ne.symm zm)).keep zf (ninS (Ne.symm z1l) (ninS (Ne.symm z1i) (ninS (Ne.symm z1f) nin0)))).other zb (Ne.symm zm)).keep zg (ninS (Ne.symm z1f) (ninS (Ne.symm z1i) (ninS (Ne.symm z1l) nin0))))
  obtain ⟨fs, hr, hrun, hended, hW, hsame⟩ := zv.leave (v := none) (fun _ => rfl)
  refine ⟨_, _, pre0 _ ?_, hrun, hended, _, _, rfl, ?_, ⟨_, rfl⟩, hW, hsame.mono (by decide) (by decide)⟩
  · show Steps p.tables e below (s₁.setTop (mkF m 0 #[.val (.ref z0), .val (.double (Jvm.FP.l2d (vx.toInt64))), .second, .val (.int vf), .val (.int vt), .val .null, .unset, .unset, .unset] [])) _
    refine XS.aloadN X0.here hx rfl (hb hby y3_0) rfl rfl ?_
    refine z3y _ ?_
    show Steps p.tables e below (z3w.setTop (mkF m 4 #[.val (.ref z0), .val (.double (Jvm.FP.l2d (vx.toInt64))), .second, .val (.int vf), .val (.int vt), .val .null, .unset, .unset, .unset] [(.int 2)])) _
    refine XS.aloadN z2f.here hx rfl (hb hby y3_4) rfl rfl ?_
    refine z3z _ ?_
    show Steps p.tables e below (z1m.setTop (mkF m 8 #[.val (.ref z0), .val (.double (Jvm.FP.l2d (vx.toInt64))), .second, .val (.int vf), .val (.int vt), .val .null, .unset, .unset, .unset] [(.ref z5), (.int 2)])) _
    refine z14.arraylength hx (by rw [z2g]; exact z2h.1) (State.isArrayOf_alike hZ.alike z2h.2.1) (g := (mkF m 8 #[.val (.ref z0), .val (.double (Jvm.FP.l2d (vx.toInt64))), .second, .val (.int vf), .val (.int vt), .val .null, .unset, .unset, .unset] [(.ref z5), (.int 2)])) rfl rfl (hb hby y3_8) _ ?_
    rw [len_of z40 z41]
    show Steps p.tables e below (z1m.setTop (mkF m 9 #[.val (.ref z0), .val (.double (Jvm.FP.l2d (vx.toInt64))), .second, .val (.int vf), .val (.int vt), .val .null, .unset, .unset, .unset] [(.int 16), (.int 2)])) _
    refine XS.icmpYes z14.here hx rfl (pc0 := 9) (pc' := 16) rfl (hb hby y3_9) rfl (feq (by decide : ¬ ((2 : Int32) = (16 : Int32)))).2 (by decide) (by decide) ?_
    show Steps p.tables e below (z1m.setTop (mkF m 16 #[.val (.ref z0), .val (.double (Jvm.FP.l2d (vx.toInt64))), .second, .val (.int vf), .val (.int vt), .val .null, .unset, .unset, .unset] [])) _
    refine XS.aloadN z14.here hx rfl (hb hby y3_16) rfl rfl ?_
    refine z44 _ ?_
    show Steps p.tables e below (z42.setTop (mkF m 20 #[.val (.ref z0), .val (.double (Jvm.FP.l2d (vx.toInt64))), .second, .val (.int vf), .val (.int vt), .val .null, .unset, .unset, .unset] [(.ref zi)])) _
    refine XS.aloadN z2i.here hx rfl (hb hby y3_20) rfl rfl ?_
    refine z45 _ ?_
    show Steps p.tables e below (z1n.setTop (mkF m 24 #[.val (.ref z0), .val (.double (Jvm.FP.l2d (vx.toInt64))), .second, .val (.int vf), .val (.int vt), .val .null, .unset, .unset, .unset] [(.ref z5), (.ref zi)])) _
    refine zt.arraylength hx (by rw [z2j]; exact z2k.1) (State.isArrayOf_alike hZ.alike z2k.2.1) (g := (mkF m 24 #[.val (.ref z0), .val (.double (Jvm.FP.l2d (vx.toInt64))), .second, .val (.int vf), .val (.int vt), .val .null, .unset, .unset, .unset] [(.ref z5), (.ref zi)])) rfl rfl (hb hby y3_24) _ ?_
    rw [len_of z46 z47]
    show Steps p.tables e below (z1n.setTop (mkF m 25 #[.val (.ref z0), .val (.double (Jvm.FP.l2d (vx.toInt64))), .second, .val (.int vf), .val (.int vt), .val .null, .unset, .unset, .unset] [(.int 16), (.ref zi)])) _
    refine XS.iconst zt.here hx rfl (hb hby y3_25) ?_
    refine XS.isub zt.here hx rfl (hb hby y3_26) rfl ?_
    show Steps p.tables e below (z1n.setTop (mkF m 27 #[.val (.ref z0), .val (.double (Jvm.FP.l2d (vx.toInt64))), .second, .val (.int vf), .val (.int vt), .val .null, .unset, .unset, .unset] [(.int 15), (.ref zi)])) _
    refine XS.aloadN zt.here hx rfl (hb hby y3_27) rfl rfl ?_
    refine z48 _ ?_
    show Steps p.tables e below (z1o.setTop (mkF m 31 #[.val (.ref z0), .val (.double (Jvm.FP.l2d (vx.toInt64))), .second, .val (.int vf), .val (.int vt), .val .null, .unset, .unset, .unset] [(.int 2), (.int 15), (.ref zi)])) _
    refine XS.isub zu.here hx rfl (hb hby y3_31) rfl ?_
    show Steps p.tables e below (z1o.setTop (mkF m 32 #[.val (.ref z0), .val (.double (Jvm.FP.l2d (vx.toInt64))), .second, .val (.int vf), .val (.int vt), .val .null, .unset, .unset, .unset] [(.int 13), (.ref zi)])) _
    refine zu.iaload hx (j := (13 : Int32)) (v := (.int 2)) (by rw [z2l]; exact z1p.1) (State.isArrayOf_alike hZ.alike z1p.2.1) z1p.2.2 z2n z4b (g := (mkF m 32 #[.val (.ref z0), .val (.double (Jvm.FP.l2d (vx.toInt64))), .second, .val (.int vf), .val (.int vt), .val .null, .unset, .unset, .unset] [(.int 13), (.ref zi)])) rfl rfl (hb hby y3_32) _ ?_
    show Steps p.tables e below (z1o.setTop (mkF m 33 #[.val (.ref z0), .val (.double (Jvm.FP.l2d (vx.toInt64))), .second, .val (.int vf), .val (.int vt), .val .null, .unset, .unset, .unset] [(.int 2)])) _
    refine XS.istore zu.here hx rfl (hb hby y3_33) rfl (l' := #[.val (.ref z0), .val (.double (Jvm.FP.l2d (vx.toInt64))), .second, .val (.int vf), .val (.int vt), .val .null, .val (.int 2), .unset, .unset]) rfl ?_
    refine XS.aloadN zu.here hx rfl (hb hby y3_35) rfl rfl ?_
    refine z4e _ ?_
    show Steps p.tables e below (z4c.setTop (mkF m 39 #[.val (.ref z0), .val (.double (Jvm.FP.l2d (vx.toInt64))), .second, .val (.int vf), .val (.int vt), .val .null, .val (.int 2), .unset, .unset] [(.ref zd)])) _
    refine XS.iload z1q.here hx rfl (hb hby y3_39) rfl ?_
    refine XS.iloadN z1q.here hx rfl (hb hby y3_41) rfl ?_
    refine z4o _ ?_
    show Steps p.tables e below (z4l.setTop (mkF m 43 #[.val (.ref z0), .val (.double (Jvm.FP.l2d (vx.toInt64))), .second, .val (.int vf), .val (.int vt), .val .null, .val (.int 2), .unset, .unset] [])) _
    refine XS.aloadN z1r.here hx rfl (hb hby y3_43) rfl rfl ?_
    refine z4v _ ?_
    show Steps p.tables e below (z4t.setTop (mkF m 47 #[.val (.ref z0), .val (.double (Jvm.FP.l2d (vx.toInt64))), .second, .val (.int vf), .val (.int vt), .val .null, .val (.int 2), .unset, .unset] [(.ref ze)])) _
    refine XS.iload z1s.here hx rfl (hb hby y3_47) rfl ?_
    refine XS.iload z1s.here hx rfl (hb hby y3_49) rfl ?_
    refine z55 _ ?_
    show Steps p.tables e below (z53.setTop (mkF m 52 #[.val (.ref z0), .val (.double (Jvm.FP.l2d (vx.toInt64))), .second, .val (.int vf), .val (.int vt), .val .null, .val (.int 2), .unset, .unset] [])) _
    refine XS.aloadN z1t.here hx rfl (hb hby y3_52) rfl rfl ?_
    refine z5c _ ?_
    show Steps p.tables e below (z5a.setTop (mkF m 56 #[.val (.ref z0), .val (.double (Jvm.FP.l2d (vx.toInt64))), .second, .val (.int vf), .val (.int vt), .val .null, .val (.int 2), .unset, .unset] [(.ref zc)])) _
    refine XS.iload z1u.here hx rfl (hb hby y3_56) rfl ?_
    refine XS.aload z1u.here hx rfl (hb hby y3_58) rfl rfl ?_
    refine z5k _ ?_
    show Steps p.tables e below (z5h.setTop (mkF m 61 #[.val (.ref z0), .val (.double (Jvm.FP.l2d (vx.toInt64))), .second, .val (.int vf), .val (.int vt), .val .null, .val (.int 2), .unset, .unset] [])) _
    refine XS.aloadN z15.here hx rfl (hb hby y3_61) rfl rfl ?_
    refine XS.dup z15.here hx rfl (hb hby y3_62) rfl rfl ?_
    refine z5q _ ?_
    show Steps p.tables e below (z2w.setTop (mkF m 66 #[.val (.ref z0), .val (.double (Jvm.FP.l2d (vx.toInt64))), .second, .val (.int vf), .val (.int vt), .val .null, .val (.int 2), .unset, .unset] [(.int 2), (.ref z0)])) _
    refine XS.dupX1 z16.here hx rfl (hb hby y3_66) rfl rfl rfl ?_
    refine XS.iconst z16.here hx rfl (hb hby y3_67) ?_
    refine XS.iadd z16.here hx rfl (hb hby y3_68) rfl ?_
    show Steps p.tables e below (z2w.setTop (mkF m 69 #[.val (.ref z0), .val (.double (Jvm.FP.l2d (vx.toInt64))), .second, .val (.int vf), .val (.int vt), .val .null, .val (.int 2), .unset, .unset] [(.int 3), (.ref z0), (.int 2)])) _
    refine z5s _ ?_
    show Steps p.tables e below (z2y.setTop (mkF m 72 #[.val (.ref z0), .val (.double (Jvm.FP.l2d (vx.toInt64))), .second, .val (.int vf), .val (.int vt), .val .null, .val (.int 2), .unset, .unset] [(.int 2)])) _
    refine XS.istore zp.here hx rfl (hb hby y3_72) rfl (l' := #[.val (.ref z0), .val (.double (Jvm.FP.l2d (vx.toInt64))), .second, .val (.int vf), .val (.int vt), .val .null, .val (.int 2), .val (.int 2), .unset]) rfl ?_
    refine XS.iload zp.here hx rfl (hb hby y3_74) rfl ?_
    refine XS.ifNo zp.here hx rfl (hb hby y3_76) rfl ((if0 _ _).trans (tlt (by decide : (0 : Int32) < (2 : Int32))).2.2.2) ?_
    show Steps p.tables e below (z2y.setTop (mkF m 79 #[.val (.ref z0), .val (.double (Jvm.FP.l2d (vx.toInt64))), .second, .val (.int vf), .val (.int vt), .val .null, .val (.int 2), .val (.int 2), .unset] [])) _
    refine XS.dloadN zp.here hx rfl (hb hby y3_79) rfl ?_
    refine XS.aloadN zp.here hx rfl (hb hby y3_80) rfl rfl ?_
    refine z5w _ ?_
    show Steps p.tables e below (zn.setTop (mkF m 84 #[.val (.ref z0), .val (.double (Jvm.FP.l2d (vx.toInt64))), .second, .val (.int vf), .val (.int vt), .val .null, .val (.int 2), .val (.int 2), .unset] [(.ref z4), (.double (Jvm.FP.l2d (vx.toInt64)))])) _
    refine XS.iload za.here hx rfl (hb hby y3_84) rfl ?_
    refine XS.iconst za.here hx rfl (hb hby y3_86) ?_
    refine XS.isub za.here hx rfl (hb hby y3_87) rfl ?_
    show Steps p.tables e below (zn.setTop (mkF m 88 #[.val (.ref z0), .val (.double (Jvm.FP.l2d (vx.toInt64))), .second, .val (.int vf), .val (.int vt), .val .null, .val (.int 2), .val (.int 2), .unset] [(.int 1), (.ref z4), (.double (Jvm.FP.l2d (vx.toInt64)))])) _
    refine XS.iconst za.here hx rfl (hb hby y3_88) ?_
    refine XS.idiv za.here hx rfl (hb hby y3_89) rfl (by decide) ?_
    show Steps p.tables e below (zn.setTop (mkF m 90 #[.val (.ref z0), .val (.double (Jvm.FP.l2d (vx.toInt64))), .second, .val (.int vf), .val (.int vt), .val .null, .val (.int 2), .val (.int 2), .unset] [(.int 0), (.ref z4), (.double (Jvm.FP.l2d (vx.toInt64)))])) _
    refine za.daload hx (j := (0 : Int32)) (v := (.double (Jvm.FP.l2d (x1.toInt64)))) (by rw [z1x]; exact z1y.1) (State.isArrayOf_alike hZ.alike z1y.2.1) z1y.2.2 z33 z5z (g := (mkF m 90 #[.val (.ref z0), .val (.double (Jvm.FP.l2d (vx.toInt64))), .second, .val (.int vf), .val (.int vt), .val .null, .val (.int 2), .val (.int 2), .unset] [(.int 0), (.ref z4), (.double (Jvm.FP.l2d (vx.toInt64)))])) rfl rfl (hb hby y3_90) _ ?_
    show Steps p.tables e below (zn.setTop (mkF m 91 #[.val (.ref z0), .val (.double (Jvm.FP.l2d (vx.toInt64))), .second, .val (.int vf), .val (.int vt), .val .null, .val (.int 2), .val (.int 2), .unset] [(.double (Jvm.FP.l2d (x1.toInt64))), (.double (Jvm.FP.l2d (vx.toInt64)))])) _
    refine XS.dcmpS za.here hx rfl (hb hby y3_91) rfl (dcmpV_w (own_b53 vx) (own_b53 x1) _) ?_
    show Steps p.tables e below (zn.setTop (mkF m 92 #[.val (.ref z0), .val (.double (Jvm.FP.l2d (vx.toInt64))), .second, .val (.int vf), .val (.int vt), .val .null, .val (.int 2), .val (.int 2), .unset] [(.int (lcmpW (vx.toInt64) (x1.toInt64)))])) _
    refine XS.ifNo za.here hx rfl (hb hby y3_92) rfl ((if0 _ _).trans (tlt ((own_llt _ _).mpr hri)).2.1) ?_
    show Steps p.tables e below (zn.setTop (mkF m 95 #[.val (.ref z0), .val (.double (Jvm.FP.l2d (vx.toInt64))), .second, .val (.int vf), .val (.int vt), .val .null, .val (.int 2), .val (.int 2), .unset] [])) _
    refine XS.iload za.here hx rfl (hb hby y3_95) rfl ?_
    refine XS.iconst za.here hx rfl (hb hby y3_97) ?_
    refine XS.isub za.here hx rfl (hb hby y3_98) rfl ?_
    show Steps p.tables e below (zn.setTop (mkF m 99 #[.val (.ref z0), .val (.double (Jvm.FP.l2d (vx.toInt64))), .second, .val (.int vf), .val (.int vt), .val .null, .val (.int 2), .val (.int 2), .unset] [(.int 1)])) _
    refine XS.iconst za.here hx rfl (hb hby y3_99) ?_
    refine XS.idiv za.here hx rfl (hb hby y3_100) rfl (by decide) ?_
    show Steps p.tables e below (zn.setTop (mkF m 101 #[.val (.ref z0), .val (.double (Jvm.FP.l2d (vx.toInt64))), .second, .val (.int vf), .val (.int vt), .val .null, .val (.int 2), .val (.int 2), .unset] [(.int 0)])) _
    refine XS.istore za.here hx rfl (hb hby y3_101) rfl (l' := #[.val (.ref z0), .val (.double (Jvm.FP.l2d (vx.toInt64))), .second, .val (.int vf), .val (.int vt), .val .null, .val (.int 2), .val (.int 2), .val (.int 0)]) rfl ?_
    refine XS.aloadN za.here hx rfl (hb hby y3_103) rfl rfl ?_
    refine XS.iload za.here hx rfl (hb hby y3_104) rfl ?_
    refine XS.iload za.here hx rfl (hb hby y3_106) rfl ?_
    refine z38.trans ?_
    show Steps p.tables e below (z36.setTop (mkF m 111 #[.val (.ref z0), .val (.double (Jvm.FP.l2d (vx.toInt64))), .second, .val (.int vf), .val (.int vt), .val .null, .val (.int 2), .val (.int 2), .val (.int 0)] [])) _
    refine XS.iload zj.here hx rfl (hb hby y3_111) rfl ?_
    refine XS.istore zj.here hx rfl (hb hby y3_113) rfl (l' := #[.val (.ref z0), .val (.double (Jvm.FP.l2d (vx.toInt64))), .second, .val (.int vf), .val (.int vt), .val .null, .val (.int 2), .val (.int 0), .val (.int 0)]) rfl ?_
    refine XS.goto zj.here hx rfl (pc0 := 115) (pc' := 74) rfl (hb hby y3_115) (by decide) (by decide) ?_
    refine XS.iload zj.here hx rfl (hb hby y3_74) rfl ?_
    refine XS.ifYes zj.here hx rfl (pc0 := 76) (pc' := 118) rfl (hb hby y3_76) rfl ((if0 _ _).trans (flt (by decide : ¬ ((0 : Int32) < (0 : Int32)))).2.2.2) (by decide) (by decide) ?_
    show Steps p.tables e below (z36.setTop (mkF m 118 #[.val (.ref z0), .val (.double (Jvm.FP.l2d (vx.toInt64))), .second, .val (.int vf), .val (.int vt), .val .null, .val (.int 2), .val (.int 0), .val (.int 0)] [])) _
    refine XS.aloadN zj.here hx rfl (hb hby y3_118) rfl rfl ?_
    refine XS.iload zj.here hx rfl (hb hby y3_119) rfl ?_
    refine XS.dloadN zj.here hx rfl (hb hby y3_121) rfl ?_
    refine XS.aloadN zj.here hx rfl (hb hby y3_122) rfl rfl ?_
    refine XS.dup zj.here hx rfl (hb hby y3_123) rfl rfl ?_
    refine z6b _ ?_
    show Steps p.tables e below (z21.setTop (mkF m 127 #[.val (.ref z0), .val (.double (Jvm.FP.l2d (vx.toInt64))), .second, .val (.int vf), .val (.int vt), .val .null, .val (.int 2), .val (.int 0), .val (.int 0)] [(.long ga), (.ref z0), (.double (Jvm.FP.l2d (vx.toInt64))), (.int 0), (.ref z0)])) _
    refine own_dup2X1 z17.here hx rfl (hb hby y3_127) rfl ?_
    show Steps p.tables e below (z21.setTop (mkF m 128 #[.val (.ref z0), .val (.double (Jvm.FP.l2d (vx.toInt64))), .second, .val (.int vf), .val (.int vt), .val .null, .val (.int 2), .val (.int 0), .val (.int 0)] [(.long ga), (.ref z0), (.long ga), (.double (Jvm.FP.l2d (vx.toInt64))), (.int 0), (.ref z0)])) _
    refine XS.lconst z17.here hx rfl (hb hby y3_128) ?_
    refine XS.ladd z17.here hx rfl (hb hby y3_129) rfl ?_
    show Steps p.tables e below (z21.setTop (mkF m 130 #[.val (.ref z0), .val (.double (Jvm.FP.l2d (vx.toInt64))), .second, .val (.int vf), .val (.int vt), .val .null, .val (.int 2), .val (.int 0), .val (.int 0)] [(.long (ga + (1 : Int64))), (.ref z0), (.long ga), (.double (Jvm.FP.l2d (vx.toInt64))), (.int 0), (.ref z0)])) _
    refine z6d _ ?_
    show Steps p.tables e below (z6c.setTop (mkF m 133 #[.val (.ref z0), .val (.double (Jvm.FP.l2d (vx.toInt64))), .second, .val (.int vf), .val (.int vt), .val .null, .val (.int 2), .val (.int 0), .val (.int 0)] [(.long ga), (.double (Jvm.FP.l2d (vx.toInt64))), (.int 0), (.ref z0)])) _
    refine XS.iload z22.here hx rfl (hb hby y3_133) rfl ?_
    refine z3i.trans ?_
    show Steps p.tables e below (z23.setTop (mkF m 138 #[.val (.ref z0), .val (.double (Jvm.FP.l2d (vx.toInt64))), .second, .val (.int vf), .val (.int vt), .val .null, .val (.int 2), .val (.int 0), .val (.int 0)] [])) _
    exact zv.returnOut hx Bd.returns (hb hby y3_138) hr
  · show Q_rmA2y Z A K x1 x2 x3 c1 c2 c3 s1 s2 s3 zw zx z18 t1 t2 t3 ga vx vf vt z0 z4 zh z5 zd ze zc zi zq zr zs zy zz zo z19 h0 n0 _ z23.heap _
    exact ⟨rfl, z6p, z6q, z6r, z6s, z6t, z6u, z6v, z6w, z6x, z6y, z6z, z70, z6m, z6n, z6o, z71, z72, z73, z3v⟩
def Q_rmA2n (Z : State) (A : Nat → Addr) (K : Nat → ClassId) (x1 : Int32) (x2 : Int32) (x3 : Int32) (c1 : Int64) (c2 : Int64) (c3 : Int64) (s1 : Int32) (s2 : Int32) (s3 : Int32) (z8 : Int32) (z9 : Int32) (zg : Int32) (t1 : Int32) (t2 : Int32) (t3 : Int32) (ga : Int64) (vx : Int32) (vf : Int32) (vt : Int32) (z0 : Addr) (z1 : Addr) (z2 : Addr) (z3 : Addr) (z4 : Addr) (z5 : Addr) (z6 : Addr) (za : Addr) (zb : ClassId) (zc : ClassId) (zd : ClassId) (ze : ClassId) (zf : ClassId) (z7 : ClassId) (zh : ClassId) (h0 : Heap) (n0 : Nat) (v : Option Value) (h : Heap) (L : List Loc) : Prop := v = none ∧ Fr n0 L ∧ Keep h0 h [z4, z5, z6, z0, z3, z2, z1] ∧ (Exa Z h z0 y_s0) ∧ (Fld Z h z0 y_s0 "at" "[D" (.ref z1)) ∧ (Fld Z h z0 y_s0 "added" "[J" (.ref z2)) ∧ (Fld Z h z0 y_s0 "slot" "[I" (.ref z3)) ∧ (Fld Z h z0 y_s0 "from" "[I" (.ref z4)) ∧ (Fld Z h z0 y_s0 "to" "[I" (.ref z5)) ∧ (Fld Z h z0 y_s0 "message" y_s1 (.ref z6)) ∧ (Fld Z h z0 y_s0 "free" "[I" (.ref za)) ∧ (Fld Z h z0 y_s0 "size" "I" (.int 3)) ∧ (Fld Z h z0 y_s0 "additions" "J" (.long (ga + (1 : Int64)))) ∧ (Arv Z h z1 zb .double (16 : Int32) [(.double (Jvm.FP.l2d (x1.toInt64))), (.double (Jvm.FP.l2d (x2.toInt64))), (.double (Jvm.FP.l2d (vx.toInt64)))] (.double (Jvm.FP.l2d ((0 : Int32).toInt64)))) ∧ (Arv Z h z2 zc .long (16 : Int32) [(.long c1), (.long c2), (.long ga)] (.long 0)) ∧ (Arv Z h z3 zd .int 16 [(.int s1), (.int s2), (.int 2)] (.int 0)) ∧ (Arv Z h z4 ze .int 16 [(.int z8), (.int z9), (.int vf)] (.int 0)) ∧ (Arv Z h z5 zf .int 16 [(.int t1), (.int t2), (.int vt)] (.int 0)) ∧ (own_AM Z h z6 z7 (.object y_s2)) ∧ (Ovr Z z7 y_s2)
set_option maxRecDepth 65536 in
set_option maxHeartbeats 40000000 in
theorem rmA2n (l : Launch) (Z : State) (a0 : Array Value) (hw : ∀ d ∈ tables_1, d.before a0 Z = true) (ws : List Jvm.Cond) (h0 : Heap) (n0 : Nat) (A : Nat → Addr) (K : Nat → ClassId) (x1 : Int32) (x2 : Int32) (x3 : Int32) (c1 : Int64) (c2 : Int64) (c3 : Int64) (s1 : Int32) (s2 : Int32) (s3 : Int32) (zr : Int32) (zs : Int32) (z13 : Int32) (t1 : Int32) (t2 : Int32) (t3 : Int32) (ga : Int64) (vx : Int32) (vf : Int32) (vt : Int32)  (z0 : Addr) (z6 : Addr) (ze : Addr) (z7 : Addr) (z9 : Addr) (za : Addr) (z8 : Addr) (zc : Addr) (zt : ClassId) (zu : ClassId) (zv : ClassId) (zw : ClassId) (zx : ClassId) (zl : ClassId) (z14 : ClassId) (EN : own_St Z A K) (OL0 : Old Z n0 h0) (z15 : Fld Z h0 z0 y_s0 "size" "I" (.int 2)) (z16 : Fld Z h0 z0 y_s0 "slot" "[I" (.ref z7)) (z17 : Arv Z h0 z7 zv .int 16 [(.int s1), (.int s2), (.int s3)] (.int 0)) (z1n : Fld Z h0 z0 y_s0 "free" "[I" (.ref zc)) (z36 : Arv Z h0 zc z14 .int 16 [(.int 15), (.int 14), (.int 13), (.int 12), (.int 11), (.int 10), (.int 9), (.int 8), (.int 7), (.int 6), (.int 5), (.int 4), (.int 3), (.int 2), (.int 1), (.int 0)] (.int 0)) (z1o : Fld Z h0 z0 y_s0 "from" "[I" (.ref z9)) (z37 : Arv Z h0 z9 zw .int 16 [(.int zr), (.int zs), (.int z13)] (.int 0)) (z38 : Fld Z h0 z0 y_s0 "to" "[I" (.ref za)) (z39 : Arv Z h0 za zx .int 16 [(.int t1), (.int t2), (.int t3)] (.int 0)) (z3a : Fld Z h0 z0 y_s0 "message" y_s1 (.ref z8)) (z3b : own_AM Z h0 z8 zl (.object y_s2)) (z3c : Exa Z h0 z0 y_s0) (z3d : Fld Z h0 z0 y_s0 "at" "[D" (.ref z6)) (z3e : Arv Z h0 z6 zt .double (16 : Int32) [(.double (Jvm.FP.l2d (x1.toInt64))), (.double (Jvm.FP.l2d (x2.toInt64))), (.double (Jvm.FP.l2d (x3.toInt64)))] (.double (Jvm.FP.l2d ((0 : Int32).toInt64)))) (z3f : Fld Z h0 z0 y_s0 "additions" "J" (.long ga)) (z3g : Fld Z h0 z0 y_s0 "added" "[J" (.ref ze)) (z3h : Arv Z h0 ze zu .long (16 : Int32) [(.long c1), (.long c2), (.long c3)] (.long 0)) (z3i : Ovr Z zl y_s2) (hri : ¬ (vx < x1)) (zh : z0 ≠ z9) (z1p : z9 ≠ za) (zi : z0 ≠ za) (z1q : z9 ≠ z8) (z1r : za ≠ z8) (zj : z0 ≠ z8) (z1s : z6 ≠ z9) (z1t : z6 ≠ za) (z1u : z6 ≠ z8) (zf : z0 ≠ z6) (z1v : ze ≠ z9) (z1w : ze ≠ za) (z1x : ze ≠ z8) (zg : z0 ≠ ze) (z1y : z7 ≠ z9) (z1z : z7 ≠ za) (z20 : z7 ≠ z8) (zk : z0 ≠ z7) (z3j : z6 ≠ ze) (z3k : z6 ≠ z7) (z3l : ze ≠ z7) (z21 : n0 ≤ z9) (z22 : n0 ≤ za) (z23 : n0 ≤ z8) (zy : n0 ≤ z0) (z24 : n0 ≤ z6) (z25 : n0 ≤ ze) (z26 : n0 ≤ z7) :
    MetFree l own_m0 (head1 (Jvm.Cond.code own_m0 prog_48_method_2_code 9 none :: ws) (Room.mk 1 0 0 18)) (fun a U => a = #[(.ref z0), (.double (Jvm.FP.l2d (vx.toInt64))), (.int vf), (.int vt), .null] ∧ Z.Warmed39 U.vm ∧ U.heap = h0) (fun _ _ _ _ _ => True) (fun _ U o U' => ∃ v L, o = .returned v ∧ Q_rmA2n Z A K x1 x2 x3 c1 c2 c3 s1 s2 s3 zr zs z13 t1 t2 t3 ga vx vf vt z0 z6 ze z7 z9 za z8 zc zt zu zv zw zx zl z14 h0 n0 v U'.heap L ∧ FrameEnd U o U' L (Room.mk 1 0 0 18).cells (Room.mk 1 0 0 18).slots) := by
  refine MetFree.of_bodySF (plainFor_of_name own_pn0) hisR ?_
  intro p e s m args below meth c s₁ Bd hml0 hP hK
  obtain ⟨rfl, hZ, hh⟩ := hP
  have hx := Bd.exec
  have hby := Bd.bytes
  have hml : c.maxLocals = 9 := hml0
  have hown : s.vm.findClass y_s0 = some m.cls := findClass_of_methodNamed Bd.named
  have hnm := (name_of_methodNamed Bd.named Bd.method).1
  have X0 : Stand p l e (Room.mk 1 0 0 18) s m #[(.ref z0), (.double (Jvm.FP.l2d (vx.toInt64))), (.int vf), (.int vt), .null] below meth c s₁ [] 0 0 := Stand.of_body Bd
  have e0 : s₁.heap = h0 := by rw [← hh, Bd.state]; rfl
  have N0 := Fr.nil n0
  have pre0 : ∀ t, Steps p.tables e below (s₁.setTop (mkF m 0 #[.val (.ref z0), .val (.double (Jvm.FP.l2d (vx.toInt64))), .second, .val (.int vf), .val (.int vt), .val .null, .unset, .unset, .unset] [])) t → Steps p.tables e below (s₁.setTop (entryFrame m #[(.ref z0), (.double (Jvm.FP.l2d (vx.toInt64))), (.int vf), (.int vt), .null] 9)) t := fun t k => castTop (by first | (simp [entryFrame, mkF, argsToLocals, Value.category, maxLocals]; done) | rfl) k
  have KK0 : Keep h0 h0 [z9, za, z8, z0, z7, ze, z6] := Keep.refl _ _
  obtain ⟨z3m, z27, z3n, z3o⟩ := getF X0 hx hZ hown (host := "") (Or.inl (own_W hw 41 rfl)) Via.refl e0 z15 (g := (mkF m 1 #[.val (.ref z0), .val (.double (Jvm.FP.l2d (vx.toInt64))), .second, .val (.int vf), .val (.int vt), .val .null, .unset, .unset, .unset] [(.ref z0)])) rfl rfl (hb hby y3_1)
  obtain ⟨z18, zz, z28, z3p⟩ := getF z27 hx hZ hown (host := "") (Or.inl (own_W hw 20 rfl)) Via.refl z3n z16 (g := (mkF m 5 #[.val (.ref z0), .val (.double (Jvm.FP.l2d (vx.toInt64))), .second, .val (.int vf), .val (.int vt), .val .null, .unset, .unset, .unset] [(.ref z0), (.int 2)])) rfl rfl (hb hby y3_5)
  obtain ⟨z6m, z29, -, z3q, z3r, -, -⟩ := (id z17)
  obtain ⟨z3s, z2a, z3t, z3u⟩ := getF zz hx hZ hown (host := "") (Or.inl (own_W hw 30 rfl)) Via.refl z28 z1n (g := (mkF m 17 #[.val (.ref z0), .val (.double (Jvm.FP.l2d (vx.toInt64))), .second, .val (.int vf), .val (.int vt), .val .null, .unset, .unset, .unset] [(.ref z0)])) rfl rfl (hb hby y3_17)
  obtain ⟨z19, zo, z2b, z3v⟩ := getF z2a hx hZ hown (host := "") (Or.inl (own_W hw 20 rfl)) Via.refl z3t z16 (g := (mkF m 21 #[.val (.ref z0), .val (.double (Jvm.FP.l2d (vx.toInt64))), .second, .val (.int vf), .val (.int vt), .val .null, .unset, .unset, .unset] [(.ref z0), (.ref zc)])) rfl rfl (hb hby y3_21)
  obtain ⟨z6n, z2c, -, z3w, z3x, -, -⟩ := (id z17)
  obtain ⟨z1a, zp, z2d, z3y⟩ := getF zo hx hZ hown (host := "") (Or.inl (own_W hw 41 rfl)) Via.refl z2b z15 (g := (mkF m 28 #[.val (.ref z0), .val (.double (Jvm.FP.l2d (vx.toInt64))), .second, .val (.int vf), .val (.int vt), .val .null, .unset, .unset, .unset] [(.ref z0), (.int 15), (.ref zc)])) rfl rfl (hb hby y3_28)
  obtain ⟨z2e, z1b, z6o, z3z, z6p, z40, z6q⟩ := (id z36)
  have z2f : ¬ ((13 : Int32) < 0 ∨ z2e.slots.size ≤ ((13 : Int32)).toNatClampNeg) := inb_of z3z ⟨by decide, by decide⟩
  have z41 : z2e.slots[((13 : Int32)).toNatClampNeg]? = some (.int 2) := Has.at z40 z2f rfl
  obtain ⟨z42, z1c, z43, z44⟩ := getF zp hx hZ hown (host := "") (Or.inl (own_W hw 22 rfl)) Via.refl z2d z1o (g := (mkF m 36 #[.val (.ref z0), .val (.double (Jvm.FP.l2d (vx.toInt64))), .second, .val (.int vf), .val (.int vt), .val .null, .val (.int 2), .unset, .unset] [(.ref z0)])) rfl rfl (hb hby y3_36)
  obtain ⟨z45, z2g, z46, z2h, z47, z48, z49⟩ := (id z37)
  have z4a : ¬ ((2 : Int32) < 0 ∨ z45.slots.size ≤ ((2 : Int32)).toNatClampNeg) := inb_of z2h ⟨by decide, by decide⟩
  obtain ⟨z4b, z4c, z1d, z4d, z1, z4e⟩ := stI z1c hx hZ z43 z2g (j := (2 : Int32)) z4a (g := (mkF m 42 #[.val (.ref z0), .val (.double (Jvm.FP.l2d (vx.toInt64))), .second, .val (.int vf), .val (.int vt), .val .null, .val (.int 2), .unset, .unset] [(.int vf), (.int 2), (.ref z9)])) rfl rfl (hb hby y3_42)
  have z4f := Fr.snoc z1d N0 z21
  have z4g := OL0.wr z1 z21
  have z4h := KK0.wr z1 (own_Ix 0 rfl)
  have z4i : Arv Z z4c z9 zw .int 16 [(.int zr), (.int zs), (.int vf)] (.int 0) := Arv.set z2g z46 z2h z47 z48 z49 rfl z1 2 (by decide) (by decide : 2 < 3)
  have z2i := (z38.other z1 (Or.inl zh))
  obtain ⟨z4j, z1e, z4k, z4l⟩ := getF z1d hx hZ hown (host := "") (Or.inl (own_W hw 24 rfl)) Via.refl z4d z2i (g := (mkF m 44 #[.val (.ref z0), .val (.double (Jvm.FP.l2d (vx.toInt64))), .second, .val (.int vf), .val (.int vt), .val .null, .val (.int 2), .unset, .unset] [(.ref z0)])) rfl rfl (hb hby y3_44)
  have z4m := (z39.other z1 (Ne.symm z1p))
  obtain ⟨z4n, z2j, z4o, z2k, z4p, z4q, z4r⟩ := (id z4m)
  have z4s : ¬ ((2 : Int32) < 0 ∨ z4n.slots.size ≤ ((2 : Int32)).toNatClampNeg) := inb_of z2k ⟨by decide, by decide⟩
  obtain ⟨z4t, z2l, z1f, z4u, z2, z4v⟩ := stI z1e hx hZ z4k z2j (j := (2 : Int32)) z4s (g := (mkF m 51 #[.val (.ref z0), .val (.double (Jvm.FP.l2d (vx.toInt64))), .second, .val (.int vf), .val (.int vt), .val .null, .val (.int 2), .unset, .unset] [(.int vt), (.int 2), (.ref za)])) rfl rfl (hb hby y3_51)
  have z4w := Fr.snoc z1f z4f z22
  have z4x := z4g.wr z2 z22
  have z4y := z4h.wr z2 (own_Ix 1 rfl)
  have z4z : Arv Z z2l za zx .int 16 [(.int t1), (.int t2), (.int vt)] (.int 0) := Arv.set z2j z4o z2k z4p z4q z4r rfl z2 2 (by decide) (by decide : 2 < 3)
  have z2m := ((z3a.other z1 (Or.inl zh)).other z2 (Or.inl zi))
  obtain ⟨z50, z1g, z51, z52⟩ := getF z1f hx hZ hown (host := "") (Or.inl (own_W hw 28 rfl)) Via.refl z4u z2m (g := (mkF m 53 #[.val (.ref z0), .val (.double (Jvm.FP.l2d (vx.toInt64))), .second, .val (.int vf), .val (.int vt), .val .null, .val (.int 2), .unset, .unset] [(.ref z0)])) rfl rfl (hb hby y3_53)
  have z2n : own_AM Z z2l z8 zl (.object y_s2) := ((z3b.other z1 (Ne.symm z1q)).other z2 (Ne.symm z1r))
  obtain ⟨vs316, dv316, z53, z54, z6r, z55, z6s, z6t, z6u⟩ := (id z2n)
  have z56 : ¬ ((2 : Int32) < 0 ∨ z53.slots.size ≤ ((2 : Int32)).toNatClampNeg) := inb_of z55 ⟨by decide, by decide⟩
  obtain ⟨z57, z58, z10, z59, z3, z5a⟩ := stR z1g hx hZ z51 z54 (j := (2 : Int32)) z56 rfl (Or.inl rfl) (g := (mkF m 60 #[.val (.ref z0), .val (.double (Jvm.FP.l2d (vx.toInt64))), .second, .val (.int vf), .val (.int vt), .val .null, .val (.int 2), .unset, .unset] [.null, (.int 2), (.ref z8)])) rfl rfl (hb hby y3_60)
  have z5b := Fr.snoc z10 z4w z23
  have z5c := z4x.wr z3 z23
  have z5d := z4y.wr z3 (own_Ix 2 rfl)
  have z5e : own_AM Z z58 z8 zl (.object y_s2) := own_AM.set z2n rfl z3
  have z1h := (((z15.other z1 (Or.inl zh)).other z2 (Or.inl zi)).other z3 (Or.inl zj))
  obtain ⟨z2o, z11, z5f, z5g⟩ := getF z10 hx hZ hown (host := "") (Or.inl (own_W hw 41 rfl)) Via.refl z59 z1h (g := (mkF m 63 #[.val (.ref z0), .val (.double (Jvm.FP.l2d (vx.toInt64))), .second, .val (.int vf), .val (.int vt), .val .null, .val (.int 2), .unset, .unset] [(.ref z0), (.ref z0)])) rfl rfl (hb hby y3_63)
  have z2p := (((z3c.wr z1).wr z2).wr z3)
  obtain ⟨z2q, z5h, zm, z5i, z4, z5j⟩ := putF z11 hx hZ hown (host := "") (Or.inl (own_W hw 41 rfl)) Via.refl z5f z1h z2p (Or.inl (own_W hw 42 rfl)) (own_W hw 5 rfl) (ty := .int) (by decide) rfl rfl (g := (mkF m 69 #[.val (.ref z0), .val (.double (Jvm.FP.l2d (vx.toInt64))), .second, .val (.int vf), .val (.int vt), .val .null, .val (.int 2), .unset, .unset] [(.int 3), (.ref z0), (.int 2)])) rfl rfl (hb hby y3_69)
  have z5k := Fr.snoc zm z5b zy
  have z5l := z5c.wr z4 zy
  have z5m := z5d.wr z4 (own_Ix 3 rfl)
  have z5n : Fld Z z5h z0 y_s0 "size" "I" (.int 3) := z1h.same z4
  have z2r := ((((z3d.other z1 (Or.inl zh)).other z2 (Or.inl zi)).other z3 (Or.inl zj)).other z4 (Or.inr (slot_ne (Or.inl (own_W hw 15 rfl)) (Or.inl (own_W hw 42 rfl)) (by decide) (t := (.array .double)) (t' := .int) (by decide) (by decide))))
  obtain ⟨zn, zd, z2s, z5o⟩ := getF zm hx hZ hown (host := "") (Or.inl (own_W hw 14 rfl)) Via.refl z5i z2r (g := (mkF m 81 #[.val (.ref z0), .val (.double (Jvm.FP.l2d (vx.toInt64))), .second, .val (.int vf), .val (.int vt), .val .null, .val (.int 2), .val (.int 2), .unset] [(.ref z0), (.double (Jvm.FP.l2d (vx.toInt64)))])) rfl rfl (hb hby y3_81)
  have z2t := ((((z3e.other z1 z1s).other z2 z1t).other z3 z1u).other z4 (Ne.symm zf))
  obtain ⟨z2u, z1i, z6v, z5p, z6w, z5q, z6x⟩ := (id z2t)
  have z2v : ¬ ((0 : Int32) < 0 ∨ z2u.slots.size ≤ ((0 : Int32)).toNatClampNeg) := inb_of z5p ⟨by decide, by decide⟩
  have z5r : z2u.slots[((0 : Int32)).toNatClampNeg]? = some (.double (Jvm.FP.l2d (x1.toInt64))) := Has.at z5q z2v rfl
  have z1j := ((((z3f.other z1 (Or.inl zh)).other z2 (Or.inl zi)).other z3 (Or.inl zj)).other z4 (Or.inr (slot_ne (Or.inl (own_W hw 44 rfl)) (Or.inl (own_W hw 42 rfl)) (by decide) (t := .long) (t' := .int) (by decide) (by decide))))
  obtain ⟨z1k, z12, z5s, z5t⟩ := getF zd hx hZ hown (host := "") (Or.inl (own_W hw 43 rfl)) Via.refl z2s z1j (g := (mkF m 124 #[.val (.ref z0), .val (.double (Jvm.FP.l2d (vx.toInt64))), .second, .val (.int vf), .val (.int vt), .val .null, .val (.int 2), .val (.int 2), .unset] [(.ref z0), (.ref z0), (.double (Jvm.FP.l2d (vx.toInt64))), (.int 2), (.ref z0)])) rfl rfl (hb hby y3_124)
  have z2w := (z2p.wr z4)
  obtain ⟨z5u, z2x, z1l, z2y, z5, z5v⟩ := putF z12 hx hZ hown (host := "") (Or.inl (own_W hw 43 rfl)) Via.refl z5s z1j z2w (Or.inl (own_W hw 44 rfl)) (own_W hw 5 rfl) (ty := .long) (by decide) rfl rfl (g := (mkF m 130 #[.val (.ref z0), .val (.double (Jvm.FP.l2d (vx.toInt64))), .second, .val (.int vf), .val (.int vt), .val .null, .val (.int 2), .val (.int 2), .unset] [(.long (ga + (1 : Int64))), (.ref z0), (.long ga), (.double (Jvm.FP.l2d (vx.toInt64))), (.int 2), (.ref z0)])) rfl rfl (hb hby y3_130)
  have z5w := Fr.snoc z1l z5k zy
  have z2z := z5l.wr z5 zy
  have z5x := z5m.wr z5 (own_Ix 3 rfl)
  have z5y : Fld Z z2x z0 y_s0 "additions" "J" (.long (ga + (1 : Int64))) := z1j.same z5
  have z30 := (z2r.other z5 (Or.inr (slot_ne (Or.inl (own_W hw 15 rfl)) (Or.inl (own_W hw 44 rfl)) (by decide) (t := (.array .double)) (t' := .long) (by decide) (by decide))))
  have z5z := (z2t.other z5 (Ne.symm zf))
  have z31 := (((((z3g.other z1 (Or.inl zh)).other z2 (Or.inl zi)).other z3 (Or.inl zj)).other z4 (Or.inr (slot_ne (Or.inl (own_W hw 18 rfl)) (Or.inl (own_W hw 42 rfl)) (by decide) (t := (.array .long)) (t' := .int) (by decide) (by decide)))).other z5 (Or.inr (slot_ne (Or.inl (own_W hw 18 rfl)) (Or.inl (own_W hw 44 rfl)) (by decide) (t := (.array .long)) (t' := .long) (by decide) (by decide))))
  have z60 := (((((z3h.other z1 z1v).other z2 z1w).other z3 z1x).other z4 (Ne.symm zg)).other z5 (Ne.symm zg))
  have z32 := (((((z16.other z1 (Or.inl zh)).other z2 (Or.inl zi)).other z3 (Or.inl zj)).other z4 (Or.inr (slot_ne (Or.inl (own_W hw 21 rfl)) (Or.inl (own_W hw 42 rfl)) (by decide) (t := (.array .int)) (t' := .int) (by decide) (by decide)))).other z5 (Or.inr (slot_ne (Or.inl (own_W hw 21 rfl)) (Or.inl (own_W hw 44 rfl)) (by decide) (t := (.array .int)) (t' := .long) (by decide) (by decide))))
  have z61 := (((((z17.other z1 z1y).other z2 z1z).other z3 z20).other z4 (Ne.symm zk)).other z5 (Ne.symm zk))
  have z33 := (z2w.wr z5)
  obtain ⟨cq336, z62, q336'⟩ := z33.cell
  obtain ⟨_, _, ⟨z1m, L336, z6y, n336⟩, -, zq, ⟨Lc336, z34, l336, y336, z336⟩, z35⟩ := z1l.privateBack hx (y := own_m4) hown (mvT hZ (own_W hw 45 rfl)) (mvT hZ (own_W hw 46 rfl)) (own_selpS (y := own_m4) (mvT hZ (own_W hw 39 rfl)) rfl (mvP (args := #[]) hZ (own_W hw 47 rfl)) (mvT hZ (own_W hw 46 rfl)) (by decide)) (Cond.privateMethod_at (mvP hZ (own_W hw 47 rfl) (args := #[]))) (mvT hZ (own_W hw 48 rfl)) (by decide) (backOf (W := 0) (rmP2 l Z a0 hw [] z2x n0 A K x1 x2 x3 c1 c2 c3 s1 s2 s3 vx ga (2 : Int32) z0 z6 ze z7 zt zu zv EN z2z z30 z5z z31 z60 z32 z61 zf z3j zg z3k z3l z24 z25 z26) hZ (own_W hw 48 rfl) (own_W hw 6 rfl) (by decide) (by decide)) (g := (mkF m 135 #[.val (.ref z0), .val (.double (Jvm.FP.l2d (vx.toInt64))), .second, .val (.int vf), .val (.int vt), .val .null, .val (.int 2), .val (.int 2), .unset] [(.int 2), (.long ga), (.double (Jvm.FP.l2d (vx.toInt64))), (.int 2), (.ref z0)])) rfl (by rw [hml]; rfl) (Steps.refl _) (a := z0) (by rw [z2y]; exact z62) q336' (argsL := [(.int 2), (.double (Jvm.FP.l2d (vx.toInt64))), (.long ga), (.int 2)]) (rest := []) (lenOf own_pd0 rfl) rfl (by show 2 * 0 + _ ≤ _; exact Nat.le_of_eq rfl) (hb hby y3_135) (fun _ _ => ⟨rfl, z2y, (by decide : 0 + 0 ≤ _), (by decide : 0 + 0 ≤ _)⟩)
  dsimp only [Pt.U, Pt.locs, Pt.cells, Pt.slots] at zq l336 y336 z336 z35 z34
  replace zq := own_sub zq l336 y336 z336
  obtain ⟨rfl, z63, zb, z64, z65, z66⟩ := z34
  have z67 := Fr.app z5w z63
  have z6z := z2z.keep zb (allS z24 (allS z25 (allS z26 all0)))
  have z68 := z5x.trans zb (allS (own_Ix 6 rfl) (allS (own_Ix 5 rfl) (allS (own_Ix 4 rfl) all0)))
  have z69 := (z33.keep zb)
  have z6a := (z30.keep zb (ninS zf (ninS zg (ninS zk nin0))))
  have z6b := (z31.keep zb (ninS zf (ninS zg (ninS zk nin0))))
  have z6c := (z32.keep zb (ninS zf (ninS zg (ninS zk nin0))))
  have z6d := ((((((z1o.other z1 (Or.inl zh)).other z2 (Or.inl zi)).other z3 (Or.inl zj)).other z4 (Or.inr (slot_ne (Or.inl (own_W hw 23 rfl)) (Or.inl (own_W hw 42 rfl)) (by decide) (t := (.array .int)) (t' := .int) (by decide) (by decide)))).other z5 (Or.inr (slot_ne (Or.inl (own_W hw 23 rfl)) (Or.inl (own_W hw 44 rfl)) (by decide) (t := (.array .int)) (t' := .long) (by decide) (by decide)))).keep zb (ninS zf (ninS zg (ninS zk nin0))))
  have z6e := (((((z2i.other z2 (Or.inl zi)).other z3 (Or.inl zj)).other z4 (Or.inr (slot_ne (Or.inl (own_W hw 25 rfl)) (Or.inl (own_W hw 42 rfl)) (by decide) (t := (.array .int)) (t' := .int) (by decide) (by decide)))).other z5 (Or.inr (slot_ne (Or.inl (own_W hw 25 rfl)) (Or.inl (own_W hw 44 rfl)) (by decide) (t := (.array .int)) (t' := .long) (by decide) (by decide)))).keep zb (ninS zf (ninS zg (ninS zk nin0))))
  have z6f := ((((z2m.other z3 (Or.inl zj)).other z4 (Or.inr (slot_ne (Or.inl (own_W hw 29 rfl)) (Or.inl (own_W hw 42 rfl)) (by decide) (t := (.array (.object y_s2))) (t' := .int) (by decide) (by decide)))).other z5 (Or.inr (slot_ne (Or.inl (own_W hw 29 rfl)) (Or.inl (own_W hw 44 rfl)) (by decide) (t := (.array (.object y_s2))) (t' := .long) (by decide) (by decide)))).keep zb (ninS zf (ninS zg (ninS zk nin0))))
  have z6g := ((((((z1n.other z1 (Or.inl zh)).other z2 (Or.inl zi)).other z3 (Or.inl zj)).other z4 (Or.inr (slot_ne (Or.inl (own_W hw 31 rfl)) (Or.inl (own_W hw 42 rfl)) (by decide) (t := (.array .int)) (t' := .int) (by decide) (by decide)))).other z5 (Or.inr (slot_ne (Or.inl (own_W hw 31 rfl)) (Or.inl (own_W hw 44 rfl)) (by decide) (t := (.array .int)) (t' := .long) (by decide) (by decide)))).keep zb (ninS zf (ninS zg (ninS zk nin0))))
  have z6h := ((z5n.other z5 (Or.inr (slot_ne (Or.inl (own_W hw 42 rfl)) (Or.inl (own_W hw 44 rfl)) (by decide) (t := .int) (t' := .long) (by decide) (by decide)))).keep zb (ninS zf (ninS zg (ninS zk nin0))))
  have z6i := (z5y.keep zb (ninS zf (ninS zg (ninS zk nin0))))
  have z6j := (((((z4i.other z2 z1p).other z3 z1q).other z4 (Ne.symm zh)).other z5 (Ne.symm zh)).keep zb (ninS (Ne.symm z1s) (ninS (Ne.symm z1v) (ninS (Ne.symm z1y) nin0))))
  have z6k := ((((z4z.other z3 z1r).other z4 (Ne.symm zi)).other z5 (Ne.symm zi)).keep zb (ninS (Ne.symm z1t) (ninS (Ne.symm z1w) (ninS (Ne.symm z1z) nin0))))
  have z6l : own_AM Z z1m.heap z8 zl (.object y_s2) := (((z5e.other z4 (Ne.symm zj)).other z5 (Ne.symm zj)).keep zb (ninS (Ne.symm z1u) (ninS (Ne.symm z1x) (ninS (Ne.symm z20) nin0))))
  obtain ⟨fs, hr, hrun, hended, hW, hsame⟩ := zq.leave (v := none) (fun _ => rfl)
  refine ⟨_, _, pre0 _ ?_, hrun, hended, _, _, rfl, ?_, ⟨_, rfl⟩, hW, hsame.mono (by decide) (by decide)⟩
  · show Steps p.tables e below (s₁.setTop (mkF m 0 #[.val (.ref z0), .val (.double (Jvm.FP.l2d (vx.toInt64))), .second, .val (.int vf), .val (.int vt), .val .null, .unset, .unset, .unset] [])) _
    refine XS.aloadN X0.here hx rfl (hb hby y3_0) rfl rfl ?_
    refine z3o _ ?_
    show Steps p.tables e below (z3m.setTop (mkF m 4 #[.val (.ref z0), .val (.double (Jvm.FP.l2d (vx.toInt64))), .second, .val (.int vf), .val (.int vt), .val .null, .unset, .unset, .unset] [(.int 2)])) _
    refine XS.aloadN z27.here hx rfl (hb hby y3_4) rfl rfl ?_
    refine z3p _ ?_
    show Steps p.tables e below (z18.setTop (mkF m 8 #[.val (.ref z0), .val (.double (Jvm.FP.l2d (vx.toInt64))), .second, .val (.int vf), .val (.int vt), .val .null, .unset, .unset, .unset] [(.ref z7), (.int 2)])) _
    refine zz.arraylength hx (by rw [z28]; exact z29.1) (State.isArrayOf_alike hZ.alike z29.2.1) (g := (mkF m 8 #[.val (.ref z0), .val (.double (Jvm.FP.l2d (vx.toInt64))), .second, .val (.int vf), .val (.int vt), .val .null, .unset, .unset, .unset] [(.ref z7), (.int 2)])) rfl rfl (hb hby y3_8) _ ?_
    rw [len_of z3q z3r]
    show Steps p.tables e below (z18.setTop (mkF m 9 #[.val (.ref z0), .val (.double (Jvm.FP.l2d (vx.toInt64))), .second, .val (.int vf), .val (.int vt), .val .null, .unset, .unset, .unset] [(.int 16), (.int 2)])) _
    refine XS.icmpYes zz.here hx rfl (pc0 := 9) (pc' := 16) rfl (hb hby y3_9) rfl (feq (by decide : ¬ ((2 : Int32) = (16 : Int32)))).2 (by decide) (by decide) ?_
    show Steps p.tables e below (z18.setTop (mkF m 16 #[.val (.ref z0), .val (.double (Jvm.FP.l2d (vx.toInt64))), .second, .val (.int vf), .val (.int vt), .val .null, .unset, .unset, .unset] [])) _
    refine XS.aloadN zz.here hx rfl (hb hby y3_16) rfl rfl ?_
    refine z3u _ ?_
    show Steps p.tables e below (z3s.setTop (mkF m 20 #[.val (.ref z0), .val (.double (Jvm.FP.l2d (vx.toInt64))), .second, .val (.int vf), .val (.int vt), .val .null, .unset, .unset, .unset] [(.ref zc)])) _
    refine XS.aloadN z2a.here hx rfl (hb hby y3_20) rfl rfl ?_
    refine z3v _ ?_
    show Steps p.tables e below (z19.setTop (mkF m 24 #[.val (.ref z0), .val (.double (Jvm.FP.l2d (vx.toInt64))), .second, .val (.int vf), .val (.int vt), .val .null, .unset, .unset, .unset] [(.ref z7), (.ref zc)])) _
    refine zo.arraylength hx (by rw [z2b]; exact z2c.1) (State.isArrayOf_alike hZ.alike z2c.2.1) (g := (mkF m 24 #[.val (.ref z0), .val (.double (Jvm.FP.l2d (vx.toInt64))), .second, .val (.int vf), .val (.int vt), .val .null, .unset, .unset, .unset] [(.ref z7), (.ref zc)])) rfl rfl (hb hby y3_24) _ ?_
    rw [len_of z3w z3x]
    show Steps p.tables e below (z19.setTop (mkF m 25 #[.val (.ref z0), .val (.double (Jvm.FP.l2d (vx.toInt64))), .second, .val (.int vf), .val (.int vt), .val .null, .unset, .unset, .unset] [(.int 16), (.ref zc)])) _
    refine XS.iconst zo.here hx rfl (hb hby y3_25) ?_
    refine XS.isub zo.here hx rfl (hb hby y3_26) rfl ?_
    show Steps p.tables e below (z19.setTop (mkF m 27 #[.val (.ref z0), .val (.double (Jvm.FP.l2d (vx.toInt64))), .second, .val (.int vf), .val (.int vt), .val .null, .unset, .unset, .unset] [(.int 15), (.ref zc)])) _
    refine XS.aloadN zo.here hx rfl (hb hby y3_27) rfl rfl ?_
    refine z3y _ ?_
    show Steps p.tables e below (z1a.setTop (mkF m 31 #[.val (.ref z0), .val (.double (Jvm.FP.l2d (vx.toInt64))), .second, .val (.int vf), .val (.int vt), .val .null, .unset, .unset, .unset] [(.int 2), (.int 15), (.ref zc)])) _
    refine XS.isub zp.here hx rfl (hb hby y3_31) rfl ?_
    show Steps p.tables e below (z1a.setTop (mkF m 32 #[.val (.ref z0), .val (.double (Jvm.FP.l2d (vx.toInt64))), .second, .val (.int vf), .val (.int vt), .val .null, .unset, .unset, .unset] [(.int 13), (.ref zc)])) _
    refine zp.iaload hx (j := (13 : Int32)) (v := (.int 2)) (by rw [z2d]; exact z1b.1) (State.isArrayOf_alike hZ.alike z1b.2.1) z1b.2.2 z2f z41 (g := (mkF m 32 #[.val (.ref z0), .val (.double (Jvm.FP.l2d (vx.toInt64))), .second, .val (.int vf), .val (.int vt), .val .null, .unset, .unset, .unset] [(.int 13), (.ref zc)])) rfl rfl (hb hby y3_32) _ ?_
    show Steps p.tables e below (z1a.setTop (mkF m 33 #[.val (.ref z0), .val (.double (Jvm.FP.l2d (vx.toInt64))), .second, .val (.int vf), .val (.int vt), .val .null, .unset, .unset, .unset] [(.int 2)])) _
    refine XS.istore zp.here hx rfl (hb hby y3_33) rfl (l' := #[.val (.ref z0), .val (.double (Jvm.FP.l2d (vx.toInt64))), .second, .val (.int vf), .val (.int vt), .val .null, .val (.int 2), .unset, .unset]) rfl ?_
    refine XS.aloadN zp.here hx rfl (hb hby y3_35) rfl rfl ?_
    refine z44 _ ?_
    show Steps p.tables e below (z42.setTop (mkF m 39 #[.val (.ref z0), .val (.double (Jvm.FP.l2d (vx.toInt64))), .second, .val (.int vf), .val (.int vt), .val .null, .val (.int 2), .unset, .unset] [(.ref z9)])) _
    refine XS.iload z1c.here hx rfl (hb hby y3_39) rfl ?_
    refine XS.iloadN z1c.here hx rfl (hb hby y3_41) rfl ?_
    refine z4e _ ?_
    show Steps p.tables e below (z4b.setTop (mkF m 43 #[.val (.ref z0), .val (.double (Jvm.FP.l2d (vx.toInt64))), .second, .val (.int vf), .val (.int vt), .val .null, .val (.int 2), .unset, .unset] [])) _
    refine XS.aloadN z1d.here hx rfl (hb hby y3_43) rfl rfl ?_
    refine z4l _ ?_
    show Steps p.tables e below (z4j.setTop (mkF m 47 #[.val (.ref z0), .val (.double (Jvm.FP.l2d (vx.toInt64))), .second, .val (.int vf), .val (.int vt), .val .null, .val (.int 2), .unset, .unset] [(.ref za)])) _
    refine XS.iload z1e.here hx rfl (hb hby y3_47) rfl ?_
    refine XS.iload z1e.here hx rfl (hb hby y3_49) rfl ?_
    refine z4v _ ?_
    show Steps p.tables e below (z4t.setTop (mkF m 52 #[.val (.ref z0), .val (.double (Jvm.FP.l2d (vx.toInt64))), .second, .val (.int vf), .val (.int vt), .val .null, .val (.int 2), .unset, .unset] [])) _
    refine XS.aloadN z1f.here hx rfl (hb hby y3_52) rfl rfl ?_
    refine z52 _ ?_
    show Steps p.tables e below (z50.setTop (mkF m 56 #[.val (.ref z0), .val (.double (Jvm.FP.l2d (vx.toInt64))), .second, .val (.int vf), .val (.int vt), .val .null, .val (.int 2), .unset, .unset] [(.ref z8)])) _
    refine XS.iload z1g.here hx rfl (hb hby y3_56) rfl ?_
    refine XS.aload z1g.here hx rfl (hb hby y3_58) rfl rfl ?_
    refine z5a _ ?_
    show Steps p.tables e below (z57.setTop (mkF m 61 #[.val (.ref z0), .val (.double (Jvm.FP.l2d (vx.toInt64))), .second, .val (.int vf), .val (.int vt), .val .null, .val (.int 2), .unset, .unset] [])) _
    refine XS.aloadN z10.here hx rfl (hb hby y3_61) rfl rfl ?_
    refine XS.dup z10.here hx rfl (hb hby y3_62) rfl rfl ?_
    refine z5g _ ?_
    show Steps p.tables e below (z2o.setTop (mkF m 66 #[.val (.ref z0), .val (.double (Jvm.FP.l2d (vx.toInt64))), .second, .val (.int vf), .val (.int vt), .val .null, .val (.int 2), .unset, .unset] [(.int 2), (.ref z0)])) _
    refine XS.dupX1 z11.here hx rfl (hb hby y3_66) rfl rfl rfl ?_
    refine XS.iconst z11.here hx rfl (hb hby y3_67) ?_
    refine XS.iadd z11.here hx rfl (hb hby y3_68) rfl ?_
    show Steps p.tables e below (z2o.setTop (mkF m 69 #[.val (.ref z0), .val (.double (Jvm.FP.l2d (vx.toInt64))), .second, .val (.int vf), .val (.int vt), .val .null, .val (.int 2), .unset, .unset] [(.int 3), (.ref z0), (.int 2)])) _
    refine z5j _ ?_
    show Steps p.tables e below (z2q.setTop (mkF m 72 #[.val (.ref z0), .val (.double (Jvm.FP.l2d (vx.toInt64))), .second, .val (.int vf), .val (.int vt), .val .null, .val (.int 2), .unset, .unset] [(.int 2)])) _
    refine XS.istore zm.here hx rfl (hb hby y3_72) rfl (l' := #[.val (.ref z0), .val (.double (Jvm.FP.l2d (vx.toInt64))), .second, .val (.int vf), .val (.int vt), .val .null, .val (.int 2), .val (.int 2), .unset]) rfl ?_
    refine XS.iload zm.here hx rfl (hb hby y3_74) rfl ?_
    refine XS.ifNo zm.here hx rfl (hb hby y3_76) rfl ((if0 _ _).trans (tlt (by decide : (0 : Int32) < (2 : Int32))).2.2.2) ?_
    show Steps p.tables e below (z2q.setTop (mkF m 79 #[.val (.ref z0), .val (.double (Jvm.FP.l2d (vx.toInt64))), .second, .val (.int vf), .val (.int vt), .val .null, .val (.int 2), .val (.int 2), .unset] [])) _
    refine XS.dloadN zm.here hx rfl (hb hby y3_79) rfl ?_
    refine XS.aloadN zm.here hx rfl (hb hby y3_80) rfl rfl ?_
    refine z5o _ ?_
    show Steps p.tables e below (zn.setTop (mkF m 84 #[.val (.ref z0), .val (.double (Jvm.FP.l2d (vx.toInt64))), .second, .val (.int vf), .val (.int vt), .val .null, .val (.int 2), .val (.int 2), .unset] [(.ref z6), (.double (Jvm.FP.l2d (vx.toInt64)))])) _
    refine XS.iload zd.here hx rfl (hb hby y3_84) rfl ?_
    refine XS.iconst zd.here hx rfl (hb hby y3_86) ?_
    refine XS.isub zd.here hx rfl (hb hby y3_87) rfl ?_
    show Steps p.tables e below (zn.setTop (mkF m 88 #[.val (.ref z0), .val (.double (Jvm.FP.l2d (vx.toInt64))), .second, .val (.int vf), .val (.int vt), .val .null, .val (.int 2), .val (.int 2), .unset] [(.int 1), (.ref z6), (.double (Jvm.FP.l2d (vx.toInt64)))])) _
    refine XS.iconst zd.here hx rfl (hb hby y3_88) ?_
    refine XS.idiv zd.here hx rfl (hb hby y3_89) rfl (by decide) ?_
    show Steps p.tables e below (zn.setTop (mkF m 90 #[.val (.ref z0), .val (.double (Jvm.FP.l2d (vx.toInt64))), .second, .val (.int vf), .val (.int vt), .val .null, .val (.int 2), .val (.int 2), .unset] [(.int 0), (.ref z6), (.double (Jvm.FP.l2d (vx.toInt64)))])) _
    refine zd.daload hx (j := (0 : Int32)) (v := (.double (Jvm.FP.l2d (x1.toInt64)))) (by rw [z2s]; exact z1i.1) (State.isArrayOf_alike hZ.alike z1i.2.1) z1i.2.2 z2v z5r (g := (mkF m 90 #[.val (.ref z0), .val (.double (Jvm.FP.l2d (vx.toInt64))), .second, .val (.int vf), .val (.int vt), .val .null, .val (.int 2), .val (.int 2), .unset] [(.int 0), (.ref z6), (.double (Jvm.FP.l2d (vx.toInt64)))])) rfl rfl (hb hby y3_90) _ ?_
    show Steps p.tables e below (zn.setTop (mkF m 91 #[.val (.ref z0), .val (.double (Jvm.FP.l2d (vx.toInt64))), .second, .val (.int vf), .val (.int vt), .val .null, .val (.int 2), .val (.int 2), .unset] [(.double (Jvm.FP.l2d (x1.toInt64))), (.double (Jvm.FP.l2d (vx.toInt64)))])) _
    refine XS.dcmpS zd.here hx rfl (hb hby y3_91) rfl (dcmpV_w (own_b53 vx) (own_b53 x1) _) ?_
    show Steps p.tables e below (zn.setTop (mkF m 92 #[.val (.ref z0), .val (.double (Jvm.FP.l2d (vx.toInt64))), .second, .val (.int vf), .val (.int vt), .val .null, .val (.int 2), .val (.int 2), .unset] [(.int (lcmpW (vx.toInt64) (x1.toInt64)))])) _
    refine XS.ifYes zd.here hx rfl (pc0 := 92) (pc' := 118) rfl (hb hby y3_92) rfl ((if0 _ _).trans (flt (fun z => hri ((own_llt _ _).mp z))).2.1) (by decide) (by decide) ?_
    show Steps p.tables e below (zn.setTop (mkF m 118 #[.val (.ref z0), .val (.double (Jvm.FP.l2d (vx.toInt64))), .second, .val (.int vf), .val (.int vt), .val .null, .val (.int 2), .val (.int 2), .unset] [])) _
    refine XS.aloadN zd.here hx rfl (hb hby y3_118) rfl rfl ?_
    refine XS.iload zd.here hx rfl (hb hby y3_119) rfl ?_
    refine XS.dloadN zd.here hx rfl (hb hby y3_121) rfl ?_
    refine XS.aloadN zd.here hx rfl (hb hby y3_122) rfl rfl ?_
    refine XS.dup zd.here hx rfl (hb hby y3_123) rfl rfl ?_
    refine z5t _ ?_
    show Steps p.tables e below (z1k.setTop (mkF m 127 #[.val (.ref z0), .val (.double (Jvm.FP.l2d (vx.toInt64))), .second, .val (.int vf), .val (.int vt), .val .null, .val (.int 2), .val (.int 2), .unset] [(.long ga), (.ref z0), (.double (Jvm.FP.l2d (vx.toInt64))), (.int 2), (.ref z0)])) _
    refine own_dup2X1 z12.here hx rfl (hb hby y3_127) rfl ?_
    show Steps p.tables e below (z1k.setTop (mkF m 128 #[.val (.ref z0), .val (.double (Jvm.FP.l2d (vx.toInt64))), .second, .val (.int vf), .val (.int vt), .val .null, .val (.int 2), .val (.int 2), .unset] [(.long ga), (.ref z0), (.long ga), (.double (Jvm.FP.l2d (vx.toInt64))), (.int 2), (.ref z0)])) _
    refine XS.lconst z12.here hx rfl (hb hby y3_128) ?_
    refine XS.ladd z12.here hx rfl (hb hby y3_129) rfl ?_
    show Steps p.tables e below (z1k.setTop (mkF m 130 #[.val (.ref z0), .val (.double (Jvm.FP.l2d (vx.toInt64))), .second, .val (.int vf), .val (.int vt), .val .null, .val (.int 2), .val (.int 2), .unset] [(.long (ga + (1 : Int64))), (.ref z0), (.long ga), (.double (Jvm.FP.l2d (vx.toInt64))), (.int 2), (.ref z0)])) _
    refine z5v _ ?_
    show Steps p.tables e below (z5u.setTop (mkF m 133 #[.val (.ref z0), .val (.double (Jvm.FP.l2d (vx.toInt64))), .second, .val (.int vf), .val (.int vt), .val .null, .val (.int 2), .val (.int 2), .unset] [(.long ga), (.double (Jvm.FP.l2d (vx.toInt64))), (.int 2), (.ref z0)])) _
    refine XS.iload z1l.here hx rfl (hb hby y3_133) rfl ?_
    refine z35.trans ?_
    show Steps p.tables e below (z1m.setTop (mkF m 138 #[.val (.ref z0), .val (.double (Jvm.FP.l2d (vx.toInt64))), .second, .val (.int vf), .val (.int vt), .val .null, .val (.int 2), .val (.int 2), .unset] [])) _
    exact zq.returnOut hx Bd.returns (hb hby y3_138) hr
  · show Q_rmA2n Z A K x1 x2 x3 c1 c2 c3 s1 s2 s3 zr zs z13 t1 t2 t3 ga vx vf vt z0 z6 ze z7 z9 za z8 zc zt zu zv zw zx zl z14 h0 n0 _ z1m.heap _
    exact ⟨rfl, z67, z68, z69, z6a, z6b, z6c, z6d, z6e, z6f, z6g, z6h, z6i, z64, z65, z66, z6j, z6k, z6l, z3i⟩
theorem y4_0 : decode jdk_29_method_69_code 0 = .ok (.iload_n 0, 1) := by decide +kernel
theorem y4_1 : decode jdk_29_method_69_code 1 = .ok (.iload_n 1, 1) := by decide +kernel
theorem y4_2 : decode jdk_29_method_69_code 2 = .ok (.if_icmp .gt 7, 3) := by decide +kernel
theorem y4_9 : decode jdk_29_method_69_code 9 = .ok (.iload_n 1, 1) := by decide +kernel
theorem y4_10 : decode jdk_29_method_69_code 10 = .ok (.ireturn, 1) := by decide +kernel
set_option maxRecDepth 65536 in
set_option maxHeartbeats 40000000 in
theorem rm1 (l : Launch) (Z : State) (a0 : Array Value) (hw : ∀ d ∈ tables_1, d.before a0 Z = true) (ws : List Jvm.Cond) (h0 : Heap) (n0 : Nat) (A : Nat → Addr) (K : Nat → ClassId)  (EN : own_St Z A K) (OL0 : Old Z n0 h0) :
    MetFree l own_m9 (head1 (Jvm.Cond.code own_m9 jdk_29_method_69_code 2 (some .int) :: ws) (Room.mk 0 0 0 0)) (fun a U => a = #[(.int 5), (.int 2)] ∧ Z.Warmed39 U.vm ∧ U.heap = h0) (fun _ _ _ _ _ => True) (fun _ U o U' => ∃ v L, o = .returned v ∧ (PQ (some (.int 2)) h0 n0) v U'.heap L ∧ FrameEnd U o U' L (Room.mk 0 0 0 0).cells (Room.mk 0 0 0 0).slots) := by
  refine MetFree.of_bodySF (Jvm.Free.JP.mathPlain rfl (by decide +kernel)) hisR ?_
  intro p e s m args below meth c s₁ Bd hml0 hP hK
  obtain ⟨rfl, hZ, hh⟩ := hP
  have hx := Bd.exec
  have hby := Bd.bytes
  have hml : c.maxLocals = 2 := hml0
  have hown : s.vm.findClass "java/lang/Math" = some m.cls := findClass_of_methodNamed Bd.named
  have hnm := (name_of_methodNamed Bd.named Bd.method).1
  have X0 : Stand p l e (Room.mk 0 0 0 0) s m #[(.int 5), (.int 2)] below meth c s₁ [] 0 0 := Stand.of_body Bd
  have e0 : s₁.heap = h0 := by rw [← hh, Bd.state]; rfl
  have N0 := Fr.nil n0
  have pre0 : ∀ t, Steps p.tables e below (s₁.setTop (mkF m 0 #[.val (.int 5), .val (.int 2)] [])) t → Steps p.tables e below (s₁.setTop (entryFrame m #[(.int 5), (.int 2)] 2)) t := fun t k => castTop (by first | (simp [entryFrame, mkF, argsToLocals, Value.category, maxLocals]; done) | rfl) k
  have KK0 : Keep h0 h0 [] := Keep.refl _ _
  obtain ⟨fs, hr, hrun, hended, hW, hsame⟩ := X0.leave (v := some (.int 2)) (fun h => by rw [Bd.returns] at h; cases h)
  refine ⟨_, _, pre0 _ ?_, hrun, hended, _, _, rfl, ?_, ⟨_, rfl⟩, hW, hsame.mono (by decide) (by decide)⟩
  · show Steps p.tables e below (s₁.setTop (mkF m 0 #[.val (.int 5), .val (.int 2)] [])) _
    refine XS.iloadN X0.here hx rfl (hb hby y4_0) rfl ?_
    refine XS.iloadN X0.here hx rfl (hb hby y4_1) rfl ?_
    refine XS.icmpYes X0.here hx rfl (pc0 := 2) (pc' := 9) rfl (hb hby y4_2) rfl (tlt (by decide : (2 : Int32) < (5 : Int32))).2.2.1 (by decide) (by decide) ?_
    show Steps p.tables e below (s₁.setTop (mkF m 9 #[.val (.int 5), .val (.int 2)] [])) _
    refine XS.iloadN X0.here hx rfl (hb hby y4_9) rfl ?_
    exact retI X0 hx Bd.returns (hb hby y4_10) hr
  · show PQ (some (.int 2)) h0 n0 _ s₁.heap _
    rw [e0]
    exact ⟨rfl, N0, rfl⟩
def Q_rmR3y (Z : State) (A : Nat → Addr) (K : Nat → ClassId) (x1 : Int32) (x2 : Int32) (x3 : Int32) (c1 : Int64) (c2 : Int64) (c3 : Int64) (s1 : Int32) (s2 : Int32) (s3 : Int32) (zd : Int32) (ze : Int32) (zf : Int32) (t1 : Int32) (t2 : Int32) (t3 : Int32) (ga : Int64) (z0 : Addr) (z1 : Addr) (z2 : Addr) (z3 : Addr) (z7 : Addr) (z8 : Addr) (z4 : Addr) (z5 : Addr) (z9 : ClassId) (za : ClassId) (zb : ClassId) (z6 : ClassId) (zc : ClassId) (h0 : Heap) (n0 : Nat) (v : Option Value) (h : Heap) (L : List Loc) : Prop := v = none ∧ Fr n0 L ∧ Keep h0 h [z4, z5, z0, z1, z2, z3] ∧ (Exa Z h z0 y_s0) ∧ (Fld Z h z0 y_s0 "at" "[D" (.ref z1)) ∧ (Fld Z h z0 y_s0 "added" "[J" (.ref z2)) ∧ (Fld Z h z0 y_s0 "slot" "[I" (.ref z3)) ∧ (Fld Z h z0 y_s0 "from" "[I" (.ref z7)) ∧ (Fld Z h z0 y_s0 "to" "[I" (.ref z8)) ∧ (Fld Z h z0 y_s0 "message" y_s1 (.ref z4)) ∧ (Fld Z h z0 y_s0 "free" "[I" (.ref z5)) ∧ (Fld Z h z0 y_s0 "size" "I" (.int 2)) ∧ (Fld Z h z0 y_s0 "additions" "J" (.long ga)) ∧ (Arv Z h z1 z9 .double (16 : Int32) [(.double (Jvm.FP.l2d (x2.toInt64))), (.double (Jvm.FP.l2d (x3.toInt64))), (.double (Jvm.FP.l2d (x3.toInt64)))] (.double (Jvm.FP.l2d ((0 : Int32).toInt64)))) ∧ (Arv Z h z2 za .long (16 : Int32) [(.long c2), (.long c3), (.long c3)] (.long 0)) ∧ (Arv Z h z3 zb .int 16 [(.int s2), (.int s3), (.int s3)] (.int 0)) ∧ (own_AM Z h z4 z6 (.object y_s2)) ∧ (Ovr Z z6 y_s2) ∧ (own_AM Z h z5 zc .int)
theorem y5_0 : decode prog_48_method_8_code 0 = .ok (.aload_n 0, 1) := by decide +kernel
theorem y5_1 : decode prog_48_method_8_code 1 = .ok (.getfield 19, 3) := by decide +kernel
theorem y5_4 : decode prog_48_method_8_code 4 = .ok (.iconst 0, 1) := by decide +kernel
theorem y5_5 : decode prog_48_method_8_code 5 = .ok (.iaload, 1) := by decide +kernel
theorem y5_6 : decode prog_48_method_8_code 6 = .ok (.istore_n 1, 1) := by decide +kernel
theorem y5_7 : decode prog_48_method_8_code 7 = .ok (.aload_n 0, 1) := by decide +kernel
theorem y5_8 : decode prog_48_method_8_code 8 = .ok (.getfield 29, 3) := by decide +kernel
theorem y5_11 : decode prog_48_method_8_code 11 = .ok (.iload_n 1, 1) := by decide +kernel
theorem y5_12 : decode prog_48_method_8_code 12 = .ok (.aconst_null, 1) := by decide +kernel
theorem y5_13 : decode prog_48_method_8_code 13 = .ok (.aastore, 1) := by decide +kernel
theorem y5_14 : decode prog_48_method_8_code 14 = .ok (.aload_n 0, 1) := by decide +kernel
theorem y5_15 : decode prog_48_method_8_code 15 = .ok (.getfield 33, 3) := by decide +kernel
theorem y5_18 : decode prog_48_method_8_code 18 = .ok (.aload_n 0, 1) := by decide +kernel
theorem y5_19 : decode prog_48_method_8_code 19 = .ok (.getfield 19, 3) := by decide +kernel
theorem y5_22 : decode prog_48_method_8_code 22 = .ok (.arraylength, 1) := by decide +kernel
theorem y5_23 : decode prog_48_method_8_code 23 = .ok (.aload_n 0, 1) := by decide +kernel
theorem y5_24 : decode prog_48_method_8_code 24 = .ok (.getfield 40, 3) := by decide +kernel
theorem y5_27 : decode prog_48_method_8_code 27 = .ok (.isub, 1) := by decide +kernel
theorem y5_28 : decode prog_48_method_8_code 28 = .ok (.iload_n 1, 1) := by decide +kernel
theorem y5_29 : decode prog_48_method_8_code 29 = .ok (.iastore, 1) := by decide +kernel
theorem y5_30 : decode prog_48_method_8_code 30 = .ok (.aload_n 0, 1) := by decide +kernel
theorem y5_31 : decode prog_48_method_8_code 31 = .ok (.dup, 1) := by decide +kernel
theorem y5_32 : decode prog_48_method_8_code 32 = .ok (.getfield 40, 3) := by decide +kernel
theorem y5_35 : decode prog_48_method_8_code 35 = .ok (.iconst 1, 1) := by decide +kernel
theorem y5_36 : decode prog_48_method_8_code 36 = .ok (.isub, 1) := by decide +kernel
theorem y5_37 : decode prog_48_method_8_code 37 = .ok (.putfield 40, 3) := by decide +kernel
theorem y5_40 : decode prog_48_method_8_code 40 = .ok (.aload_n 0, 1) := by decide +kernel
theorem y5_41 : decode prog_48_method_8_code 41 = .ok (.getfield 9, 3) := by decide +kernel
theorem y5_44 : decode prog_48_method_8_code 44 = .ok (.aload_n 0, 1) := by decide +kernel
theorem y5_45 : decode prog_48_method_8_code 45 = .ok (.getfield 40, 3) := by decide +kernel
theorem y5_48 : decode prog_48_method_8_code 48 = .ok (.daload, 1) := by decide +kernel
theorem y5_49 : decode prog_48_method_8_code 49 = .ok (.dstore_n 2, 1) := by decide +kernel
theorem y5_50 : decode prog_48_method_8_code 50 = .ok (.aload_n 0, 1) := by decide +kernel
theorem y5_51 : decode prog_48_method_8_code 51 = .ok (.getfield 15, 3) := by decide +kernel
theorem y5_54 : decode prog_48_method_8_code 54 = .ok (.aload_n 0, 1) := by decide +kernel
theorem y5_55 : decode prog_48_method_8_code 55 = .ok (.getfield 40, 3) := by decide +kernel
theorem y5_58 : decode prog_48_method_8_code 58 = .ok (.laload, 1) := by decide +kernel
theorem y5_59 : decode prog_48_method_8_code 59 = .ok (.lstore 4, 2) := by decide +kernel
theorem y5_61 : decode prog_48_method_8_code 61 = .ok (.aload_n 0, 1) := by decide +kernel
theorem y5_62 : decode prog_48_method_8_code 62 = .ok (.getfield 19, 3) := by decide +kernel
theorem y5_65 : decode prog_48_method_8_code 65 = .ok (.aload_n 0, 1) := by decide +kernel
theorem y5_66 : decode prog_48_method_8_code 66 = .ok (.getfield 40, 3) := by decide +kernel
theorem y5_69 : decode prog_48_method_8_code 69 = .ok (.iaload, 1) := by decide +kernel
theorem y5_70 : decode prog_48_method_8_code 70 = .ok (.istore 6, 2) := by decide +kernel
theorem y5_72 : decode prog_48_method_8_code 72 = .ok (.iconst 0, 1) := by decide +kernel
theorem y5_73 : decode prog_48_method_8_code 73 = .ok (.istore 7, 2) := by decide +kernel
theorem y5_75 : decode prog_48_method_8_code 75 = .ok (.iconst 1, 1) := by decide +kernel
theorem y5_76 : decode prog_48_method_8_code 76 = .ok (.istore 8, 2) := by decide +kernel
theorem y5_78 : decode prog_48_method_8_code 78 = .ok (.iload 8, 2) := by decide +kernel
theorem y5_80 : decode prog_48_method_8_code 80 = .ok (.aload_n 0, 1) := by decide +kernel
theorem y5_81 : decode prog_48_method_8_code 81 = .ok (.getfield 40, 3) := by decide +kernel
theorem y5_84 : decode prog_48_method_8_code 84 = .ok (.if_icmp .ge 126, 3) := by decide +kernel
theorem y5_87 : decode prog_48_method_8_code 87 = .ok (.iload 8, 2) := by decide +kernel
theorem y5_89 : decode prog_48_method_8_code 89 = .ok (.iconst 4, 1) := by decide +kernel
theorem y5_90 : decode prog_48_method_8_code 90 = .ok (.iadd, 1) := by decide +kernel
theorem y5_91 : decode prog_48_method_8_code 91 = .ok (.aload_n 0, 1) := by decide +kernel
theorem y5_92 : decode prog_48_method_8_code 92 = .ok (.getfield 40, 3) := by decide +kernel
theorem y5_95 : decode prog_48_method_8_code 95 = .ok (.invokestatic 59, 3) := by decide +kernel
theorem y5_98 : decode prog_48_method_8_code 98 = .ok (.istore 9, 2) := by decide +kernel
theorem y5_100 : decode prog_48_method_8_code 100 = .ok (.iload 8, 2) := by decide +kernel
theorem y5_102 : decode prog_48_method_8_code 102 = .ok (.istore 10, 2) := by decide +kernel
theorem y5_104 : decode prog_48_method_8_code 104 = .ok (.iload 8, 2) := by decide +kernel
theorem y5_106 : decode prog_48_method_8_code 106 = .ok (.iconst 1, 1) := by decide +kernel
theorem y5_107 : decode prog_48_method_8_code 107 = .ok (.iadd, 1) := by decide +kernel
theorem y5_108 : decode prog_48_method_8_code 108 = .ok (.istore 11, 2) := by decide +kernel
theorem y5_110 : decode prog_48_method_8_code 110 = .ok (.iload 11, 2) := by decide +kernel
theorem y5_112 : decode prog_48_method_8_code 112 = .ok (.iload 9, 2) := by decide +kernel
theorem y5_114 : decode prog_48_method_8_code 114 = .ok (.if_icmp .ge 47, 3) := by decide +kernel
theorem y5_161 : decode prog_48_method_8_code 161 = .ok (.aload_n 0, 1) := by decide +kernel
theorem y5_162 : decode prog_48_method_8_code 162 = .ok (.getfield 9, 3) := by decide +kernel
theorem y5_165 : decode prog_48_method_8_code 165 = .ok (.iload 10, 2) := by decide +kernel
theorem y5_167 : decode prog_48_method_8_code 167 = .ok (.daload, 1) := by decide +kernel
theorem y5_168 : decode prog_48_method_8_code 168 = .ok (.aload_n 0, 1) := by decide +kernel
theorem y5_169 : decode prog_48_method_8_code 169 = .ok (.getfield 15, 3) := by decide +kernel
theorem y5_172 : decode prog_48_method_8_code 172 = .ok (.iload 10, 2) := by decide +kernel
theorem y5_174 : decode prog_48_method_8_code 174 = .ok (.laload, 1) := by decide +kernel
theorem y5_175 : decode prog_48_method_8_code 175 = .ok (.dload_n 2, 1) := by decide +kernel
theorem y5_176 : decode prog_48_method_8_code 176 = .ok (.lload 4, 2) := by decide +kernel
theorem y5_178 : decode prog_48_method_8_code 178 = .ok (.invokestatic 65, 3) := by decide +kernel
theorem y5_181 : decode prog_48_method_8_code 181 = .ok (.ifCond .ne 6, 3) := by decide +kernel
theorem y5_187 : decode prog_48_method_8_code 187 = .ok (.aload_n 0, 1) := by decide +kernel
theorem y5_188 : decode prog_48_method_8_code 188 = .ok (.iload 10, 2) := by decide +kernel
theorem y5_190 : decode prog_48_method_8_code 190 = .ok (.iload 7, 2) := by decide +kernel
theorem y5_192 : decode prog_48_method_8_code 192 = .ok (.invokevirtual 47, 3) := by decide +kernel
theorem y5_195 : decode prog_48_method_8_code 195 = .ok (.iload 10, 2) := by decide +kernel
theorem y5_197 : decode prog_48_method_8_code 197 = .ok (.istore 7, 2) := by decide +kernel
theorem y5_199 : decode prog_48_method_8_code 199 = .ok (.iload 7, 2) := by decide +kernel
theorem y5_201 : decode prog_48_method_8_code 201 = .ok (.iconst 4, 1) := by decide +kernel
theorem y5_202 : decode prog_48_method_8_code 202 = .ok (.imul, 1) := by decide +kernel
theorem y5_203 : decode prog_48_method_8_code 203 = .ok (.iconst 1, 1) := by decide +kernel
theorem y5_204 : decode prog_48_method_8_code 204 = .ok (.iadd, 1) := by decide +kernel
theorem y5_205 : decode prog_48_method_8_code 205 = .ok (.istore 8, 2) := by decide +kernel
theorem y5_207 : decode prog_48_method_8_code 207 = .ok (.goto (-129), 3) := by decide +kernel
theorem y5_210 : decode prog_48_method_8_code 210 = .ok (.aload_n 0, 1) := by decide +kernel
theorem y5_211 : decode prog_48_method_8_code 211 = .ok (.iload 7, 2) := by decide +kernel
theorem y5_213 : decode prog_48_method_8_code 213 = .ok (.dload_n 2, 1) := by decide +kernel
theorem y5_214 : decode prog_48_method_8_code 214 = .ok (.lload 4, 2) := by decide +kernel
theorem y5_216 : decode prog_48_method_8_code 216 = .ok (.iload 6, 2) := by decide +kernel
theorem y5_218 : decode prog_48_method_8_code 218 = .ok (.invokevirtual 55, 3) := by decide +kernel
theorem y5_221 : decode prog_48_method_8_code 221 = .ok (.return_, 1) := by decide +kernel
set_option maxRecDepth 65536 in
set_option maxHeartbeats 40000000 in
theorem rmR3y (l : Launch) (Z : State) (a0 : Array Value) (hw : ∀ d ∈ tables_1, d.before a0 Z = true) (ws : List Jvm.Cond) (h0 : Heap) (n0 : Nat) (A : Nat → Addr) (K : Nat → ClassId) (x1 : Int32) (x2 : Int32) (x3 : Int32) (c1 : Int64) (c2 : Int64) (c3 : Int64) (s1 : Int32) (s2 : Int32) (s3 : Int32) (z1z : Int32) (z20 : Int32) (z21 : Int32) (t1 : Int32) (t2 : Int32) (t3 : Int32) (ga : Int64)  (z0 : Addr) (z5 : Addr) (z6 : Addr) (z2 : Addr) (z18 : Addr) (z19 : Addr) (zb : Addr) (z1 : Addr) (zp : ClassId) (zq : ClassId) (zr : ClassId) (zl : ClassId) (zm : ClassId) (EN : own_St Z A K) (OL0 : Old Z n0 h0) (z22 : Fld Z h0 z0 y_s0 "slot" "[I" (.ref z2)) (z23 : Arv Z h0 z2 zr .int 16 [(.int s1), (.int s2), (.int s3)] (.int 0)) (z24 : Fld Z h0 z0 y_s0 "message" y_s1 (.ref zb)) (z25 : own_AM Z h0 zb zl (.object y_s2)) (z40 : Fld Z h0 z0 y_s0 "free" "[I" (.ref z1)) (z41 : Fld Z h0 z0 y_s0 "size" "I" (.int 3)) (z42 : own_AM Z h0 z1 zm .int) (z43 : Exa Z h0 z0 y_s0) (z44 : Fld Z h0 z0 y_s0 "at" "[D" (.ref z5)) (z45 : Arv Z h0 z5 zp .double (16 : Int32) [(.double (Jvm.FP.l2d (x1.toInt64))), (.double (Jvm.FP.l2d (x2.toInt64))), (.double (Jvm.FP.l2d (x3.toInt64)))] (.double (Jvm.FP.l2d ((0 : Int32).toInt64)))) (z46 : Fld Z h0 z0 y_s0 "added" "[J" (.ref z6)) (z47 : Arv Z h0 z6 zq .long (16 : Int32) [(.long c1), (.long c2), (.long c3)] (.long 0)) (z48 : Fld Z h0 z0 y_s0 "from" "[I" (.ref z18)) (z49 : Fld Z h0 z0 y_s0 "to" "[I" (.ref z19)) (z4a : Fld Z h0 z0 y_s0 "additions" "J" (.long ga)) (z4b : Ovr Z zl y_s2) (hs0 : ¬ (s1 < (0 : Int32))) (hs1 : s1 < (16 : Int32)) (hb_ : ¬ ((own_f_rmIB x2 x3 c2 c3) = (0 : Int32))) (zg : z0 ≠ zb) (z1a : z2 ≠ zb) (z26 : zb ≠ z1) (zh : z0 ≠ z1) (z1b : z5 ≠ zb) (z1c : z5 ≠ z1) (z3 : z0 ≠ z5) (z1d : z6 ≠ zb) (z1e : z6 ≠ z1) (z4 : z0 ≠ z6) (z1f : z2 ≠ z1) (z7 : z0 ≠ z2) (z27 : z5 ≠ z6) (z28 : z5 ≠ z2) (z29 : z6 ≠ z2) (z2a : n0 ≤ zb) (z2b : n0 ≤ z1) (z2c : n0 ≤ z0) (zv : n0 ≤ z5) (zw : n0 ≤ z6) (zx : n0 ≤ z2) :
    MetFree l own_m3 (head1 (Jvm.Cond.code own_m3 prog_48_method_8_code 12 none :: ws) (Room.mk 2 0 0 32)) (fun a U => a = #[(.ref z0)] ∧ Z.Warmed39 U.vm ∧ U.heap = h0) (fun _ _ _ _ _ => True) (fun _ U o U' => ∃ v L, o = .returned v ∧ Q_rmR3y Z A K x1 x2 x3 c1 c2 c3 s1 s2 s3 z1z z20 z21 t1 t2 t3 ga z0 z5 z6 z2 z18 z19 zb z1 zp zq zr zl zm h0 n0 v U'.heap L ∧ FrameEnd U o U' L (Room.mk 2 0 0 32).cells (Room.mk 2 0 0 32).slots) := by
  refine MetFree.of_bodySF (plainFor_of_name own_pn0) hisR ?_
  intro p e s m args below meth c s₁ Bd hml0 hP hK
  obtain ⟨rfl, hZ, hh⟩ := hP
  have hx := Bd.exec
  have hby := Bd.bytes
  have hml : c.maxLocals = 12 := hml0
  have hown : s.vm.findClass y_s0 = some m.cls := findClass_of_methodNamed Bd.named
  have hnm := (name_of_methodNamed Bd.named Bd.method).1
  have X0 : Stand p l e (Room.mk 2 0 0 32) s m #[(.ref z0)] below meth c s₁ [] 0 0 := Stand.of_body Bd
  have e0 : s₁.heap = h0 := by rw [← hh, Bd.state]; rfl
  have N0 := Fr.nil n0
  have pre0 : ∀ t, Steps p.tables e below (s₁.setTop (mkF m 0 #[.val (.ref z0), .unset, .unset, .unset, .unset, .unset, .unset, .unset, .unset, .unset, .unset, .unset] [])) t → Steps p.tables e below (s₁.setTop (entryFrame m #[(.ref z0)] 12)) t := fun t k => castTop (by first | (simp [entryFrame, mkF, argsToLocals, Value.category, maxLocals]; done) | rfl) k
  have KK0 : Keep h0 h0 [zb, z1, z0, z5, z6, z2] := Keep.refl _ _
  obtain ⟨z2d, zs, z2e, z4c⟩ := getF X0 hx hZ hown (host := "") (Or.inl (own_W hw 20 rfl)) Via.refl e0 z22 (g := (mkF m 1 #[.val (.ref z0), .unset, .unset, .unset, .unset, .unset, .unset, .unset, .unset, .unset, .unset, .unset] [(.ref z0)])) rfl rfl (hb hby y5_1)
  obtain ⟨z2f, z1g, z7g, z4d, z7h, z4e, z7i⟩ := (id z23)
  have z2g : ¬ ((0 : Int32) < 0 ∨ z2f.slots.size ≤ ((0 : Int32)).toNatClampNeg) := inb_of z4d ⟨by decide, by decide⟩
  have z4f : z2f.slots[((0 : Int32)).toNatClampNeg]? = some (.int s1) := Has.at z4e z2g rfl
  obtain ⟨z4g, z1h, z4h, z4i⟩ := getF zs hx hZ hown (host := "") (Or.inl (own_W hw 28 rfl)) Via.refl z2e z24 (g := (mkF m 8 #[.val (.ref z0), .val (.int s1), .unset, .unset, .unset, .unset, .unset, .unset, .unset, .unset, .unset, .unset] [(.ref z0)])) rfl rfl (hb hby y5_8)
  obtain ⟨vs354, dv354, z4j, z4k, z7j, z4l, z7k, z7l, z7m⟩ := (id z25)
  have z4m : ¬ (s1 < 0 ∨ z4j.slots.size ≤ (s1).toNatClampNeg) := inb_of z4l ⟨hs0, hs1⟩
  obtain ⟨z4n, z2h, z1i, z4o, z8, z4p⟩ := stR z1h hx hZ z4h z4k (j := s1) z4m rfl (Or.inl rfl) (g := (mkF m 13 #[.val (.ref z0), .val (.int s1), .unset, .unset, .unset, .unset, .unset, .unset, .unset, .unset, .unset, .unset] [.null, (.int s1), (.ref zb)])) rfl rfl (hb hby y5_13)
  have z4q := Fr.snoc z1i N0 z2a
  have z4r := OL0.wr z8 z2a
  have z4s := KK0.wr z8 (own_Ix 0 rfl)
  have z4t : own_AM Z z2h zb zl (.object y_s2) := own_AM.set z25 rfl z8
  have z2i := (z40.other z8 (Or.inl zg))
  obtain ⟨z4u, z2j, z4v, z4w⟩ := getF z1i hx hZ hown (host := "") (Or.inl (own_W hw 30 rfl)) Via.refl z4o z2i (g := (mkF m 15 #[.val (.ref z0), .val (.int s1), .unset, .unset, .unset, .unset, .unset, .unset, .unset, .unset, .unset, .unset] [(.ref z0)])) rfl rfl (hb hby y5_15)
  have z2k := (z22.other z8 (Or.inl zg))
  obtain ⟨z2l, z1j, z2m, z4x⟩ := getF z2j hx hZ hown (host := "") (Or.inl (own_W hw 20 rfl)) Via.refl z4v z2k (g := (mkF m 19 #[.val (.ref z0), .val (.int s1), .unset, .unset, .unset, .unset, .unset, .unset, .unset, .unset, .unset, .unset] [(.ref z0), (.ref z1)])) rfl rfl (hb hby y5_19)
  have z2n := (z23.other z8 z1a)
  obtain ⟨z7n, z2o, -, z4y, z4z, -, -⟩ := (id z2n)
  have z2p := (z41.other z8 (Or.inl zg))
  obtain ⟨z2q, z1k, z50, z51⟩ := getF z1j hx hZ hown (host := "") (Or.inl (own_W hw 41 rfl)) Via.refl z2m z2p (g := (mkF m 24 #[.val (.ref z0), .val (.int s1), .unset, .unset, .unset, .unset, .unset, .unset, .unset, .unset, .unset, .unset] [(.ref z0), (.int 16), (.ref z1)])) rfl rfl (hb hby y5_24)
  have z2r : own_AM Z z2h z1 zm .int := (z42.other z8 (Ne.symm z26))
  obtain ⟨vs365, dv365, z52, z53, z7o, z54, z7p, z7q, z7r⟩ := (id z2r)
  have z55 : ¬ ((13 : Int32) < 0 ∨ z52.slots.size ≤ ((13 : Int32)).toNatClampNeg) := inb_of z54 ⟨by decide, by decide⟩
  obtain ⟨z56, z57, zy, z58, z9, z59⟩ := stI z1k hx hZ z50 z53 (j := (13 : Int32)) z55 (g := (mkF m 29 #[.val (.ref z0), .val (.int s1), .unset, .unset, .unset, .unset, .unset, .unset, .unset, .unset, .unset, .unset] [(.int s1), (.int 13), (.ref z1)])) rfl rfl (hb hby y5_29)
  have z5a := Fr.snoc zy z4q z2b
  have z5b := z4r.wr z9 z2b
  have z5c := z4s.wr z9 (own_Ix 1 rfl)
  have z5d : own_AM Z z57 z1 zm .int := own_AM.set z2r rfl z9
  have z1l := (z2p.other z9 (Or.inl zh))
  obtain ⟨z2s, z1m, z5e, z5f⟩ := getF zy hx hZ hown (host := "") (Or.inl (own_W hw 41 rfl)) Via.refl z58 z1l (g := (mkF m 32 #[.val (.ref z0), .val (.int s1), .unset, .unset, .unset, .unset, .unset, .unset, .unset, .unset, .unset, .unset] [(.ref z0), (.ref z0)])) rfl rfl (hb hby y5_32)
  have z2t := ((z43.wr z8).wr z9)
  obtain ⟨z5g, zz, z1n, z5h, za, z5i⟩ := putF z1m hx hZ hown (host := "") (Or.inl (own_W hw 41 rfl)) Via.refl z5e z1l z2t (Or.inl (own_W hw 42 rfl)) (own_W hw 5 rfl) (ty := .int) (by decide) rfl rfl (g := (mkF m 37 #[.val (.ref z0), .val (.int s1), .unset, .unset, .unset, .unset, .unset, .unset, .unset, .unset, .unset, .unset] [(.int 2), (.ref z0)])) rfl rfl (hb hby y5_37)
  have z5j := Fr.snoc z1n z5a z2c
  have z10 := z5b.wr za z2c
  have z5k := z5c.wr za (own_Ix 2 rfl)
  have zn : Fld Z zz z0 y_s0 "size" "I" (.int 2) := z1l.same za
  have z11 := (((z44.other z8 (Or.inl zg)).other z9 (Or.inl zh)).other za (Or.inr (slot_ne (Or.inl (own_W hw 15 rfl)) (Or.inl (own_W hw 42 rfl)) (by decide) (t := (.array .double)) (t' := .int) (by decide) (by decide))))
  obtain ⟨z5l, z2u, z5m, z5n⟩ := getF z1n hx hZ hown (host := "") (Or.inl (own_W hw 14 rfl)) Via.refl z5h z11 (g := (mkF m 41 #[.val (.ref z0), .val (.int s1), .unset, .unset, .unset, .unset, .unset, .unset, .unset, .unset, .unset, .unset] [(.ref z0)])) rfl rfl (hb hby y5_41)
  obtain ⟨z2v, z12, z2w, z5o⟩ := getF z2u hx hZ hown (host := "") (Or.inl (own_W hw 41 rfl)) Via.refl z5m zn (g := (mkF m 45 #[.val (.ref z0), .val (.int s1), .unset, .unset, .unset, .unset, .unset, .unset, .unset, .unset, .unset, .unset] [(.ref z0), (.ref z5)])) rfl rfl (hb hby y5_45)
  have z1o := (((z45.other z8 z1b).other z9 z1c).other za (Ne.symm z3))
  obtain ⟨z2x, z1p, z7s, z5p, z7t, z5q, z7u⟩ := (id z1o)
  have z2y : ¬ ((2 : Int32) < 0 ∨ z2x.slots.size ≤ ((2 : Int32)).toNatClampNeg) := inb_of z5p ⟨by decide, by decide⟩
  have z5r : z2x.slots[((2 : Int32)).toNatClampNeg]? = some (.double (Jvm.FP.l2d (x3.toInt64))) := Has.at z5q z2y rfl
  have z13 := (((z46.other z8 (Or.inl zg)).other z9 (Or.inl zh)).other za (Or.inr (slot_ne (Or.inl (own_W hw 18 rfl)) (Or.inl (own_W hw 42 rfl)) (by decide) (t := (.array .long)) (t' := .int) (by decide) (by decide))))
  obtain ⟨z5s, z2z, z5t, z5u⟩ := getF z12 hx hZ hown (host := "") (Or.inl (own_W hw 17 rfl)) Via.refl z2w z13 (g := (mkF m 51 #[.val (.ref z0), .val (.int s1), .val (.double (Jvm.FP.l2d (x3.toInt64))), .second, .unset, .unset, .unset, .unset, .unset, .unset, .unset, .unset] [(.ref z0)])) rfl rfl (hb hby y5_51)
  obtain ⟨z30, z14, z31, z5v⟩ := getF z2z hx hZ hown (host := "") (Or.inl (own_W hw 41 rfl)) Via.refl z5t zn (g := (mkF m 55 #[.val (.ref z0), .val (.int s1), .val (.double (Jvm.FP.l2d (x3.toInt64))), .second, .unset, .unset, .unset, .unset, .unset, .unset, .unset, .unset] [(.ref z0), (.ref z6)])) rfl rfl (hb hby y5_55)
  have z1q := (((z47.other z8 z1d).other z9 z1e).other za (Ne.symm z4))
  obtain ⟨z32, z1r, z7v, z5w, z7w, z5x, z7x⟩ := (id z1q)
  have z33 : ¬ ((2 : Int32) < 0 ∨ z32.slots.size ≤ ((2 : Int32)).toNatClampNeg) := inb_of z5w ⟨by decide, by decide⟩
  have z5y : z32.slots[((2 : Int32)).toNatClampNeg]? = some (.long c3) := Has.at z5x z33 rfl
  have z1s := ((z2k.other z9 (Or.inl zh)).other za (Or.inr (slot_ne (Or.inl (own_W hw 21 rfl)) (Or.inl (own_W hw 42 rfl)) (by decide) (t := (.array .int)) (t' := .int) (by decide) (by decide))))
  obtain ⟨z5z, z34, z60, z61⟩ := getF z14 hx hZ hown (host := "") (Or.inl (own_W hw 20 rfl)) Via.refl z31 z1s (g := (mkF m 62 #[.val (.ref z0), .val (.int s1), .val (.double (Jvm.FP.l2d (x3.toInt64))), .second, .val (.long c3), .second, .unset, .unset, .unset, .unset, .unset, .unset] [(.ref z0)])) rfl rfl (hb hby y5_62)
  obtain ⟨z35, zi, z36, z62⟩ := getF z34 hx hZ hown (host := "") (Or.inl (own_W hw 41 rfl)) Via.refl z60 zn (g := (mkF m 66 #[.val (.ref z0), .val (.int s1), .val (.double (Jvm.FP.l2d (x3.toInt64))), .second, .val (.long c3), .second, .unset, .unset, .unset, .unset, .unset, .unset] [(.ref z0), (.ref z2)])) rfl rfl (hb hby y5_66)
  have z37 := ((z2n.other z9 z1f).other za (Ne.symm z7))
  obtain ⟨z38, z1t, z7y, z63, z7z, z64, z80⟩ := (id z37)
  have z39 : ¬ ((2 : Int32) < 0 ∨ z38.slots.size ≤ ((2 : Int32)).toNatClampNeg) := inb_of z63 ⟨by decide, by decide⟩
  have z65 : z38.slots[((2 : Int32)).toNatClampNeg]? = some (.int s3) := Has.at z64 z39 rfl
  obtain ⟨z1u, zo, z66, z67⟩ := getF zi hx hZ hown (host := "") (Or.inl (own_W hw 41 rfl)) Via.refl z36 zn (g := (mkF m 81 #[.val (.ref z0), .val (.int s1), .val (.double (Jvm.FP.l2d (x3.toInt64))), .second, .val (.long c3), .second, .val (.int s3), .val (.int 0), .val (.int 1), .unset, .unset, .unset] [(.ref z0), (.int 1)])) rfl rfl (hb hby y5_81)
  obtain ⟨z68, z69, z6a, z6b⟩ := getF zo hx hZ hown (host := "") (Or.inl (own_W hw 41 rfl)) Via.refl z66 zn (g := (mkF m 92 #[.val (.ref z0), .val (.int s1), .val (.double (Jvm.FP.l2d (x3.toInt64))), .second, .val (.long c3), .second, .val (.int s3), .val (.int 0), .val (.int 1), .unset, .unset, .unset] [(.ref z0), (.int 5)])) rfl rfl (hb hby y5_92)
  obtain ⟨_, _, ⟨z1v, L388, z81, n388⟩, -, zc, ⟨Lc388, z3a, l388, y388, z388⟩, z3b⟩ := Jvm.LawKit.callS z69 hx (y := own_m9) hown (mvT hZ (own_W hw 59 rfl)) (mvT hZ (own_W hw 60 rfl)) (mvT hZ (own_W hw 61 rfl)) (mvT hZ (own_W hw 62 rfl)) (by decide) (backOf (W := 0) (rm1 l Z a0 hw [] zz n0 A K EN z10) hZ (own_W hw 62 rfl) (own_W hw 61 rfl) (by decide) (by decide)) (g := (mkF m 95 #[.val (.ref z0), .val (.int s1), .val (.double (Jvm.FP.l2d (x3.toInt64))), .second, .val (.long c3), .second, .val (.int s3), .val (.int 0), .val (.int 1), .unset, .unset, .unset] [(.int 2), (.int 5)])) rfl (by rw [hml]; rfl) (argsL := [(.int 5), (.int 2)]) (rest := []) (lenOf own_pd2 rfl) rfl (by show 2 * 0 + _ ≤ _; exact Nat.le_of_eq rfl) (hb hby y5_95) (fun _ _ => ⟨rfl, z6a, (by decide : 0 + 0 ≤ _), (by decide : 0 + 0 ≤ _)⟩)
  dsimp only [Pt.U, Pt.locs, Pt.cells, Pt.slots] at zc l388 y388 z388 z3b z3a
  replace zc := own_sub zc l388 y388 z388
  obtain ⟨rfl, z6c, z6d⟩ := z3a
  have z6e := Fr.app z5j z6c
  obtain ⟨z3c, z15, z3d, z6f⟩ := getF zc hx hZ hown (host := "") (Or.inl (own_W hw 14 rfl)) Via.refl z6d z11 (g := (mkF m 162 #[.val (.ref z0), .val (.int s1), .val (.double (Jvm.FP.l2d (x3.toInt64))), .second, .val (.long c3), .second, .val (.int s3), .val (.int 0), .val (.int 1), .val (.int 2), .val (.int 1), .val (.int 2)] [(.ref z0)])) rfl rfl (hb hby y5_162)
  obtain ⟨z3e, z1w, z82, z6g, z83, z6h, z84⟩ := (id z1o)
  have z3f : ¬ ((1 : Int32) < 0 ∨ z3e.slots.size ≤ ((1 : Int32)).toNatClampNeg) := inb_of z6g ⟨by decide, by decide⟩
  have z6i : z3e.slots[((1 : Int32)).toNatClampNeg]? = some (.double (Jvm.FP.l2d (x2.toInt64))) := Has.at z6h z3f rfl
  obtain ⟨z3g, zt, z3h, z6j⟩ := getF z15 hx hZ hown (host := "") (Or.inl (own_W hw 17 rfl)) Via.refl z3d z13 (g := (mkF m 169 #[.val (.ref z0), .val (.int s1), .val (.double (Jvm.FP.l2d (x3.toInt64))), .second, .val (.long c3), .second, .val (.int s3), .val (.int 0), .val (.int 1), .val (.int 2), .val (.int 1), .val (.int 2)] [(.ref z0), (.double (Jvm.FP.l2d (x2.toInt64)))])) rfl rfl (hb hby y5_169)
  obtain ⟨z3i, z1x, z85, z6k, z86, z6l, z87⟩ := (id z1q)
  have z3j : ¬ ((1 : Int32) < 0 ∨ z3i.slots.size ≤ ((1 : Int32)).toNatClampNeg) := inb_of z6k ⟨by decide, by decide⟩
  have z6m : z3i.slots[((1 : Int32)).toNatClampNeg]? = some (.long c2) := Has.at z6l z3j rfl
  obtain ⟨_, _, ⟨z3k, L393, z88, n393⟩, -, zj, ⟨Lc393, z3l, l393, y393, z393⟩, z3m⟩ := Jvm.LawKit.callS zt hx (y := own_m8) hown (mvT hZ (own_W hw 63 rfl)) (mvT hZ (own_W hw 64 rfl)) (mvT hZ (own_W hw 6 rfl)) (mvT hZ (own_W hw 65 rfl)) (by decide) (backOf (W := 0) (rmIB l Z a0 hw [] zz n0 A K x2 x3 c2 c3 EN z10) hZ (own_W hw 65 rfl) (own_W hw 6 rfl) (by decide) (by decide)) (g := (mkF m 178 #[.val (.ref z0), .val (.int s1), .val (.double (Jvm.FP.l2d (x3.toInt64))), .second, .val (.long c3), .second, .val (.int s3), .val (.int 0), .val (.int 1), .val (.int 2), .val (.int 1), .val (.int 2)] [(.long c3), (.double (Jvm.FP.l2d (x3.toInt64))), (.long c2), (.double (Jvm.FP.l2d (x2.toInt64)))])) rfl (by rw [hml]; rfl) (argsL := [(.double (Jvm.FP.l2d (x2.toInt64))), (.long c2), (.double (Jvm.FP.l2d (x3.toInt64))), (.long c3)]) (rest := []) (lenOf own_pd3 rfl) rfl (by show 2 * 0 + _ ≤ _; exact Nat.le_of_eq rfl) (hb hby y5_178) (fun _ _ => ⟨rfl, z3h, (by decide : 0 + 0 ≤ _), (by decide : 0 + 0 ≤ _)⟩)
  dsimp only [Pt.U, Pt.locs, Pt.cells, Pt.slots] at zj l393 y393 z393 z3m z3l
  replace zj := own_sub zj l393 y393 z393
  obtain ⟨rfl, z6n, z3n⟩ := z3l
  have z6o := Fr.app z6e z6n
  have z1y := (z2t.wr za)
  obtain ⟨cq395, z6p, q395'⟩ := z1y.cell
  obtain ⟨_, _, ⟨z16, L395, z89, n395⟩, -, zd, ⟨Lc395, z3o, l395, y395, z395⟩, z3p⟩ := zj.privateBack hx (y := own_m6) hown (mvT hZ (own_W hw 66 rfl)) (mvT hZ (own_W hw 67 rfl)) (own_selpS (y := own_m6) (mvT hZ (own_W hw 39 rfl)) rfl (mvP (args := #[]) hZ (own_W hw 68 rfl)) (mvT hZ (own_W hw 67 rfl)) (by decide)) (Cond.privateMethod_at (mvP hZ (own_W hw 68 rfl) (args := #[]))) (mvT hZ (own_W hw 69 rfl)) (by decide) (backOf (W := 0) (rmM10 l Z a0 hw [] zz n0 A K x1 x2 x3 c1 c2 c3 s1 s2 s3 z0 z5 z6 z2 zp zq zr EN z10 z11 z1o z13 z1q z1s z37 z1y z3 z27 z4 z28 z29 zv zw zx) hZ (own_W hw 69 rfl) (own_W hw 6 rfl) (by decide) (by decide)) (g := (mkF m 192 #[.val (.ref z0), .val (.int s1), .val (.double (Jvm.FP.l2d (x3.toInt64))), .second, .val (.long c3), .second, .val (.int s3), .val (.int 0), .val (.int 1), .val (.int 2), .val (.int 1), .val (.int 2)] [(.int 0), (.int 1), (.ref z0)])) rfl (by rw [hml]; rfl) (Steps.refl _) (a := z0) (by rw [z3n]; exact z6p) q395' (argsL := [(.int 1), (.int 0)]) (rest := []) (lenOf own_pd1 rfl) rfl (by show 2 * 0 + _ ≤ _; exact Nat.le_of_eq rfl) (hb hby y5_192) (fun _ _ => ⟨rfl, z3n, (by decide : 0 + 0 ≤ _), (by decide : 0 + 0 ≤ _)⟩)
  dsimp only [Pt.U, Pt.locs, Pt.cells, Pt.slots] at zd l395 y395 z395 z3p z3o
  replace zd := own_sub zd l395 y395 z395
  obtain ⟨rfl, z6q, ze, z6r, z6s, z6t⟩ := z3o
  have z6u := Fr.app z6o z6q
  have z3q := z10.keep ze (allS zx (allS zw (allS zv all0)))
  have z6v := z5k.trans ze (allS (own_Ix 5 rfl) (allS (own_Ix 4 rfl) (allS (own_Ix 3 rfl) all0)))
  have z3r := (zn.keep ze (ninS z7 (ninS z4 (ninS z3 nin0))))
  obtain ⟨z3s, zk, z3t, z6w⟩ := getF zd hx hZ hown (host := "") (Or.inl (own_W hw 41 rfl)) Via.refl rfl z3r (g := (mkF m 81 #[.val (.ref z0), .val (.int s1), .val (.double (Jvm.FP.l2d (x3.toInt64))), .second, .val (.long c3), .second, .val (.int s3), .val (.int 1), .val (.int 5), .val (.int 2), .val (.int 1), .val (.int 2)] [(.ref z0), (.int 5)])) rfl rfl (hb hby y5_81)
  have z3u := (z11.keep ze (ninS z7 (ninS z4 (ninS z3 nin0))))
  have z3v := (z13.keep ze (ninS z7 (ninS z4 (ninS z3 nin0))))
  have z3w := (z1s.keep ze (ninS z7 (ninS z4 (ninS z3 nin0))))
  have z3x := (z1y.keep ze)
  obtain ⟨cq401, z6x, q401'⟩ := z3x.cell
  obtain ⟨_, _, ⟨z17, L401, z8a, n401⟩, -, zu, ⟨Lc401, z3y, l401, y401, z401⟩, z3z⟩ := zk.privateBack hx (y := own_m4) hown (mvT hZ (own_W hw 45 rfl)) (mvT hZ (own_W hw 46 rfl)) (own_selpS (y := own_m4) (mvT hZ (own_W hw 39 rfl)) rfl (mvP (args := #[]) hZ (own_W hw 47 rfl)) (mvT hZ (own_W hw 46 rfl)) (by decide)) (Cond.privateMethod_at (mvP hZ (own_W hw 47 rfl) (args := #[]))) (mvT hZ (own_W hw 48 rfl)) (by decide) (backOf (W := 0) (rmP1 l Z a0 hw [] z16.heap n0 A K x2 x2 x3 c2 c2 c3 s2 s2 s3 x3 c3 s3 z0 z5 z6 z2 zp zq zr EN z3q z3u z6r z3v z6s z3w z6t z3 z27 z4 z28 z29 zv zw zx) hZ (own_W hw 48 rfl) (own_W hw 6 rfl) (by decide) (by decide)) (g := (mkF m 218 #[.val (.ref z0), .val (.int s1), .val (.double (Jvm.FP.l2d (x3.toInt64))), .second, .val (.long c3), .second, .val (.int s3), .val (.int 1), .val (.int 5), .val (.int 2), .val (.int 1), .val (.int 2)] [(.int s3), (.long c3), (.double (Jvm.FP.l2d (x3.toInt64))), (.int 1), (.ref z0)])) rfl (by rw [hml]; rfl) (Steps.refl _) (a := z0) (by rw [z3t]; exact z6x) q401' (argsL := [(.int 1), (.double (Jvm.FP.l2d (x3.toInt64))), (.long c3), (.int s3)]) (rest := []) (lenOf own_pd0 rfl) rfl (by show 2 * 0 + _ ≤ _; exact Nat.le_of_eq rfl) (hb hby y5_218) (fun _ _ => ⟨rfl, z3t, (by decide : 0 + 0 ≤ _), (by decide : 0 + 0 ≤ _)⟩)
  dsimp only [Pt.U, Pt.locs, Pt.cells, Pt.slots] at zu l401 y401 z401 z3z z3y
  replace zu := own_sub zu l401 y401 z401
  obtain ⟨rfl, z6y, zf, z6z, z70, z71⟩ := z3y
  have z72 := Fr.app z6u z6y
  have z8b := z3q.keep zf (allS zv (allS zw (allS zx all0)))
  have z73 := z6v.trans zf (allS (own_Ix 3 rfl) (allS (own_Ix 4 rfl) (allS (own_Ix 5 rfl) all0)))
  have z74 := (z3x.keep zf)
  have z75 := (z3u.keep zf (ninS z3 (ninS z4 (ninS z7 nin0))))
  have z76 := (z3v.keep zf (ninS z3 (ninS z4 (ninS z7 nin0))))
  have z77 := (z3w.keep zf (ninS z3 (ninS z4 (ninS z7 nin0))))
  have z78 := (((((z48.other z8 (Or.inl zg)).other z9 (Or.inl zh)).other za (Or.inr (slot_ne (Or.inl (own_W hw 23 rfl)) (Or.inl (own_W hw 42 rfl)) (by decide) (t := (.array .int)) (t' := .int) (by decide) (by decide)))).keep ze (ninS z7 (ninS z4 (ninS z3 nin0)))).keep zf (ninS z3 (ninS z4 (ninS z7 nin0))))
  have z79 := (((((z49.other z8 (Or.inl zg)).other z9 (Or.inl zh)).other za (Or.inr (slot_ne (Or.inl (own_W hw 25 rfl)) (Or.inl (own_W hw 42 rfl)) (by decide) (t := (.array .int)) (t' := .int) (by decide) (by decide)))).keep ze (ninS z7 (ninS z4 (ninS z3 nin0)))).keep zf (ninS z3 (ninS z4 (ninS z7 nin0))))
  have z7a := (((((z24.other z8 (Or.inl zg)).other z9 (Or.inl zh)).other za (Or.inr (slot_ne (Or.inl (own_W hw 29 rfl)) (Or.inl (own_W hw 42 rfl)) (by decide) (t := (.array (.object y_s2))) (t' := .int) (by decide) (by decide)))).keep ze (ninS z7 (ninS z4 (ninS z3 nin0)))).keep zf (ninS z3 (ninS z4 (ninS z7 nin0))))
  have z7b := ((((z2i.other z9 (Or.inl zh)).other za (Or.inr (slot_ne (Or.inl (own_W hw 31 rfl)) (Or.inl (own_W hw 42 rfl)) (by decide) (t := (.array .int)) (t' := .int) (by decide) (by decide)))).keep ze (ninS z7 (ninS z4 (ninS z3 nin0)))).keep zf (ninS z3 (ninS z4 (ninS z7 nin0))))
  have z7c := (z3r.keep zf (ninS z3 (ninS z4 (ninS z7 nin0))))
  have z7d := (((((z4a.other z8 (Or.inl zg)).other z9 (Or.inl zh)).other za (Or.inr (slot_ne (Or.inl (own_W hw 44 rfl)) (Or.inl (own_W hw 42 rfl)) (by decide) (t := .long) (t' := .int) (by decide) (by decide)))).keep ze (ninS z7 (ninS z4 (ninS z3 nin0)))).keep zf (ninS z3 (ninS z4 (ninS z7 nin0))))
  have z7e : own_AM Z z17.heap zb zl (.object y_s2) := ((((z4t.other z9 z26).other za (Ne.symm zg)).keep ze (ninS (Ne.symm z1a) (ninS (Ne.symm z1d) (ninS (Ne.symm z1b) nin0)))).keep zf (ninS (Ne.symm z1b) (ninS (Ne.symm z1d) (ninS (Ne.symm z1a) nin0))))
  have z7f : own_AM Z z17.heap z1 zm .int := (((z5d.other za (Ne.symm zh)).keep ze (ninS (Ne.symm z1f) (ninS (Ne.symm z1e) (ninS (Ne.symm z1c) nin0)))).keep zf (ninS (Ne.symm z1c) (ninS (Ne.symm z1e) (ninS (Ne.symm z1f) nin0))))
  obtain ⟨fs, hr, hrun, hended, hW, hsame⟩ := zu.leave (v := none) (fun _ => rfl)
  refine ⟨_, _, pre0 _ ?_, hrun, hended, _, _, rfl, ?_, ⟨_, rfl⟩, hW, hsame.mono (by decide) (by decide)⟩
  · show Steps p.tables e below (s₁.setTop (mkF m 0 #[.val (.ref z0), .unset, .unset, .unset, .unset, .unset, .unset, .unset, .unset, .unset, .unset, .unset] [])) _
    refine XS.aloadN X0.here hx rfl (hb hby y5_0) rfl rfl ?_
    refine z4c _ ?_
    show Steps p.tables e below (z2d.setTop (mkF m 4 #[.val (.ref z0), .unset, .unset, .unset, .unset, .unset, .unset, .unset, .unset, .unset, .unset, .unset] [(.ref z2)])) _
    refine XS.iconst zs.here hx rfl (hb hby y5_4) ?_
    refine zs.iaload hx (j := (0 : Int32)) (v := (.int s1)) (by rw [z2e]; exact z1g.1) (State.isArrayOf_alike hZ.alike z1g.2.1) z1g.2.2 z2g z4f (g := (mkF m 5 #[.val (.ref z0), .unset, .unset, .unset, .unset, .unset, .unset, .unset, .unset, .unset, .unset, .unset] [(.int 0), (.ref z2)])) rfl rfl (hb hby y5_5) _ ?_
    show Steps p.tables e below (z2d.setTop (mkF m 6 #[.val (.ref z0), .unset, .unset, .unset, .unset, .unset, .unset, .unset, .unset, .unset, .unset, .unset] [(.int s1)])) _
    refine XS.istoreN zs.here hx rfl (hb hby y5_6) rfl (l' := #[.val (.ref z0), .val (.int s1), .unset, .unset, .unset, .unset, .unset, .unset, .unset, .unset, .unset, .unset]) rfl ?_
    refine XS.aloadN zs.here hx rfl (hb hby y5_7) rfl rfl ?_
    refine z4i _ ?_
    show Steps p.tables e below (z4g.setTop (mkF m 11 #[.val (.ref z0), .val (.int s1), .unset, .unset, .unset, .unset, .unset, .unset, .unset, .unset, .unset, .unset] [(.ref zb)])) _
    refine XS.iloadN z1h.here hx rfl (hb hby y5_11) rfl ?_
    refine XS.aconstNull z1h.here hx rfl (hb hby y5_12) ?_
    refine z4p _ ?_
    show Steps p.tables e below (z4n.setTop (mkF m 14 #[.val (.ref z0), .val (.int s1), .unset, .unset, .unset, .unset, .unset, .unset, .unset, .unset, .unset, .unset] [])) _
    refine XS.aloadN z1i.here hx rfl (hb hby y5_14) rfl rfl ?_
    refine z4w _ ?_
    show Steps p.tables e below (z4u.setTop (mkF m 18 #[.val (.ref z0), .val (.int s1), .unset, .unset, .unset, .unset, .unset, .unset, .unset, .unset, .unset, .unset] [(.ref z1)])) _
    refine XS.aloadN z2j.here hx rfl (hb hby y5_18) rfl rfl ?_
    refine z4x _ ?_
    show Steps p.tables e below (z2l.setTop (mkF m 22 #[.val (.ref z0), .val (.int s1), .unset, .unset, .unset, .unset, .unset, .unset, .unset, .unset, .unset, .unset] [(.ref z2), (.ref z1)])) _
    refine z1j.arraylength hx (by rw [z2m]; exact z2o.1) (State.isArrayOf_alike hZ.alike z2o.2.1) (g := (mkF m 22 #[.val (.ref z0), .val (.int s1), .unset, .unset, .unset, .unset, .unset, .unset, .unset, .unset, .unset, .unset] [(.ref z2), (.ref z1)])) rfl rfl (hb hby y5_22) _ ?_
    rw [len_of z4y z4z]
    show Steps p.tables e below (z2l.setTop (mkF m 23 #[.val (.ref z0), .val (.int s1), .unset, .unset, .unset, .unset, .unset, .unset, .unset, .unset, .unset, .unset] [(.int 16), (.ref z1)])) _
    refine XS.aloadN z1j.here hx rfl (hb hby y5_23) rfl rfl ?_
    refine z51 _ ?_
    show Steps p.tables e below (z2q.setTop (mkF m 27 #[.val (.ref z0), .val (.int s1), .unset, .unset, .unset, .unset, .unset, .unset, .unset, .unset, .unset, .unset] [(.int 3), (.int 16), (.ref z1)])) _
    refine XS.isub z1k.here hx rfl (hb hby y5_27) rfl ?_
    show Steps p.tables e below (z2q.setTop (mkF m 28 #[.val (.ref z0), .val (.int s1), .unset, .unset, .unset, .unset, .unset, .unset, .unset, .unset, .unset, .unset] [(.int 13), (.ref z1)])) _
    refine XS.iloadN z1k.here hx rfl (hb hby y5_28) rfl ?_
    refine z59 _ ?_
    show Steps p.tables e below (z56.setTop (mkF m 30 #[.val (.ref z0), .val (.int s1), .unset, .unset, .unset, .unset, .unset, .unset, .unset, .unset, .unset, .unset] [])) _
    refine XS.aloadN zy.here hx rfl (hb hby y5_30) rfl rfl ?_
    refine XS.dup zy.here hx rfl (hb hby y5_31) rfl rfl ?_
    refine z5f _ ?_
    show Steps p.tables e below (z2s.setTop (mkF m 35 #[.val (.ref z0), .val (.int s1), .unset, .unset, .unset, .unset, .unset, .unset, .unset, .unset, .unset, .unset] [(.int 3), (.ref z0)])) _
    refine XS.iconst z1m.here hx rfl (hb hby y5_35) ?_
    refine XS.isub z1m.here hx rfl (hb hby y5_36) rfl ?_
    show Steps p.tables e below (z2s.setTop (mkF m 37 #[.val (.ref z0), .val (.int s1), .unset, .unset, .unset, .unset, .unset, .unset, .unset, .unset, .unset, .unset] [(.int 2), (.ref z0)])) _
    refine z5i _ ?_
    show Steps p.tables e below (z5g.setTop (mkF m 40 #[.val (.ref z0), .val (.int s1), .unset, .unset, .unset, .unset, .unset, .unset, .unset, .unset, .unset, .unset] [])) _
    refine XS.aloadN z1n.here hx rfl (hb hby y5_40) rfl rfl ?_
    refine z5n _ ?_
    show Steps p.tables e below (z5l.setTop (mkF m 44 #[.val (.ref z0), .val (.int s1), .unset, .unset, .unset, .unset, .unset, .unset, .unset, .unset, .unset, .unset] [(.ref z5)])) _
    refine XS.aloadN z2u.here hx rfl (hb hby y5_44) rfl rfl ?_
    refine z5o _ ?_
    show Steps p.tables e below (z2v.setTop (mkF m 48 #[.val (.ref z0), .val (.int s1), .unset, .unset, .unset, .unset, .unset, .unset, .unset, .unset, .unset, .unset] [(.int 2), (.ref z5)])) _
    refine z12.daload hx (j := (2 : Int32)) (v := (.double (Jvm.FP.l2d (x3.toInt64)))) (by rw [z2w]; exact z1p.1) (State.isArrayOf_alike hZ.alike z1p.2.1) z1p.2.2 z2y z5r (g := (mkF m 48 #[.val (.ref z0), .val (.int s1), .unset, .unset, .unset, .unset, .unset, .unset, .unset, .unset, .unset, .unset] [(.int 2), (.ref z5)])) rfl rfl (hb hby y5_48) _ ?_
    show Steps p.tables e below (z2v.setTop (mkF m 49 #[.val (.ref z0), .val (.int s1), .unset, .unset, .unset, .unset, .unset, .unset, .unset, .unset, .unset, .unset] [(.double (Jvm.FP.l2d (x3.toInt64)))])) _
    refine XS.dstoreN z12.here hx rfl (hb hby y5_49) rfl (l' := #[.val (.ref z0), .val (.int s1), .val (.double (Jvm.FP.l2d (x3.toInt64))), .second, .unset, .unset, .unset, .unset, .unset, .unset, .unset, .unset]) rfl ?_
    refine XS.aloadN z12.here hx rfl (hb hby y5_50) rfl rfl ?_
    refine z5u _ ?_
    show Steps p.tables e below (z5s.setTop (mkF m 54 #[.val (.ref z0), .val (.int s1), .val (.double (Jvm.FP.l2d (x3.toInt64))), .second, .unset, .unset, .unset, .unset, .unset, .unset, .unset, .unset] [(.ref z6)])) _
    refine XS.aloadN z2z.here hx rfl (hb hby y5_54) rfl rfl ?_
    refine z5v _ ?_
    show Steps p.tables e below (z30.setTop (mkF m 58 #[.val (.ref z0), .val (.int s1), .val (.double (Jvm.FP.l2d (x3.toInt64))), .second, .unset, .unset, .unset, .unset, .unset, .unset, .unset, .unset] [(.int 2), (.ref z6)])) _
    refine z14.laload hx (j := (2 : Int32)) (v := (.long c3)) (by rw [z31]; exact z1r.1) (State.isArrayOf_alike hZ.alike z1r.2.1) z1r.2.2 z33 z5y (g := (mkF m 58 #[.val (.ref z0), .val (.int s1), .val (.double (Jvm.FP.l2d (x3.toInt64))), .second, .unset, .unset, .unset, .unset, .unset, .unset, .unset, .unset] [(.int 2), (.ref z6)])) rfl rfl (hb hby y5_58) _ ?_
    show Steps p.tables e below (z30.setTop (mkF m 59 #[.val (.ref z0), .val (.int s1), .val (.double (Jvm.FP.l2d (x3.toInt64))), .second, .unset, .unset, .unset, .unset, .unset, .unset, .unset, .unset] [(.long c3)])) _
    refine XS.lstore z14.here hx rfl (hb hby y5_59) rfl (l' := #[.val (.ref z0), .val (.int s1), .val (.double (Jvm.FP.l2d (x3.toInt64))), .second, .val (.long c3), .second, .unset, .unset, .unset, .unset, .unset, .unset]) rfl ?_
    refine XS.aloadN z14.here hx rfl (hb hby y5_61) rfl rfl ?_
    refine z61 _ ?_
    show Steps p.tables e below (z5z.setTop (mkF m 65 #[.val (.ref z0), .val (.int s1), .val (.double (Jvm.FP.l2d (x3.toInt64))), .second, .val (.long c3), .second, .unset, .unset, .unset, .unset, .unset, .unset] [(.ref z2)])) _
    refine XS.aloadN z34.here hx rfl (hb hby y5_65) rfl rfl ?_
    refine z62 _ ?_
    show Steps p.tables e below (z35.setTop (mkF m 69 #[.val (.ref z0), .val (.int s1), .val (.double (Jvm.FP.l2d (x3.toInt64))), .second, .val (.long c3), .second, .unset, .unset, .unset, .unset, .unset, .unset] [(.int 2), (.ref z2)])) _
    refine zi.iaload hx (j := (2 : Int32)) (v := (.int s3)) (by rw [z36]; exact z1t.1) (State.isArrayOf_alike hZ.alike z1t.2.1) z1t.2.2 z39 z65 (g := (mkF m 69 #[.val (.ref z0), .val (.int s1), .val (.double (Jvm.FP.l2d (x3.toInt64))), .second, .val (.long c3), .second, .unset, .unset, .unset, .unset, .unset, .unset] [(.int 2), (.ref z2)])) rfl rfl (hb hby y5_69) _ ?_
    show Steps p.tables e below (z35.setTop (mkF m 70 #[.val (.ref z0), .val (.int s1), .val (.double (Jvm.FP.l2d (x3.toInt64))), .second, .val (.long c3), .second, .unset, .unset, .unset, .unset, .unset, .unset] [(.int s3)])) _
    refine XS.istore zi.here hx rfl (hb hby y5_70) rfl (l' := #[.val (.ref z0), .val (.int s1), .val (.double (Jvm.FP.l2d (x3.toInt64))), .second, .val (.long c3), .second, .val (.int s3), .unset, .unset, .unset, .unset, .unset]) rfl ?_
    refine XS.iconst zi.here hx rfl (hb hby y5_72) ?_
    refine XS.istore zi.here hx rfl (hb hby y5_73) rfl (l' := #[.val (.ref z0), .val (.int s1), .val (.double (Jvm.FP.l2d (x3.toInt64))), .second, .val (.long c3), .second, .val (.int s3), .val (.int 0), .unset, .unset, .unset, .unset]) rfl ?_
    refine XS.iconst zi.here hx rfl (hb hby y5_75) ?_
    refine XS.istore zi.here hx rfl (hb hby y5_76) rfl (l' := #[.val (.ref z0), .val (.int s1), .val (.double (Jvm.FP.l2d (x3.toInt64))), .second, .val (.long c3), .second, .val (.int s3), .val (.int 0), .val (.int 1), .unset, .unset, .unset]) rfl ?_
    refine XS.iload zi.here hx rfl (hb hby y5_78) rfl ?_
    refine XS.aloadN zi.here hx rfl (hb hby y5_80) rfl rfl ?_
    refine z67 _ ?_
    show Steps p.tables e below (z1u.setTop (mkF m 84 #[.val (.ref z0), .val (.int s1), .val (.double (Jvm.FP.l2d (x3.toInt64))), .second, .val (.long c3), .second, .val (.int s3), .val (.int 0), .val (.int 1), .unset, .unset, .unset] [(.int 2), (.int 1)])) _
    refine XS.icmpNo zo.here hx rfl (hb hby y5_84) rfl (tlt (by decide : (1 : Int32) < (2 : Int32))).2.1 ?_
    show Steps p.tables e below (z1u.setTop (mkF m 87 #[.val (.ref z0), .val (.int s1), .val (.double (Jvm.FP.l2d (x3.toInt64))), .second, .val (.long c3), .second, .val (.int s3), .val (.int 0), .val (.int 1), .unset, .unset, .unset] [])) _
    refine XS.iload zo.here hx rfl (hb hby y5_87) rfl ?_
    refine XS.iconst zo.here hx rfl (hb hby y5_89) ?_
    refine XS.iadd zo.here hx rfl (hb hby y5_90) rfl ?_
    show Steps p.tables e below (z1u.setTop (mkF m 91 #[.val (.ref z0), .val (.int s1), .val (.double (Jvm.FP.l2d (x3.toInt64))), .second, .val (.long c3), .second, .val (.int s3), .val (.int 0), .val (.int 1), .unset, .unset, .unset] [(.int 5)])) _
    refine XS.aloadN zo.here hx rfl (hb hby y5_91) rfl rfl ?_
    refine z6b _ ?_
    show Steps p.tables e below (z68.setTop (mkF m 95 #[.val (.ref z0), .val (.int s1), .val (.double (Jvm.FP.l2d (x3.toInt64))), .second, .val (.long c3), .second, .val (.int s3), .val (.int 0), .val (.int 1), .unset, .unset, .unset] [(.int 2), (.int 5)])) _
    refine z3b _ ?_
    show Steps p.tables e below (z1v.setTop (mkF m 98 #[.val (.ref z0), .val (.int s1), .val (.double (Jvm.FP.l2d (x3.toInt64))), .second, .val (.long c3), .second, .val (.int s3), .val (.int 0), .val (.int 1), .unset, .unset, .unset] [(.int 2)])) _
    refine XS.istore zc.here hx rfl (hb hby y5_98) rfl (l' := #[.val (.ref z0), .val (.int s1), .val (.double (Jvm.FP.l2d (x3.toInt64))), .second, .val (.long c3), .second, .val (.int s3), .val (.int 0), .val (.int 1), .val (.int 2), .unset, .unset]) rfl ?_
    refine XS.iload zc.here hx rfl (hb hby y5_100) rfl ?_
    refine XS.istore zc.here hx rfl (hb hby y5_102) rfl (l' := #[.val (.ref z0), .val (.int s1), .val (.double (Jvm.FP.l2d (x3.toInt64))), .second, .val (.long c3), .second, .val (.int s3), .val (.int 0), .val (.int 1), .val (.int 2), .val (.int 1), .unset]) rfl ?_
    refine XS.iload zc.here hx rfl (hb hby y5_104) rfl ?_
    refine XS.iconst zc.here hx rfl (hb hby y5_106) ?_
    refine XS.iadd zc.here hx rfl (hb hby y5_107) rfl ?_
    show Steps p.tables e below (z1v.setTop (mkF m 108 #[.val (.ref z0), .val (.int s1), .val (.double (Jvm.FP.l2d (x3.toInt64))), .second, .val (.long c3), .second, .val (.int s3), .val (.int 0), .val (.int 1), .val (.int 2), .val (.int 1), .unset] [(.int 2)])) _
    refine XS.istore zc.here hx rfl (hb hby y5_108) rfl (l' := #[.val (.ref z0), .val (.int s1), .val (.double (Jvm.FP.l2d (x3.toInt64))), .second, .val (.long c3), .second, .val (.int s3), .val (.int 0), .val (.int 1), .val (.int 2), .val (.int 1), .val (.int 2)]) rfl ?_
    refine XS.iload zc.here hx rfl (hb hby y5_110) rfl ?_
    refine XS.iload zc.here hx rfl (hb hby y5_112) rfl ?_
    refine XS.icmpYes zc.here hx rfl (pc0 := 114) (pc' := 161) rfl (hb hby y5_114) rfl (flt (by decide : ¬ ((2 : Int32) < (2 : Int32)))).2.1 (by decide) (by decide) ?_
    show Steps p.tables e below (z1v.setTop (mkF m 161 #[.val (.ref z0), .val (.int s1), .val (.double (Jvm.FP.l2d (x3.toInt64))), .second, .val (.long c3), .second, .val (.int s3), .val (.int 0), .val (.int 1), .val (.int 2), .val (.int 1), .val (.int 2)] [])) _
    refine XS.aloadN zc.here hx rfl (hb hby y5_161) rfl rfl ?_
    refine z6f _ ?_
    show Steps p.tables e below (z3c.setTop (mkF m 165 #[.val (.ref z0), .val (.int s1), .val (.double (Jvm.FP.l2d (x3.toInt64))), .second, .val (.long c3), .second, .val (.int s3), .val (.int 0), .val (.int 1), .val (.int 2), .val (.int 1), .val (.int 2)] [(.ref z5)])) _
    refine XS.iload z15.here hx rfl (hb hby y5_165) rfl ?_
    refine z15.daload hx (j := (1 : Int32)) (v := (.double (Jvm.FP.l2d (x2.toInt64)))) (by rw [z3d]; exact z1w.1) (State.isArrayOf_alike hZ.alike z1w.2.1) z1w.2.2 z3f z6i (g := (mkF m 167 #[.val (.ref z0), .val (.int s1), .val (.double (Jvm.FP.l2d (x3.toInt64))), .second, .val (.long c3), .second, .val (.int s3), .val (.int 0), .val (.int 1), .val (.int 2), .val (.int 1), .val (.int 2)] [(.int 1), (.ref z5)])) rfl rfl (hb hby y5_167) _ ?_
    show Steps p.tables e below (z3c.setTop (mkF m 168 #[.val (.ref z0), .val (.int s1), .val (.double (Jvm.FP.l2d (x3.toInt64))), .second, .val (.long c3), .second, .val (.int s3), .val (.int 0), .val (.int 1), .val (.int 2), .val (.int 1), .val (.int 2)] [(.double (Jvm.FP.l2d (x2.toInt64)))])) _
    refine XS.aloadN z15.here hx rfl (hb hby y5_168) rfl rfl ?_
    refine z6j _ ?_
    show Steps p.tables e below (z3g.setTop (mkF m 172 #[.val (.ref z0), .val (.int s1), .val (.double (Jvm.FP.l2d (x3.toInt64))), .second, .val (.long c3), .second, .val (.int s3), .val (.int 0), .val (.int 1), .val (.int 2), .val (.int 1), .val (.int 2)] [(.ref z6), (.double (Jvm.FP.l2d (x2.toInt64)))])) _
    refine XS.iload zt.here hx rfl (hb hby y5_172) rfl ?_
    refine zt.laload hx (j := (1 : Int32)) (v := (.long c2)) (by rw [z3h]; exact z1x.1) (State.isArrayOf_alike hZ.alike z1x.2.1) z1x.2.2 z3j z6m (g := (mkF m 174 #[.val (.ref z0), .val (.int s1), .val (.double (Jvm.FP.l2d (x3.toInt64))), .second, .val (.long c3), .second, .val (.int s3), .val (.int 0), .val (.int 1), .val (.int 2), .val (.int 1), .val (.int 2)] [(.int 1), (.ref z6), (.double (Jvm.FP.l2d (x2.toInt64)))])) rfl rfl (hb hby y5_174) _ ?_
    show Steps p.tables e below (z3g.setTop (mkF m 175 #[.val (.ref z0), .val (.int s1), .val (.double (Jvm.FP.l2d (x3.toInt64))), .second, .val (.long c3), .second, .val (.int s3), .val (.int 0), .val (.int 1), .val (.int 2), .val (.int 1), .val (.int 2)] [(.long c2), (.double (Jvm.FP.l2d (x2.toInt64)))])) _
    refine XS.dloadN zt.here hx rfl (hb hby y5_175) rfl ?_
    refine XS.lload zt.here hx rfl (hb hby y5_176) rfl ?_
    refine z3m _ ?_
    show Steps p.tables e below (z3k.setTop (mkF m 181 #[.val (.ref z0), .val (.int s1), .val (.double (Jvm.FP.l2d (x3.toInt64))), .second, .val (.long c3), .second, .val (.int s3), .val (.int 0), .val (.int 1), .val (.int 2), .val (.int 1), .val (.int 2)] [(.int (own_f_rmIB x2 x3 c2 c3))])) _
    refine XS.ifYes zj.here hx rfl (pc0 := 181) (pc' := 187) rfl (hb hby y5_181) rfl ((if0 _ _).trans (feq hb_).2) (by decide) (by decide) ?_
    show Steps p.tables e below (z3k.setTop (mkF m 187 #[.val (.ref z0), .val (.int s1), .val (.double (Jvm.FP.l2d (x3.toInt64))), .second, .val (.long c3), .second, .val (.int s3), .val (.int 0), .val (.int 1), .val (.int 2), .val (.int 1), .val (.int 2)] [])) _
    refine XS.aloadN zj.here hx rfl (hb hby y5_187) rfl rfl ?_
    refine XS.iload zj.here hx rfl (hb hby y5_188) rfl ?_
    refine XS.iload zj.here hx rfl (hb hby y5_190) rfl ?_
    refine z3p.trans ?_
    show Steps p.tables e below (z16.setTop (mkF m 195 #[.val (.ref z0), .val (.int s1), .val (.double (Jvm.FP.l2d (x3.toInt64))), .second, .val (.long c3), .second, .val (.int s3), .val (.int 0), .val (.int 1), .val (.int 2), .val (.int 1), .val (.int 2)] [])) _
    refine XS.iload zd.here hx rfl (hb hby y5_195) rfl ?_
    refine XS.istore zd.here hx rfl (hb hby y5_197) rfl (l' := #[.val (.ref z0), .val (.int s1), .val (.double (Jvm.FP.l2d (x3.toInt64))), .second, .val (.long c3), .second, .val (.int s3), .val (.int 1), .val (.int 1), .val (.int 2), .val (.int 1), .val (.int 2)]) rfl ?_
    refine XS.iload zd.here hx rfl (hb hby y5_199) rfl ?_
    refine XS.iconst zd.here hx rfl (hb hby y5_201) ?_
    refine XS.imul zd.here hx rfl (hb hby y5_202) rfl ?_
    show Steps p.tables e below (z16.setTop (mkF m 203 #[.val (.ref z0), .val (.int s1), .val (.double (Jvm.FP.l2d (x3.toInt64))), .second, .val (.long c3), .second, .val (.int s3), .val (.int 1), .val (.int 1), .val (.int 2), .val (.int 1), .val (.int 2)] [(.int 4)])) _
    refine XS.iconst zd.here hx rfl (hb hby y5_203) ?_
    refine XS.iadd zd.here hx rfl (hb hby y5_204) rfl ?_
    show Steps p.tables e below (z16.setTop (mkF m 205 #[.val (.ref z0), .val (.int s1), .val (.double (Jvm.FP.l2d (x3.toInt64))), .second, .val (.long c3), .second, .val (.int s3), .val (.int 1), .val (.int 1), .val (.int 2), .val (.int 1), .val (.int 2)] [(.int 5)])) _
    refine XS.istore zd.here hx rfl (hb hby y5_205) rfl (l' := #[.val (.ref z0), .val (.int s1), .val (.double (Jvm.FP.l2d (x3.toInt64))), .second, .val (.long c3), .second, .val (.int s3), .val (.int 1), .val (.int 5), .val (.int 2), .val (.int 1), .val (.int 2)]) rfl ?_
    refine XS.goto zd.here hx rfl (pc0 := 207) (pc' := 78) rfl (hb hby y5_207) (by decide) (by decide) ?_
    refine XS.iload zd.here hx rfl (hb hby y5_78) rfl ?_
    refine XS.aloadN zd.here hx rfl (hb hby y5_80) rfl rfl ?_
    refine z6w _ ?_
    show Steps p.tables e below (z3s.setTop (mkF m 84 #[.val (.ref z0), .val (.int s1), .val (.double (Jvm.FP.l2d (x3.toInt64))), .second, .val (.long c3), .second, .val (.int s3), .val (.int 1), .val (.int 5), .val (.int 2), .val (.int 1), .val (.int 2)] [(.int 2), (.int 5)])) _
    refine XS.icmpYes zk.here hx rfl (pc0 := 84) (pc' := 210) rfl (hb hby y5_84) rfl (flt (by decide : ¬ ((5 : Int32) < (2 : Int32)))).2.1 (by decide) (by decide) ?_
    show Steps p.tables e below (z3s.setTop (mkF m 210 #[.val (.ref z0), .val (.int s1), .val (.double (Jvm.FP.l2d (x3.toInt64))), .second, .val (.long c3), .second, .val (.int s3), .val (.int 1), .val (.int 5), .val (.int 2), .val (.int 1), .val (.int 2)] [])) _
    refine XS.aloadN zk.here hx rfl (hb hby y5_210) rfl rfl ?_
    refine XS.iload zk.here hx rfl (hb hby y5_211) rfl ?_
    refine XS.dloadN zk.here hx rfl (hb hby y5_213) rfl ?_
    refine XS.lload zk.here hx rfl (hb hby y5_214) rfl ?_
    refine XS.iload zk.here hx rfl (hb hby y5_216) rfl ?_
    refine z3z.trans ?_
    show Steps p.tables e below (z17.setTop (mkF m 221 #[.val (.ref z0), .val (.int s1), .val (.double (Jvm.FP.l2d (x3.toInt64))), .second, .val (.long c3), .second, .val (.int s3), .val (.int 1), .val (.int 5), .val (.int 2), .val (.int 1), .val (.int 2)] [])) _
    exact zu.returnOut hx Bd.returns (hb hby y5_221) hr
  · show Q_rmR3y Z A K x1 x2 x3 c1 c2 c3 s1 s2 s3 z1z z20 z21 t1 t2 t3 ga z0 z5 z6 z2 z18 z19 zb z1 zp zq zr zl zm h0 n0 _ z17.heap _
    exact ⟨rfl, z72, z73, z74, z75, z76, z77, z78, z79, z7a, z7b, z7c, z7d, z6z, z70, z71, z7e, z4b, z7f⟩
def Q_rmR3n (Z : State) (A : Nat → Addr) (K : Nat → ClassId) (x1 : Int32) (x2 : Int32) (x3 : Int32) (c1 : Int64) (c2 : Int64) (c3 : Int64) (s1 : Int32) (s2 : Int32) (s3 : Int32) (zd : Int32) (ze : Int32) (zf : Int32) (t1 : Int32) (t2 : Int32) (t3 : Int32) (ga : Int64) (z0 : Addr) (z1 : Addr) (z2 : Addr) (z3 : Addr) (z7 : Addr) (z8 : Addr) (z4 : Addr) (z5 : Addr) (z9 : ClassId) (za : ClassId) (zb : ClassId) (z6 : ClassId) (zc : ClassId) (h0 : Heap) (n0 : Nat) (v : Option Value) (h : Heap) (L : List Loc) : Prop := v = none ∧ Fr n0 L ∧ Keep h0 h [z4, z5, z0, z3, z2, z1] ∧ (Exa Z h z0 y_s0) ∧ (Fld Z h z0 y_s0 "at" "[D" (.ref z1)) ∧ (Fld Z h z0 y_s0 "added" "[J" (.ref z2)) ∧ (Fld Z h z0 y_s0 "slot" "[I" (.ref z3)) ∧ (Fld Z h z0 y_s0 "from" "[I" (.ref z7)) ∧ (Fld Z h z0 y_s0 "to" "[I" (.ref z8)) ∧ (Fld Z h z0 y_s0 "message" y_s1 (.ref z4)) ∧ (Fld Z h z0 y_s0 "free" "[I" (.ref z5)) ∧ (Fld Z h z0 y_s0 "size" "I" (.int 2)) ∧ (Fld Z h z0 y_s0 "additions" "J" (.long ga)) ∧ (Arv Z h z1 z9 .double (16 : Int32) [(.double (Jvm.FP.l2d (x3.toInt64))), (.double (Jvm.FP.l2d (x2.toInt64))), (.double (Jvm.FP.l2d (x3.toInt64)))] (.double (Jvm.FP.l2d ((0 : Int32).toInt64)))) ∧ (Arv Z h z2 za .long (16 : Int32) [(.long c3), (.long c2), (.long c3)] (.long 0)) ∧ (Arv Z h z3 zb .int 16 [(.int s3), (.int s2), (.int s3)] (.int 0)) ∧ (own_AM Z h z4 z6 (.object y_s2)) ∧ (Ovr Z z6 y_s2) ∧ (own_AM Z h z5 zc .int)
theorem y5_184 : decode prog_48_method_8_code 184 = .ok (.goto 26, 3) := by decide +kernel
set_option maxRecDepth 65536 in
set_option maxHeartbeats 40000000 in
theorem rmR3n (l : Launch) (Z : State) (a0 : Array Value) (hw : ∀ d ∈ tables_1, d.before a0 Z = true) (ws : List Jvm.Cond) (h0 : Heap) (n0 : Nat) (A : Nat → Addr) (K : Nat → ClassId) (x1 : Int32) (x2 : Int32) (x3 : Int32) (c1 : Int64) (c2 : Int64) (c3 : Int64) (s1 : Int32) (s2 : Int32) (s3 : Int32) (z1l : Int32) (z1m : Int32) (z1n : Int32) (t1 : Int32) (t2 : Int32) (t3 : Int32) (ga : Int64)  (z0 : Addr) (z3 : Addr) (z4 : Addr) (z2 : Addr) (z11 : Addr) (z12 : Addr) (z8 : Addr) (z1 : Addr) (zp : ClassId) (zq : ClassId) (zr : ClassId) (zi : ClassId) (zj : ClassId) (EN : own_St Z A K) (OL0 : Old Z n0 h0) (z1o : Fld Z h0 z0 y_s0 "slot" "[I" (.ref z2)) (z1p : Arv Z h0 z2 zr .int 16 [(.int s1), (.int s2), (.int s3)] (.int 0)) (z1q : Fld Z h0 z0 y_s0 "message" y_s1 (.ref z8)) (z1r : own_AM Z h0 z8 zi (.object y_s2)) (z3j : Fld Z h0 z0 y_s0 "free" "[I" (.ref z1)) (z3k : Fld Z h0 z0 y_s0 "size" "I" (.int 3)) (z3l : own_AM Z h0 z1 zj .int) (z3m : Exa Z h0 z0 y_s0) (z3n : Fld Z h0 z0 y_s0 "at" "[D" (.ref z3)) (z3o : Arv Z h0 z3 zp .double (16 : Int32) [(.double (Jvm.FP.l2d (x1.toInt64))), (.double (Jvm.FP.l2d (x2.toInt64))), (.double (Jvm.FP.l2d (x3.toInt64)))] (.double (Jvm.FP.l2d ((0 : Int32).toInt64)))) (z3p : Fld Z h0 z0 y_s0 "added" "[J" (.ref z4)) (z3q : Arv Z h0 z4 zq .long (16 : Int32) [(.long c1), (.long c2), (.long c3)] (.long 0)) (z3r : Fld Z h0 z0 y_s0 "from" "[I" (.ref z11)) (z3s : Fld Z h0 z0 y_s0 "to" "[I" (.ref z12)) (z3t : Fld Z h0 z0 y_s0 "additions" "J" (.long ga)) (z3u : Ovr Z zi y_s2) (hs0 : ¬ (s1 < (0 : Int32))) (hs1 : s1 < (16 : Int32)) (hb_ : (own_f_rmIB x2 x3 c2 c3) = (0 : Int32)) (ze : z0 ≠ z8) (z1s : z2 ≠ z8) (z1t : z8 ≠ z1) (zf : z0 ≠ z1) (z1u : z3 ≠ z8) (z1v : z3 ≠ z1) (zb : z0 ≠ z3) (z1w : z4 ≠ z8) (z1x : z4 ≠ z1) (zc : z0 ≠ z4) (z1y : z2 ≠ z1) (zg : z0 ≠ z2) (z3v : z3 ≠ z4) (z3w : z3 ≠ z2) (z3x : z4 ≠ z2) (z1z : n0 ≤ z8) (z20 : n0 ≤ z1) (z21 : n0 ≤ z0) (z22 : n0 ≤ z3) (z23 : n0 ≤ z4) (z24 : n0 ≤ z2) :
    MetFree l own_m3 (head1 (Jvm.Cond.code own_m3 prog_48_method_8_code 12 none :: ws) (Room.mk 1 0 0 19)) (fun a U => a = #[(.ref z0)] ∧ Z.Warmed39 U.vm ∧ U.heap = h0) (fun _ _ _ _ _ => True) (fun _ U o U' => ∃ v L, o = .returned v ∧ Q_rmR3n Z A K x1 x2 x3 c1 c2 c3 s1 s2 s3 z1l z1m z1n t1 t2 t3 ga z0 z3 z4 z2 z11 z12 z8 z1 zp zq zr zi zj h0 n0 v U'.heap L ∧ FrameEnd U o U' L (Room.mk 1 0 0 19).cells (Room.mk 1 0 0 19).slots) := by
  refine MetFree.of_bodySF (plainFor_of_name own_pn0) hisR ?_
  intro p e s m args below meth c s₁ Bd hml0 hP hK
  obtain ⟨rfl, hZ, hh⟩ := hP
  have hx := Bd.exec
  have hby := Bd.bytes
  have hml : c.maxLocals = 12 := hml0
  have hown : s.vm.findClass y_s0 = some m.cls := findClass_of_methodNamed Bd.named
  have hnm := (name_of_methodNamed Bd.named Bd.method).1
  have X0 : Stand p l e (Room.mk 1 0 0 19) s m #[(.ref z0)] below meth c s₁ [] 0 0 := Stand.of_body Bd
  have e0 : s₁.heap = h0 := by rw [← hh, Bd.state]; rfl
  have N0 := Fr.nil n0
  have pre0 : ∀ t, Steps p.tables e below (s₁.setTop (mkF m 0 #[.val (.ref z0), .unset, .unset, .unset, .unset, .unset, .unset, .unset, .unset, .unset, .unset, .unset] [])) t → Steps p.tables e below (s₁.setTop (entryFrame m #[(.ref z0)] 12)) t := fun t k => castTop (by first | (simp [entryFrame, mkF, argsToLocals, Value.category, maxLocals]; done) | rfl) k
  have KK0 : Keep h0 h0 [z8, z1, z0, z2, z4, z3] := Keep.refl _ _
  obtain ⟨z25, zm, z26, z3y⟩ := getF X0 hx hZ hown (host := "") (Or.inl (own_W hw 20 rfl)) Via.refl e0 z1o (g := (mkF m 1 #[.val (.ref z0), .unset, .unset, .unset, .unset, .unset, .unset, .unset, .unset, .unset, .unset, .unset] [(.ref z0)])) rfl rfl (hb hby y5_1)
  obtain ⟨z27, z13, z6u, z3z, z6v, z40, z6w⟩ := (id z1p)
  have z28 : ¬ ((0 : Int32) < 0 ∨ z27.slots.size ≤ ((0 : Int32)).toNatClampNeg) := inb_of z3z ⟨by decide, by decide⟩
  have z41 : z27.slots[((0 : Int32)).toNatClampNeg]? = some (.int s1) := Has.at z40 z28 rfl
  obtain ⟨z42, z14, z43, z44⟩ := getF zm hx hZ hown (host := "") (Or.inl (own_W hw 28 rfl)) Via.refl z26 z1q (g := (mkF m 8 #[.val (.ref z0), .val (.int s1), .unset, .unset, .unset, .unset, .unset, .unset, .unset, .unset, .unset, .unset] [(.ref z0)])) rfl rfl (hb hby y5_8)
  obtain ⟨vs418, dv418, z45, z46, z6x, z47, z6y, z6z, z70⟩ := (id z1r)
  have z48 : ¬ (s1 < 0 ∨ z45.slots.size ≤ (s1).toNatClampNeg) := inb_of z47 ⟨hs0, hs1⟩
  obtain ⟨z49, z29, z15, z4a, z5, z4b⟩ := stR z14 hx hZ z43 z46 (j := s1) z48 rfl (Or.inl rfl) (g := (mkF m 13 #[.val (.ref z0), .val (.int s1), .unset, .unset, .unset, .unset, .unset, .unset, .unset, .unset, .unset, .unset] [.null, (.int s1), (.ref z8)])) rfl rfl (hb hby y5_13)
  have z4c := Fr.snoc z15 N0 z1z
  have z4d := OL0.wr z5 z1z
  have z4e := KK0.wr z5 (own_Ix 0 rfl)
  have z4f : own_AM Z z29 z8 zi (.object y_s2) := own_AM.set z1r rfl z5
  have z2a := (z3j.other z5 (Or.inl ze))
  obtain ⟨z4g, z2b, z4h, z4i⟩ := getF z15 hx hZ hown (host := "") (Or.inl (own_W hw 30 rfl)) Via.refl z4a z2a (g := (mkF m 15 #[.val (.ref z0), .val (.int s1), .unset, .unset, .unset, .unset, .unset, .unset, .unset, .unset, .unset, .unset] [(.ref z0)])) rfl rfl (hb hby y5_15)
  have z2c := (z1o.other z5 (Or.inl ze))
  obtain ⟨z2d, z16, z2e, z4j⟩ := getF z2b hx hZ hown (host := "") (Or.inl (own_W hw 20 rfl)) Via.refl z4h z2c (g := (mkF m 19 #[.val (.ref z0), .val (.int s1), .unset, .unset, .unset, .unset, .unset, .unset, .unset, .unset, .unset, .unset] [(.ref z0), (.ref z1)])) rfl rfl (hb hby y5_19)
  have z2f := (z1p.other z5 z1s)
  obtain ⟨z71, z2g, -, z4k, z4l, -, -⟩ := (id z2f)
  have z2h := (z3k.other z5 (Or.inl ze))
  obtain ⟨z2i, z17, z4m, z4n⟩ := getF z16 hx hZ hown (host := "") (Or.inl (own_W hw 41 rfl)) Via.refl z2e z2h (g := (mkF m 24 #[.val (.ref z0), .val (.int s1), .unset, .unset, .unset, .unset, .unset, .unset, .unset, .unset, .unset, .unset] [(.ref z0), (.int 16), (.ref z1)])) rfl rfl (hb hby y5_24)
  have z2j : own_AM Z z29 z1 zj .int := (z3l.other z5 (Ne.symm z1t))
  obtain ⟨vs429, dv429, z4o, z4p, z72, z4q, z73, z74, z75⟩ := (id z2j)
  have z4r : ¬ ((13 : Int32) < 0 ∨ z4o.slots.size ≤ ((13 : Int32)).toNatClampNeg) := inb_of z4q ⟨by decide, by decide⟩
  obtain ⟨z4s, z4t, zs, z4u, z6, z4v⟩ := stI z17 hx hZ z4m z4p (j := (13 : Int32)) z4r (g := (mkF m 29 #[.val (.ref z0), .val (.int s1), .unset, .unset, .unset, .unset, .unset, .unset, .unset, .unset, .unset, .unset] [(.int s1), (.int 13), (.ref z1)])) rfl rfl (hb hby y5_29)
  have z4w := Fr.snoc zs z4c z20
  have z4x := z4d.wr z6 z20
  have z4y := z4e.wr z6 (own_Ix 1 rfl)
  have z4z : own_AM Z z4t z1 zj .int := own_AM.set z2j rfl z6
  have z18 := (z2h.other z6 (Or.inl zf))
  obtain ⟨z2k, z19, z50, z51⟩ := getF zs hx hZ hown (host := "") (Or.inl (own_W hw 41 rfl)) Via.refl z4u z18 (g := (mkF m 32 #[.val (.ref z0), .val (.int s1), .unset, .unset, .unset, .unset, .unset, .unset, .unset, .unset, .unset, .unset] [(.ref z0), (.ref z0)])) rfl rfl (hb hby y5_32)
  have z2l := ((z3m.wr z5).wr z6)
  obtain ⟨z52, zt, z1a, z53, z7, z54⟩ := putF z19 hx hZ hown (host := "") (Or.inl (own_W hw 41 rfl)) Via.refl z50 z18 z2l (Or.inl (own_W hw 42 rfl)) (own_W hw 5 rfl) (ty := .int) (by decide) rfl rfl (g := (mkF m 37 #[.val (.ref z0), .val (.int s1), .unset, .unset, .unset, .unset, .unset, .unset, .unset, .unset, .unset, .unset] [(.int 2), (.ref z0)])) rfl rfl (hb hby y5_37)
  have z55 := Fr.snoc z1a z4w z21
  have zu := z4x.wr z7 z21
  have z56 := z4y.wr z7 (own_Ix 2 rfl)
  have zk : Fld Z zt z0 y_s0 "size" "I" (.int 2) := z18.same z7
  have zv := (((z3n.other z5 (Or.inl ze)).other z6 (Or.inl zf)).other z7 (Or.inr (slot_ne (Or.inl (own_W hw 15 rfl)) (Or.inl (own_W hw 42 rfl)) (by decide) (t := (.array .double)) (t' := .int) (by decide) (by decide))))
  obtain ⟨z57, z2m, z58, z59⟩ := getF z1a hx hZ hown (host := "") (Or.inl (own_W hw 14 rfl)) Via.refl z53 zv (g := (mkF m 41 #[.val (.ref z0), .val (.int s1), .unset, .unset, .unset, .unset, .unset, .unset, .unset, .unset, .unset, .unset] [(.ref z0)])) rfl rfl (hb hby y5_41)
  obtain ⟨z2n, zw, z2o, z5a⟩ := getF z2m hx hZ hown (host := "") (Or.inl (own_W hw 41 rfl)) Via.refl z58 zk (g := (mkF m 45 #[.val (.ref z0), .val (.int s1), .unset, .unset, .unset, .unset, .unset, .unset, .unset, .unset, .unset, .unset] [(.ref z0), (.ref z3)])) rfl rfl (hb hby y5_45)
  have z1b := (((z3o.other z5 z1u).other z6 z1v).other z7 (Ne.symm zb))
  obtain ⟨z2p, z1c, z76, z5b, z77, z5c, z78⟩ := (id z1b)
  have z2q : ¬ ((2 : Int32) < 0 ∨ z2p.slots.size ≤ ((2 : Int32)).toNatClampNeg) := inb_of z5b ⟨by decide, by decide⟩
  have z5d : z2p.slots[((2 : Int32)).toNatClampNeg]? = some (.double (Jvm.FP.l2d (x3.toInt64))) := Has.at z5c z2q rfl
  have zx := (((z3p.other z5 (Or.inl ze)).other z6 (Or.inl zf)).other z7 (Or.inr (slot_ne (Or.inl (own_W hw 18 rfl)) (Or.inl (own_W hw 42 rfl)) (by decide) (t := (.array .long)) (t' := .int) (by decide) (by decide))))
  obtain ⟨z5e, z2r, z5f, z5g⟩ := getF zw hx hZ hown (host := "") (Or.inl (own_W hw 17 rfl)) Via.refl z2o zx (g := (mkF m 51 #[.val (.ref z0), .val (.int s1), .val (.double (Jvm.FP.l2d (x3.toInt64))), .second, .unset, .unset, .unset, .unset, .unset, .unset, .unset, .unset] [(.ref z0)])) rfl rfl (hb hby y5_51)
  obtain ⟨z2s, zy, z2t, z5h⟩ := getF z2r hx hZ hown (host := "") (Or.inl (own_W hw 41 rfl)) Via.refl z5f zk (g := (mkF m 55 #[.val (.ref z0), .val (.int s1), .val (.double (Jvm.FP.l2d (x3.toInt64))), .second, .unset, .unset, .unset, .unset, .unset, .unset, .unset, .unset] [(.ref z0), (.ref z4)])) rfl rfl (hb hby y5_55)
  have z1d := (((z3q.other z5 z1w).other z6 z1x).other z7 (Ne.symm zc))
  obtain ⟨z2u, z1e, z79, z5i, z7a, z5j, z7b⟩ := (id z1d)
  have z2v : ¬ ((2 : Int32) < 0 ∨ z2u.slots.size ≤ ((2 : Int32)).toNatClampNeg) := inb_of z5i ⟨by decide, by decide⟩
  have z5k : z2u.slots[((2 : Int32)).toNatClampNeg]? = some (.long c3) := Has.at z5j z2v rfl
  have z1f := ((z2c.other z6 (Or.inl zf)).other z7 (Or.inr (slot_ne (Or.inl (own_W hw 21 rfl)) (Or.inl (own_W hw 42 rfl)) (by decide) (t := (.array .int)) (t' := .int) (by decide) (by decide))))
  obtain ⟨z5l, z2w, z5m, z5n⟩ := getF zy hx hZ hown (host := "") (Or.inl (own_W hw 20 rfl)) Via.refl z2t z1f (g := (mkF m 62 #[.val (.ref z0), .val (.int s1), .val (.double (Jvm.FP.l2d (x3.toInt64))), .second, .val (.long c3), .second, .unset, .unset, .unset, .unset, .unset, .unset] [(.ref z0)])) rfl rfl (hb hby y5_62)
  obtain ⟨z2x, zh, z2y, z5o⟩ := getF z2w hx hZ hown (host := "") (Or.inl (own_W hw 41 rfl)) Via.refl z5m zk (g := (mkF m 66 #[.val (.ref z0), .val (.int s1), .val (.double (Jvm.FP.l2d (x3.toInt64))), .second, .val (.long c3), .second, .unset, .unset, .unset, .unset, .unset, .unset] [(.ref z0), (.ref z2)])) rfl rfl (hb hby y5_66)
  have z2z := ((z2f.other z6 z1y).other z7 (Ne.symm zg))
  obtain ⟨z30, z1g, z7c, z5p, z7d, z5q, z7e⟩ := (id z2z)
  have z31 : ¬ ((2 : Int32) < 0 ∨ z30.slots.size ≤ ((2 : Int32)).toNatClampNeg) := inb_of z5p ⟨by decide, by decide⟩
  have z5r : z30.slots[((2 : Int32)).toNatClampNeg]? = some (.int s3) := Has.at z5q z31 rfl
  obtain ⟨z1h, zl, z5s, z5t⟩ := getF zh hx hZ hown (host := "") (Or.inl (own_W hw 41 rfl)) Via.refl z2y zk (g := (mkF m 81 #[.val (.ref z0), .val (.int s1), .val (.double (Jvm.FP.l2d (x3.toInt64))), .second, .val (.long c3), .second, .val (.int s3), .val (.int 0), .val (.int 1), .unset, .unset, .unset] [(.ref z0), (.int 1)])) rfl rfl (hb hby y5_81)
  obtain ⟨z5u, z5v, z5w, z5x⟩ := getF zl hx hZ hown (host := "") (Or.inl (own_W hw 41 rfl)) Via.refl z5s zk (g := (mkF m 92 #[.val (.ref z0), .val (.int s1), .val (.double (Jvm.FP.l2d (x3.toInt64))), .second, .val (.long c3), .second, .val (.int s3), .val (.int 0), .val (.int 1), .unset, .unset, .unset] [(.ref z0), (.int 5)])) rfl rfl (hb hby y5_92)
  obtain ⟨_, _, ⟨z1i, L452, z7f, n452⟩, -, z9, ⟨Lc452, z32, l452, y452, z452⟩, z33⟩ := Jvm.LawKit.callS z5v hx (y := own_m9) hown (mvT hZ (own_W hw 59 rfl)) (mvT hZ (own_W hw 60 rfl)) (mvT hZ (own_W hw 61 rfl)) (mvT hZ (own_W hw 62 rfl)) (by decide) (backOf (W := 0) (rm1 l Z a0 hw [] zt n0 A K EN zu) hZ (own_W hw 62 rfl) (own_W hw 61 rfl) (by decide) (by decide)) (g := (mkF m 95 #[.val (.ref z0), .val (.int s1), .val (.double (Jvm.FP.l2d (x3.toInt64))), .second, .val (.long c3), .second, .val (.int s3), .val (.int 0), .val (.int 1), .unset, .unset, .unset] [(.int 2), (.int 5)])) rfl (by rw [hml]; rfl) (argsL := [(.int 5), (.int 2)]) (rest := []) (lenOf own_pd2 rfl) rfl (by show 2 * 0 + _ ≤ _; exact Nat.le_of_eq rfl) (hb hby y5_95) (fun _ _ => ⟨rfl, z5w, (by decide : 0 + 0 ≤ _), (by decide : 0 + 0 ≤ _)⟩)
  dsimp only [Pt.U, Pt.locs, Pt.cells, Pt.slots] at z9 l452 y452 z452 z33 z32
  replace z9 := own_sub z9 l452 y452 z452
  obtain ⟨rfl, z5y, z5z⟩ := z32
  have z60 := Fr.app z55 z5y
  obtain ⟨z34, zz, z35, z61⟩ := getF z9 hx hZ hown (host := "") (Or.inl (own_W hw 14 rfl)) Via.refl z5z zv (g := (mkF m 162 #[.val (.ref z0), .val (.int s1), .val (.double (Jvm.FP.l2d (x3.toInt64))), .second, .val (.long c3), .second, .val (.int s3), .val (.int 0), .val (.int 1), .val (.int 2), .val (.int 1), .val (.int 2)] [(.ref z0)])) rfl rfl (hb hby y5_162)
  obtain ⟨z36, z1j, z7g, z62, z7h, z63, z7i⟩ := (id z1b)
  have z37 : ¬ ((1 : Int32) < 0 ∨ z36.slots.size ≤ ((1 : Int32)).toNatClampNeg) := inb_of z62 ⟨by decide, by decide⟩
  have z64 : z36.slots[((1 : Int32)).toNatClampNeg]? = some (.double (Jvm.FP.l2d (x2.toInt64))) := Has.at z63 z37 rfl
  obtain ⟨z38, zn, z39, z65⟩ := getF zz hx hZ hown (host := "") (Or.inl (own_W hw 17 rfl)) Via.refl z35 zx (g := (mkF m 169 #[.val (.ref z0), .val (.int s1), .val (.double (Jvm.FP.l2d (x3.toInt64))), .second, .val (.long c3), .second, .val (.int s3), .val (.int 0), .val (.int 1), .val (.int 2), .val (.int 1), .val (.int 2)] [(.ref z0), (.double (Jvm.FP.l2d (x2.toInt64)))])) rfl rfl (hb hby y5_169)
  obtain ⟨z3a, z1k, z7j, z66, z7k, z67, z7l⟩ := (id z1d)
  have z3b : ¬ ((1 : Int32) < 0 ∨ z3a.slots.size ≤ ((1 : Int32)).toNatClampNeg) := inb_of z66 ⟨by decide, by decide⟩
  have z68 : z3a.slots[((1 : Int32)).toNatClampNeg]? = some (.long c2) := Has.at z67 z3b rfl
  obtain ⟨_, _, ⟨z3c, L457, z7m, n457⟩, -, zd, ⟨Lc457, z3d, l457, y457, z457⟩, z3e⟩ := Jvm.LawKit.callS zn hx (y := own_m8) hown (mvT hZ (own_W hw 63 rfl)) (mvT hZ (own_W hw 64 rfl)) (mvT hZ (own_W hw 6 rfl)) (mvT hZ (own_W hw 65 rfl)) (by decide) (backOf (W := 0) (rmIB l Z a0 hw [] zt n0 A K x2 x3 c2 c3 EN zu) hZ (own_W hw 65 rfl) (own_W hw 6 rfl) (by decide) (by decide)) (g := (mkF m 178 #[.val (.ref z0), .val (.int s1), .val (.double (Jvm.FP.l2d (x3.toInt64))), .second, .val (.long c3), .second, .val (.int s3), .val (.int 0), .val (.int 1), .val (.int 2), .val (.int 1), .val (.int 2)] [(.long c3), (.double (Jvm.FP.l2d (x3.toInt64))), (.long c2), (.double (Jvm.FP.l2d (x2.toInt64)))])) rfl (by rw [hml]; rfl) (argsL := [(.double (Jvm.FP.l2d (x2.toInt64))), (.long c2), (.double (Jvm.FP.l2d (x3.toInt64))), (.long c3)]) (rest := []) (lenOf own_pd3 rfl) rfl (by show 2 * 0 + _ ≤ _; exact Nat.le_of_eq rfl) (hb hby y5_178) (fun _ _ => ⟨rfl, z39, (by decide : 0 + 0 ≤ _), (by decide : 0 + 0 ≤ _)⟩)
  dsimp only [Pt.U, Pt.locs, Pt.cells, Pt.slots] at zd l457 y457 z457 z3e z3d
  replace zd := own_sub zd l457 y457 z457
  obtain ⟨rfl, z69, z3f⟩ := z3d
  have z6a := Fr.app z60 z69
  have z3g := (z2l.wr z7)
  obtain ⟨cq458, z6b, q458'⟩ := z3g.cell
  obtain ⟨_, _, ⟨z10, L458, z7n, n458⟩, -, zo, ⟨Lc458, z3h, l458, y458, z458⟩, z3i⟩ := zd.privateBack hx (y := own_m4) hown (mvT hZ (own_W hw 45 rfl)) (mvT hZ (own_W hw 46 rfl)) (own_selpS (y := own_m4) (mvT hZ (own_W hw 39 rfl)) rfl (mvP (args := #[]) hZ (own_W hw 47 rfl)) (mvT hZ (own_W hw 46 rfl)) (by decide)) (Cond.privateMethod_at (mvP hZ (own_W hw 47 rfl) (args := #[]))) (mvT hZ (own_W hw 48 rfl)) (by decide) (backOf (W := 0) (rmP0 l Z a0 hw [] zt n0 A K x1 x2 x3 c1 c2 c3 s1 s2 s3 x3 c3 s3 z0 z3 z4 z2 zp zq zr EN zu zv z1b zx z1d z1f z2z zb z3v zc z3w z3x z22 z23 z24) hZ (own_W hw 48 rfl) (own_W hw 6 rfl) (by decide) (by decide)) (g := (mkF m 218 #[.val (.ref z0), .val (.int s1), .val (.double (Jvm.FP.l2d (x3.toInt64))), .second, .val (.long c3), .second, .val (.int s3), .val (.int 0), .val (.int 1), .val (.int 2), .val (.int 1), .val (.int 2)] [(.int s3), (.long c3), (.double (Jvm.FP.l2d (x3.toInt64))), (.int 0), (.ref z0)])) rfl (by rw [hml]; rfl) (Steps.refl _) (a := z0) (by rw [z3f]; exact z6b) q458' (argsL := [(.int 0), (.double (Jvm.FP.l2d (x3.toInt64))), (.long c3), (.int s3)]) (rest := []) (lenOf own_pd0 rfl) rfl (by show 2 * 0 + _ ≤ _; exact Nat.le_of_eq rfl) (hb hby y5_218) (fun _ _ => ⟨rfl, z3f, (by decide : 0 + 0 ≤ _), (by decide : 0 + 0 ≤ _)⟩)
  dsimp only [Pt.U, Pt.locs, Pt.cells, Pt.slots] at zo l458 y458 z458 z3i z3h
  replace zo := own_sub zo l458 y458 z458
  obtain ⟨rfl, z6c, za, z6d, z6e, z6f⟩ := z3h
  have z6g := Fr.app z6a z6c
  have z7o := zu.keep za (allS z22 (allS z23 (allS z24 all0)))
  have z6h := z56.trans za (allS (own_Ix 5 rfl) (allS (own_Ix 4 rfl) (allS (own_Ix 3 rfl) all0)))
  have z6i := (z3g.keep za)
  have z6j := (zv.keep za (ninS zb (ninS zc (ninS zg nin0))))
  have z6k := (zx.keep za (ninS zb (ninS zc (ninS zg nin0))))
  have z6l := (z1f.keep za (ninS zb (ninS zc (ninS zg nin0))))
  have z6m := ((((z3r.other z5 (Or.inl ze)).other z6 (Or.inl zf)).other z7 (Or.inr (slot_ne (Or.inl (own_W hw 23 rfl)) (Or.inl (own_W hw 42 rfl)) (by decide) (t := (.array .int)) (t' := .int) (by decide) (by decide)))).keep za (ninS zb (ninS zc (ninS zg nin0))))
  have z6n := ((((z3s.other z5 (Or.inl ze)).other z6 (Or.inl zf)).other z7 (Or.inr (slot_ne (Or.inl (own_W hw 25 rfl)) (Or.inl (own_W hw 42 rfl)) (by decide) (t := (.array .int)) (t' := .int) (by decide) (by decide)))).keep za (ninS zb (ninS zc (ninS zg nin0))))
  have z6o := ((((z1q.other z5 (Or.inl ze)).other z6 (Or.inl zf)).other z7 (Or.inr (slot_ne (Or.inl (own_W hw 29 rfl)) (Or.inl (own_W hw 42 rfl)) (by decide) (t := (.array (.object y_s2))) (t' := .int) (by decide) (by decide)))).keep za (ninS zb (ninS zc (ninS zg nin0))))
  have z6p := (((z2a.other z6 (Or.inl zf)).other z7 (Or.inr (slot_ne (Or.inl (own_W hw 31 rfl)) (Or.inl (own_W hw 42 rfl)) (by decide) (t := (.array .int)) (t' := .int) (by decide) (by decide)))).keep za (ninS zb (ninS zc (ninS zg nin0))))
  have z6q := (zk.keep za (ninS zb (ninS zc (ninS zg nin0))))
  have z6r := ((((z3t.other z5 (Or.inl ze)).other z6 (Or.inl zf)).other z7 (Or.inr (slot_ne (Or.inl (own_W hw 44 rfl)) (Or.inl (own_W hw 42 rfl)) (by decide) (t := .long) (t' := .int) (by decide) (by decide)))).keep za (ninS zb (ninS zc (ninS zg nin0))))
  have z6s : own_AM Z z10.heap z8 zi (.object y_s2) := (((z4f.other z6 z1t).other z7 (Ne.symm ze)).keep za (ninS (Ne.symm z1u) (ninS (Ne.symm z1w) (ninS (Ne.symm z1s) nin0))))
  have z6t : own_AM Z z10.heap z1 zj .int := ((z4z.other z7 (Ne.symm zf)).keep za (ninS (Ne.symm z1v) (ninS (Ne.symm z1x) (ninS (Ne.symm z1y) nin0))))
  obtain ⟨fs, hr, hrun, hended, hW, hsame⟩ := zo.leave (v := none) (fun _ => rfl)
  refine ⟨_, _, pre0 _ ?_, hrun, hended, _, _, rfl, ?_, ⟨_, rfl⟩, hW, hsame.mono (by decide) (by decide)⟩
  · show Steps p.tables e below (s₁.setTop (mkF m 0 #[.val (.ref z0), .unset, .unset, .unset, .unset, .unset, .unset, .unset, .unset, .unset, .unset, .unset] [])) _
    refine XS.aloadN X0.here hx rfl (hb hby y5_0) rfl rfl ?_
    refine z3y _ ?_
    show Steps p.tables e below (z25.setTop (mkF m 4 #[.val (.ref z0), .unset, .unset, .unset, .unset, .unset, .unset, .unset, .unset, .unset, .unset, .unset] [(.ref z2)])) _
    refine XS.iconst zm.here hx rfl (hb hby y5_4) ?_
    refine zm.iaload hx (j := (0 : Int32)) (v := (.int s1)) (by rw [z26]; exact z13.1) (State.isArrayOf_alike hZ.alike z13.2.1) z13.2.2 z28 z41 (g := (mkF m 5 #[.val (.ref z0), .unset, .unset, .unset, .unset, .unset, .unset, .unset, .unset, .unset, .unset, .unset] [(.int 0), (.ref z2)])) rfl rfl (hb hby y5_5) _ ?_
    show Steps p.tables e below (z25.setTop (mkF m 6 #[.val (.ref z0), .unset, .unset, .unset, .unset, .unset, .unset, .unset, .unset, .unset, .unset, .unset] [(.int s1)])) _
    refine XS.istoreN zm.here hx rfl (hb hby y5_6) rfl (l' := #[.val (.ref z0), .val (.int s1), .unset, .unset, .unset, .unset, .unset, .unset, .unset, .unset, .unset, .unset]) rfl ?_
    refine XS.aloadN zm.here hx rfl (hb hby y5_7) rfl rfl ?_
    refine z44 _ ?_
    show Steps p.tables e below (z42.setTop (mkF m 11 #[.val (.ref z0), .val (.int s1), .unset, .unset, .unset, .unset, .unset, .unset, .unset, .unset, .unset, .unset] [(.ref z8)])) _
    refine XS.iloadN z14.here hx rfl (hb hby y5_11) rfl ?_
    refine XS.aconstNull z14.here hx rfl (hb hby y5_12) ?_
    refine z4b _ ?_
    show Steps p.tables e below (z49.setTop (mkF m 14 #[.val (.ref z0), .val (.int s1), .unset, .unset, .unset, .unset, .unset, .unset, .unset, .unset, .unset, .unset] [])) _
    refine XS.aloadN z15.here hx rfl (hb hby y5_14) rfl rfl ?_
    refine z4i _ ?_
    show Steps p.tables e below (z4g.setTop (mkF m 18 #[.val (.ref z0), .val (.int s1), .unset, .unset, .unset, .unset, .unset, .unset, .unset, .unset, .unset, .unset] [(.ref z1)])) _
    refine XS.aloadN z2b.here hx rfl (hb hby y5_18) rfl rfl ?_
    refine z4j _ ?_
    show Steps p.tables e below (z2d.setTop (mkF m 22 #[.val (.ref z0), .val (.int s1), .unset, .unset, .unset, .unset, .unset, .unset, .unset, .unset, .unset, .unset] [(.ref z2), (.ref z1)])) _
    refine z16.arraylength hx (by rw [z2e]; exact z2g.1) (State.isArrayOf_alike hZ.alike z2g.2.1) (g := (mkF m 22 #[.val (.ref z0), .val (.int s1), .unset, .unset, .unset, .unset, .unset, .unset, .unset, .unset, .unset, .unset] [(.ref z2), (.ref z1)])) rfl rfl (hb hby y5_22) _ ?_
    rw [len_of z4k z4l]
    show Steps p.tables e below (z2d.setTop (mkF m 23 #[.val (.ref z0), .val (.int s1), .unset, .unset, .unset, .unset, .unset, .unset, .unset, .unset, .unset, .unset] [(.int 16), (.ref z1)])) _
    refine XS.aloadN z16.here hx rfl (hb hby y5_23) rfl rfl ?_
    refine z4n _ ?_
    show Steps p.tables e below (z2i.setTop (mkF m 27 #[.val (.ref z0), .val (.int s1), .unset, .unset, .unset, .unset, .unset, .unset, .unset, .unset, .unset, .unset] [(.int 3), (.int 16), (.ref z1)])) _
    refine XS.isub z17.here hx rfl (hb hby y5_27) rfl ?_
    show Steps p.tables e below (z2i.setTop (mkF m 28 #[.val (.ref z0), .val (.int s1), .unset, .unset, .unset, .unset, .unset, .unset, .unset, .unset, .unset, .unset] [(.int 13), (.ref z1)])) _
    refine XS.iloadN z17.here hx rfl (hb hby y5_28) rfl ?_
    refine z4v _ ?_
    show Steps p.tables e below (z4s.setTop (mkF m 30 #[.val (.ref z0), .val (.int s1), .unset, .unset, .unset, .unset, .unset, .unset, .unset, .unset, .unset, .unset] [])) _
    refine XS.aloadN zs.here hx rfl (hb hby y5_30) rfl rfl ?_
    refine XS.dup zs.here hx rfl (hb hby y5_31) rfl rfl ?_
    refine z51 _ ?_
    show Steps p.tables e below (z2k.setTop (mkF m 35 #[.val (.ref z0), .val (.int s1), .unset, .unset, .unset, .unset, .unset, .unset, .unset, .unset, .unset, .unset] [(.int 3), (.ref z0)])) _
    refine XS.iconst z19.here hx rfl (hb hby y5_35) ?_
    refine XS.isub z19.here hx rfl (hb hby y5_36) rfl ?_
    show Steps p.tables e below (z2k.setTop (mkF m 37 #[.val (.ref z0), .val (.int s1), .unset, .unset, .unset, .unset, .unset, .unset, .unset, .unset, .unset, .unset] [(.int 2), (.ref z0)])) _
    refine z54 _ ?_
    show Steps p.tables e below (z52.setTop (mkF m 40 #[.val (.ref z0), .val (.int s1), .unset, .unset, .unset, .unset, .unset, .unset, .unset, .unset, .unset, .unset] [])) _
    refine XS.aloadN z1a.here hx rfl (hb hby y5_40) rfl rfl ?_
    refine z59 _ ?_
    show Steps p.tables e below (z57.setTop (mkF m 44 #[.val (.ref z0), .val (.int s1), .unset, .unset, .unset, .unset, .unset, .unset, .unset, .unset, .unset, .unset] [(.ref z3)])) _
    refine XS.aloadN z2m.here hx rfl (hb hby y5_44) rfl rfl ?_
    refine z5a _ ?_
    show Steps p.tables e below (z2n.setTop (mkF m 48 #[.val (.ref z0), .val (.int s1), .unset, .unset, .unset, .unset, .unset, .unset, .unset, .unset, .unset, .unset] [(.int 2), (.ref z3)])) _
    refine zw.daload hx (j := (2 : Int32)) (v := (.double (Jvm.FP.l2d (x3.toInt64)))) (by rw [z2o]; exact z1c.1) (State.isArrayOf_alike hZ.alike z1c.2.1) z1c.2.2 z2q z5d (g := (mkF m 48 #[.val (.ref z0), .val (.int s1), .unset, .unset, .unset, .unset, .unset, .unset, .unset, .unset, .unset, .unset] [(.int 2), (.ref z3)])) rfl rfl (hb hby y5_48) _ ?_
    show Steps p.tables e below (z2n.setTop (mkF m 49 #[.val (.ref z0), .val (.int s1), .unset, .unset, .unset, .unset, .unset, .unset, .unset, .unset, .unset, .unset] [(.double (Jvm.FP.l2d (x3.toInt64)))])) _
    refine XS.dstoreN zw.here hx rfl (hb hby y5_49) rfl (l' := #[.val (.ref z0), .val (.int s1), .val (.double (Jvm.FP.l2d (x3.toInt64))), .second, .unset, .unset, .unset, .unset, .unset, .unset, .unset, .unset]) rfl ?_
    refine XS.aloadN zw.here hx rfl (hb hby y5_50) rfl rfl ?_
    refine z5g _ ?_
    show Steps p.tables e below (z5e.setTop (mkF m 54 #[.val (.ref z0), .val (.int s1), .val (.double (Jvm.FP.l2d (x3.toInt64))), .second, .unset, .unset, .unset, .unset, .unset, .unset, .unset, .unset] [(.ref z4)])) _
    refine XS.aloadN z2r.here hx rfl (hb hby y5_54) rfl rfl ?_
    refine z5h _ ?_
    show Steps p.tables e below (z2s.setTop (mkF m 58 #[.val (.ref z0), .val (.int s1), .val (.double (Jvm.FP.l2d (x3.toInt64))), .second, .unset, .unset, .unset, .unset, .unset, .unset, .unset, .unset] [(.int 2), (.ref z4)])) _
    refine zy.laload hx (j := (2 : Int32)) (v := (.long c3)) (by rw [z2t]; exact z1e.1) (State.isArrayOf_alike hZ.alike z1e.2.1) z1e.2.2 z2v z5k (g := (mkF m 58 #[.val (.ref z0), .val (.int s1), .val (.double (Jvm.FP.l2d (x3.toInt64))), .second, .unset, .unset, .unset, .unset, .unset, .unset, .unset, .unset] [(.int 2), (.ref z4)])) rfl rfl (hb hby y5_58) _ ?_
    show Steps p.tables e below (z2s.setTop (mkF m 59 #[.val (.ref z0), .val (.int s1), .val (.double (Jvm.FP.l2d (x3.toInt64))), .second, .unset, .unset, .unset, .unset, .unset, .unset, .unset, .unset] [(.long c3)])) _
    refine XS.lstore zy.here hx rfl (hb hby y5_59) rfl (l' := #[.val (.ref z0), .val (.int s1), .val (.double (Jvm.FP.l2d (x3.toInt64))), .second, .val (.long c3), .second, .unset, .unset, .unset, .unset, .unset, .unset]) rfl ?_
    refine XS.aloadN zy.here hx rfl (hb hby y5_61) rfl rfl ?_
    refine z5n _ ?_
    show Steps p.tables e below (z5l.setTop (mkF m 65 #[.val (.ref z0), .val (.int s1), .val (.double (Jvm.FP.l2d (x3.toInt64))), .second, .val (.long c3), .second, .unset, .unset, .unset, .unset, .unset, .unset] [(.ref z2)])) _
    refine XS.aloadN z2w.here hx rfl (hb hby y5_65) rfl rfl ?_
    refine z5o _ ?_
    show Steps p.tables e below (z2x.setTop (mkF m 69 #[.val (.ref z0), .val (.int s1), .val (.double (Jvm.FP.l2d (x3.toInt64))), .second, .val (.long c3), .second, .unset, .unset, .unset, .unset, .unset, .unset] [(.int 2), (.ref z2)])) _
    refine zh.iaload hx (j := (2 : Int32)) (v := (.int s3)) (by rw [z2y]; exact z1g.1) (State.isArrayOf_alike hZ.alike z1g.2.1) z1g.2.2 z31 z5r (g := (mkF m 69 #[.val (.ref z0), .val (.int s1), .val (.double (Jvm.FP.l2d (x3.toInt64))), .second, .val (.long c3), .second, .unset, .unset, .unset, .unset, .unset, .unset] [(.int 2), (.ref z2)])) rfl rfl (hb hby y5_69) _ ?_
    show Steps p.tables e below (z2x.setTop (mkF m 70 #[.val (.ref z0), .val (.int s1), .val (.double (Jvm.FP.l2d (x3.toInt64))), .second, .val (.long c3), .second, .unset, .unset, .unset, .unset, .unset, .unset] [(.int s3)])) _
    refine XS.istore zh.here hx rfl (hb hby y5_70) rfl (l' := #[.val (.ref z0), .val (.int s1), .val (.double (Jvm.FP.l2d (x3.toInt64))), .second, .val (.long c3), .second, .val (.int s3), .unset, .unset, .unset, .unset, .unset]) rfl ?_
    refine XS.iconst zh.here hx rfl (hb hby y5_72) ?_
    refine XS.istore zh.here hx rfl (hb hby y5_73) rfl (l' := #[.val (.ref z0), .val (.int s1), .val (.double (Jvm.FP.l2d (x3.toInt64))), .second, .val (.long c3), .second, .val (.int s3), .val (.int 0), .unset, .unset, .unset, .unset]) rfl ?_
    refine XS.iconst zh.here hx rfl (hb hby y5_75) ?_
    refine XS.istore zh.here hx rfl (hb hby y5_76) rfl (l' := #[.val (.ref z0), .val (.int s1), .val (.double (Jvm.FP.l2d (x3.toInt64))), .second, .val (.long c3), .second, .val (.int s3), .val (.int 0), .val (.int 1), .unset, .unset, .unset]) rfl ?_
    refine XS.iload zh.here hx rfl (hb hby y5_78) rfl ?_
    refine XS.aloadN zh.here hx rfl (hb hby y5_80) rfl rfl ?_
    refine z5t _ ?_
    show Steps p.tables e below (z1h.setTop (mkF m 84 #[.val (.ref z0), .val (.int s1), .val (.double (Jvm.FP.l2d (x3.toInt64))), .second, .val (.long c3), .second, .val (.int s3), .val (.int 0), .val (.int 1), .unset, .unset, .unset] [(.int 2), (.int 1)])) _
    refine XS.icmpNo zl.here hx rfl (hb hby y5_84) rfl (tlt (by decide : (1 : Int32) < (2 : Int32))).2.1 ?_
    show Steps p.tables e below (z1h.setTop (mkF m 87 #[.val (.ref z0), .val (.int s1), .val (.double (Jvm.FP.l2d (x3.toInt64))), .second, .val (.long c3), .second, .val (.int s3), .val (.int 0), .val (.int 1), .unset, .unset, .unset] [])) _
    refine XS.iload zl.here hx rfl (hb hby y5_87) rfl ?_
    refine XS.iconst zl.here hx rfl (hb hby y5_89) ?_
    refine XS.iadd zl.here hx rfl (hb hby y5_90) rfl ?_
    show Steps p.tables e below (z1h.setTop (mkF m 91 #[.val (.ref z0), .val (.int s1), .val (.double (Jvm.FP.l2d (x3.toInt64))), .second, .val (.long c3), .second, .val (.int s3), .val (.int 0), .val (.int 1), .unset, .unset, .unset] [(.int 5)])) _
    refine XS.aloadN zl.here hx rfl (hb hby y5_91) rfl rfl ?_
    refine z5x _ ?_
    show Steps p.tables e below (z5u.setTop (mkF m 95 #[.val (.ref z0), .val (.int s1), .val (.double (Jvm.FP.l2d (x3.toInt64))), .second, .val (.long c3), .second, .val (.int s3), .val (.int 0), .val (.int 1), .unset, .unset, .unset] [(.int 2), (.int 5)])) _
    refine z33 _ ?_
    show Steps p.tables e below (z1i.setTop (mkF m 98 #[.val (.ref z0), .val (.int s1), .val (.double (Jvm.FP.l2d (x3.toInt64))), .second, .val (.long c3), .second, .val (.int s3), .val (.int 0), .val (.int 1), .unset, .unset, .unset] [(.int 2)])) _
    refine XS.istore z9.here hx rfl (hb hby y5_98) rfl (l' := #[.val (.ref z0), .val (.int s1), .val (.double (Jvm.FP.l2d (x3.toInt64))), .second, .val (.long c3), .second, .val (.int s3), .val (.int 0), .val (.int 1), .val (.int 2), .unset, .unset]) rfl ?_
    refine XS.iload z9.here hx rfl (hb hby y5_100) rfl ?_
    refine XS.istore z9.here hx rfl (hb hby y5_102) rfl (l' := #[.val (.ref z0), .val (.int s1), .val (.double (Jvm.FP.l2d (x3.toInt64))), .second, .val (.long c3), .second, .val (.int s3), .val (.int 0), .val (.int 1), .val (.int 2), .val (.int 1), .unset]) rfl ?_
    refine XS.iload z9.here hx rfl (hb hby y5_104) rfl ?_
    refine XS.iconst z9.here hx rfl (hb hby y5_106) ?_
    refine XS.iadd z9.here hx rfl (hb hby y5_107) rfl ?_
    show Steps p.tables e below (z1i.setTop (mkF m 108 #[.val (.ref z0), .val (.int s1), .val (.double (Jvm.FP.l2d (x3.toInt64))), .second, .val (.long c3), .second, .val (.int s3), .val (.int 0), .val (.int 1), .val (.int 2), .val (.int 1), .unset] [(.int 2)])) _
    refine XS.istore z9.here hx rfl (hb hby y5_108) rfl (l' := #[.val (.ref z0), .val (.int s1), .val (.double (Jvm.FP.l2d (x3.toInt64))), .second, .val (.long c3), .second, .val (.int s3), .val (.int 0), .val (.int 1), .val (.int 2), .val (.int 1), .val (.int 2)]) rfl ?_
    refine XS.iload z9.here hx rfl (hb hby y5_110) rfl ?_
    refine XS.iload z9.here hx rfl (hb hby y5_112) rfl ?_
    refine XS.icmpYes z9.here hx rfl (pc0 := 114) (pc' := 161) rfl (hb hby y5_114) rfl (flt (by decide : ¬ ((2 : Int32) < (2 : Int32)))).2.1 (by decide) (by decide) ?_
    show Steps p.tables e below (z1i.setTop (mkF m 161 #[.val (.ref z0), .val (.int s1), .val (.double (Jvm.FP.l2d (x3.toInt64))), .second, .val (.long c3), .second, .val (.int s3), .val (.int 0), .val (.int 1), .val (.int 2), .val (.int 1), .val (.int 2)] [])) _
    refine XS.aloadN z9.here hx rfl (hb hby y5_161) rfl rfl ?_
    refine z61 _ ?_
    show Steps p.tables e below (z34.setTop (mkF m 165 #[.val (.ref z0), .val (.int s1), .val (.double (Jvm.FP.l2d (x3.toInt64))), .second, .val (.long c3), .second, .val (.int s3), .val (.int 0), .val (.int 1), .val (.int 2), .val (.int 1), .val (.int 2)] [(.ref z3)])) _
    refine XS.iload zz.here hx rfl (hb hby y5_165) rfl ?_
    refine zz.daload hx (j := (1 : Int32)) (v := (.double (Jvm.FP.l2d (x2.toInt64)))) (by rw [z35]; exact z1j.1) (State.isArrayOf_alike hZ.alike z1j.2.1) z1j.2.2 z37 z64 (g := (mkF m 167 #[.val (.ref z0), .val (.int s1), .val (.double (Jvm.FP.l2d (x3.toInt64))), .second, .val (.long c3), .second, .val (.int s3), .val (.int 0), .val (.int 1), .val (.int 2), .val (.int 1), .val (.int 2)] [(.int 1), (.ref z3)])) rfl rfl (hb hby y5_167) _ ?_
    show Steps p.tables e below (z34.setTop (mkF m 168 #[.val (.ref z0), .val (.int s1), .val (.double (Jvm.FP.l2d (x3.toInt64))), .second, .val (.long c3), .second, .val (.int s3), .val (.int 0), .val (.int 1), .val (.int 2), .val (.int 1), .val (.int 2)] [(.double (Jvm.FP.l2d (x2.toInt64)))])) _
    refine XS.aloadN zz.here hx rfl (hb hby y5_168) rfl rfl ?_
    refine z65 _ ?_
    show Steps p.tables e below (z38.setTop (mkF m 172 #[.val (.ref z0), .val (.int s1), .val (.double (Jvm.FP.l2d (x3.toInt64))), .second, .val (.long c3), .second, .val (.int s3), .val (.int 0), .val (.int 1), .val (.int 2), .val (.int 1), .val (.int 2)] [(.ref z4), (.double (Jvm.FP.l2d (x2.toInt64)))])) _
    refine XS.iload zn.here hx rfl (hb hby y5_172) rfl ?_
    refine zn.laload hx (j := (1 : Int32)) (v := (.long c2)) (by rw [z39]; exact z1k.1) (State.isArrayOf_alike hZ.alike z1k.2.1) z1k.2.2 z3b z68 (g := (mkF m 174 #[.val (.ref z0), .val (.int s1), .val (.double (Jvm.FP.l2d (x3.toInt64))), .second, .val (.long c3), .second, .val (.int s3), .val (.int 0), .val (.int 1), .val (.int 2), .val (.int 1), .val (.int 2)] [(.int 1), (.ref z4), (.double (Jvm.FP.l2d (x2.toInt64)))])) rfl rfl (hb hby y5_174) _ ?_
    show Steps p.tables e below (z38.setTop (mkF m 175 #[.val (.ref z0), .val (.int s1), .val (.double (Jvm.FP.l2d (x3.toInt64))), .second, .val (.long c3), .second, .val (.int s3), .val (.int 0), .val (.int 1), .val (.int 2), .val (.int 1), .val (.int 2)] [(.long c2), (.double (Jvm.FP.l2d (x2.toInt64)))])) _
    refine XS.dloadN zn.here hx rfl (hb hby y5_175) rfl ?_
    refine XS.lload zn.here hx rfl (hb hby y5_176) rfl ?_
    refine z3e _ ?_
    show Steps p.tables e below (z3c.setTop (mkF m 181 #[.val (.ref z0), .val (.int s1), .val (.double (Jvm.FP.l2d (x3.toInt64))), .second, .val (.long c3), .second, .val (.int s3), .val (.int 0), .val (.int 1), .val (.int 2), .val (.int 1), .val (.int 2)] [(.int (own_f_rmIB x2 x3 c2 c3))])) _
    refine XS.ifNo zd.here hx rfl (hb hby y5_181) rfl ((if0 _ _).trans (teq hb_).2) ?_
    show Steps p.tables e below (z3c.setTop (mkF m 184 #[.val (.ref z0), .val (.int s1), .val (.double (Jvm.FP.l2d (x3.toInt64))), .second, .val (.long c3), .second, .val (.int s3), .val (.int 0), .val (.int 1), .val (.int 2), .val (.int 1), .val (.int 2)] [])) _
    refine XS.goto zd.here hx rfl (pc0 := 184) (pc' := 210) rfl (hb hby y5_184) (by decide) (by decide) ?_
    refine XS.aloadN zd.here hx rfl (hb hby y5_210) rfl rfl ?_
    refine XS.iload zd.here hx rfl (hb hby y5_211) rfl ?_
    refine XS.dloadN zd.here hx rfl (hb hby y5_213) rfl ?_
    refine XS.lload zd.here hx rfl (hb hby y5_214) rfl ?_
    refine XS.iload zd.here hx rfl (hb hby y5_216) rfl ?_
    refine z3i.trans ?_
    show Steps p.tables e below (z10.setTop (mkF m 221 #[.val (.ref z0), .val (.int s1), .val (.double (Jvm.FP.l2d (x3.toInt64))), .second, .val (.long c3), .second, .val (.int s3), .val (.int 0), .val (.int 1), .val (.int 2), .val (.int 1), .val (.int 2)] [])) _
    exact zo.returnOut hx Bd.returns (hb hby y5_221) hr
  · show Q_rmR3n Z A K x1 x2 x3 c1 c2 c3 s1 s2 s3 z1l z1m z1n t1 t2 t3 ga z0 z3 z4 z2 z11 z12 z8 z1 zp zq zr zi zj h0 n0 _ z10.heap _
    exact ⟨rfl, z6g, z6h, z6i, z6j, z6k, z6l, z6m, z6n, z6o, z6p, z6q, z6r, z6d, z6e, z6f, z6s, z3u, z6t⟩
def Q_rmR2 (Z : State) (A : Nat → Addr) (K : Nat → ClassId) (x1 : Int32) (x2 : Int32) (x3 : Int32) (c1 : Int64) (c2 : Int64) (c3 : Int64) (s1 : Int32) (s2 : Int32) (s3 : Int32) (zd : Int32) (ze : Int32) (zf : Int32) (t1 : Int32) (t2 : Int32) (t3 : Int32) (ga : Int64) (z0 : Addr) (z1 : Addr) (z2 : Addr) (z3 : Addr) (z7 : Addr) (z8 : Addr) (z4 : Addr) (z5 : Addr) (z9 : ClassId) (za : ClassId) (zb : ClassId) (z6 : ClassId) (zc : ClassId) (h0 : Heap) (n0 : Nat) (v : Option Value) (h : Heap) (L : List Loc) : Prop := v = none ∧ Fr n0 L ∧ Keep h0 h [z4, z5, z0, z3, z2, z1] ∧ (Exa Z h z0 y_s0) ∧ (Fld Z h z0 y_s0 "at" "[D" (.ref z1)) ∧ (Fld Z h z0 y_s0 "added" "[J" (.ref z2)) ∧ (Fld Z h z0 y_s0 "slot" "[I" (.ref z3)) ∧ (Fld Z h z0 y_s0 "from" "[I" (.ref z7)) ∧ (Fld Z h z0 y_s0 "to" "[I" (.ref z8)) ∧ (Fld Z h z0 y_s0 "message" y_s1 (.ref z4)) ∧ (Fld Z h z0 y_s0 "free" "[I" (.ref z5)) ∧ (Fld Z h z0 y_s0 "size" "I" (.int 1)) ∧ (Fld Z h z0 y_s0 "additions" "J" (.long ga)) ∧ (Arv Z h z1 z9 .double (16 : Int32) [(.double (Jvm.FP.l2d (x2.toInt64))), (.double (Jvm.FP.l2d (x2.toInt64))), (.double (Jvm.FP.l2d (x3.toInt64)))] (.double (Jvm.FP.l2d ((0 : Int32).toInt64)))) ∧ (Arv Z h z2 za .long (16 : Int32) [(.long c2), (.long c2), (.long c3)] (.long 0)) ∧ (Arv Z h z3 zb .int 16 [(.int s2), (.int s2), (.int s3)] (.int 0)) ∧ (own_AM Z h z4 z6 (.object y_s2)) ∧ (Ovr Z z6 y_s2) ∧ (own_AM Z h z5 zc .int)
set_option maxRecDepth 65536 in
set_option maxHeartbeats 40000000 in
theorem rmR2 (l : Launch) (Z : State) (a0 : Array Value) (hw : ∀ d ∈ tables_1, d.before a0 Z = true) (ws : List Jvm.Cond) (h0 : Heap) (n0 : Nat) (A : Nat → Addr) (K : Nat → ClassId) (x1 : Int32) (x2 : Int32) (x3 : Int32) (c1 : Int64) (c2 : Int64) (c3 : Int64) (s1 : Int32) (s2 : Int32) (s3 : Int32) (z19 : Int32) (z1a : Int32) (z1b : Int32) (t1 : Int32) (t2 : Int32) (t3 : Int32) (ga : Int64)  (z0 : Addr) (z6 : Addr) (z7 : Addr) (z2 : Addr) (zt : Addr) (zu : Addr) (z8 : Addr) (z1 : Addr) (zm : ClassId) (zn : ClassId) (zo : ClassId) (zh : ClassId) (zi : ClassId) (EN : own_St Z A K) (OL0 : Old Z n0 h0) (z1c : Fld Z h0 z0 y_s0 "slot" "[I" (.ref z2)) (z1d : Arv Z h0 z2 zo .int 16 [(.int s1), (.int s2), (.int s3)] (.int 0)) (z1e : Fld Z h0 z0 y_s0 "message" y_s1 (.ref z8)) (z1f : own_AM Z h0 z8 zh (.object y_s2)) (z2z : Fld Z h0 z0 y_s0 "free" "[I" (.ref z1)) (z30 : Fld Z h0 z0 y_s0 "size" "I" (.int 2)) (z31 : own_AM Z h0 z1 zi .int) (z32 : Exa Z h0 z0 y_s0) (z33 : Fld Z h0 z0 y_s0 "at" "[D" (.ref z6)) (z34 : Arv Z h0 z6 zm .double (16 : Int32) [(.double (Jvm.FP.l2d (x1.toInt64))), (.double (Jvm.FP.l2d (x2.toInt64))), (.double (Jvm.FP.l2d (x3.toInt64)))] (.double (Jvm.FP.l2d ((0 : Int32).toInt64)))) (z35 : Fld Z h0 z0 y_s0 "added" "[J" (.ref z7)) (z36 : Arv Z h0 z7 zn .long (16 : Int32) [(.long c1), (.long c2), (.long c3)] (.long 0)) (z37 : Fld Z h0 z0 y_s0 "from" "[I" (.ref zt)) (z38 : Fld Z h0 z0 y_s0 "to" "[I" (.ref zu)) (z39 : Fld Z h0 z0 y_s0 "additions" "J" (.long ga)) (z3a : Ovr Z zh y_s2) (hs0 : ¬ (s1 < (0 : Int32))) (hs1 : s1 < (16 : Int32)) (zc : z0 ≠ z8) (z1g : z2 ≠ z8) (z1h : z8 ≠ z1) (zd : z0 ≠ z1) (z1i : z6 ≠ z8) (z1j : z6 ≠ z1) (za : z0 ≠ z6) (z1k : z7 ≠ z8) (z1l : z7 ≠ z1) (zb : z0 ≠ z7) (z1m : z2 ≠ z1) (ze : z0 ≠ z2) (z3b : z6 ≠ z7) (z3c : z6 ≠ z2) (z3d : z7 ≠ z2) (z1n : n0 ≤ z8) (z1o : n0 ≤ z1) (z1p : n0 ≤ z0) (z1q : n0 ≤ z6) (z1r : n0 ≤ z7) (z1s : n0 ≤ z2) :
    MetFree l own_m3 (head1 (Jvm.Cond.code own_m3 prog_48_method_8_code 12 none :: ws) (Room.mk 1 0 0 18)) (fun a U => a = #[(.ref z0)] ∧ Z.Warmed39 U.vm ∧ U.heap = h0) (fun _ _ _ _ _ => True) (fun _ U o U' => ∃ v L, o = .returned v ∧ Q_rmR2 Z A K x1 x2 x3 c1 c2 c3 s1 s2 s3 z19 z1a z1b t1 t2 t3 ga z0 z6 z7 z2 zt zu z8 z1 zm zn zo zh zi h0 n0 v U'.heap L ∧ FrameEnd U o U' L (Room.mk 1 0 0 18).cells (Room.mk 1 0 0 18).slots) := by
  refine MetFree.of_bodySF (plainFor_of_name own_pn0) hisR ?_
  intro p e s m args below meth c s₁ Bd hml0 hP hK
  obtain ⟨rfl, hZ, hh⟩ := hP
  have hx := Bd.exec
  have hby := Bd.bytes
  have hml : c.maxLocals = 12 := hml0
  have hown : s.vm.findClass y_s0 = some m.cls := findClass_of_methodNamed Bd.named
  have hnm := (name_of_methodNamed Bd.named Bd.method).1
  have X0 : Stand p l e (Room.mk 1 0 0 18) s m #[(.ref z0)] below meth c s₁ [] 0 0 := Stand.of_body Bd
  have e0 : s₁.heap = h0 := by rw [← hh, Bd.state]; rfl
  have N0 := Fr.nil n0
  have pre0 : ∀ t, Steps p.tables e below (s₁.setTop (mkF m 0 #[.val (.ref z0), .unset, .unset, .unset, .unset, .unset, .unset, .unset, .unset, .unset, .unset, .unset] [])) t → Steps p.tables e below (s₁.setTop (entryFrame m #[(.ref z0)] 12)) t := fun t k => castTop (by first | (simp [entryFrame, mkF, argsToLocals, Value.category, maxLocals]; done) | rfl) k
  have KK0 : Keep h0 h0 [z8, z1, z0, z2, z7, z6] := Keep.refl _ _
  obtain ⟨z1t, zj, z1u, z3e⟩ := getF X0 hx hZ hown (host := "") (Or.inl (own_W hw 20 rfl)) Via.refl e0 z1c (g := (mkF m 1 #[.val (.ref z0), .unset, .unset, .unset, .unset, .unset, .unset, .unset, .unset, .unset, .unset, .unset] [(.ref z0)])) rfl rfl (hb hby y5_1)
  obtain ⟨z1v, zv, z5s, z3f, z5t, z3g, z5u⟩ := (id z1d)
  have z1w : ¬ ((0 : Int32) < 0 ∨ z1v.slots.size ≤ ((0 : Int32)).toNatClampNeg) := inb_of z3f ⟨by decide, by decide⟩
  have z3h : z1v.slots[((0 : Int32)).toNatClampNeg]? = some (.int s1) := Has.at z3g z1w rfl
  obtain ⟨z3i, zw, z3j, z3k⟩ := getF zj hx hZ hown (host := "") (Or.inl (own_W hw 28 rfl)) Via.refl z1u z1e (g := (mkF m 8 #[.val (.ref z0), .val (.int s1), .unset, .unset, .unset, .unset, .unset, .unset, .unset, .unset, .unset, .unset] [(.ref z0)])) rfl rfl (hb hby y5_8)
  obtain ⟨vs475, dv475, z3l, z3m, z5v, z3n, z5w, z5x, z5y⟩ := (id z1f)
  have z3o : ¬ (s1 < 0 ∨ z3l.slots.size ≤ (s1).toNatClampNeg) := inb_of z3n ⟨hs0, hs1⟩
  obtain ⟨z3p, z1x, zx, z3q, z3, z3r⟩ := stR zw hx hZ z3j z3m (j := s1) z3o rfl (Or.inl rfl) (g := (mkF m 13 #[.val (.ref z0), .val (.int s1), .unset, .unset, .unset, .unset, .unset, .unset, .unset, .unset, .unset, .unset] [.null, (.int s1), (.ref z8)])) rfl rfl (hb hby y5_13)
  have z3s := Fr.snoc zx N0 z1n
  have z3t := OL0.wr z3 z1n
  have z3u := KK0.wr z3 (own_Ix 0 rfl)
  have z3v : own_AM Z z1x z8 zh (.object y_s2) := own_AM.set z1f rfl z3
  have z1y := (z2z.other z3 (Or.inl zc))
  obtain ⟨z3w, z1z, z3x, z3y⟩ := getF zx hx hZ hown (host := "") (Or.inl (own_W hw 30 rfl)) Via.refl z3q z1y (g := (mkF m 15 #[.val (.ref z0), .val (.int s1), .unset, .unset, .unset, .unset, .unset, .unset, .unset, .unset, .unset, .unset] [(.ref z0)])) rfl rfl (hb hby y5_15)
  have z20 := (z1c.other z3 (Or.inl zc))
  obtain ⟨z21, zy, z22, z3z⟩ := getF z1z hx hZ hown (host := "") (Or.inl (own_W hw 20 rfl)) Via.refl z3x z20 (g := (mkF m 19 #[.val (.ref z0), .val (.int s1), .unset, .unset, .unset, .unset, .unset, .unset, .unset, .unset, .unset, .unset] [(.ref z0), (.ref z1)])) rfl rfl (hb hby y5_19)
  have z23 := (z1d.other z3 z1g)
  obtain ⟨z5z, z24, -, z40, z41, -, -⟩ := (id z23)
  have z25 := (z30.other z3 (Or.inl zc))
  obtain ⟨z26, zz, z42, z43⟩ := getF zy hx hZ hown (host := "") (Or.inl (own_W hw 41 rfl)) Via.refl z22 z25 (g := (mkF m 24 #[.val (.ref z0), .val (.int s1), .unset, .unset, .unset, .unset, .unset, .unset, .unset, .unset, .unset, .unset] [(.ref z0), (.int 16), (.ref z1)])) rfl rfl (hb hby y5_24)
  have z27 : own_AM Z z1x z1 zi .int := (z31.other z3 (Ne.symm z1h))
  obtain ⟨vs486, dv486, z44, z45, z60, z46, z61, z62, z63⟩ := (id z27)
  have z47 : ¬ ((14 : Int32) < 0 ∨ z44.slots.size ≤ ((14 : Int32)).toNatClampNeg) := inb_of z46 ⟨by decide, by decide⟩
  obtain ⟨z48, z49, zp, z4a, z4, z4b⟩ := stI zz hx hZ z42 z45 (j := (14 : Int32)) z47 (g := (mkF m 29 #[.val (.ref z0), .val (.int s1), .unset, .unset, .unset, .unset, .unset, .unset, .unset, .unset, .unset, .unset] [(.int s1), (.int 14), (.ref z1)])) rfl rfl (hb hby y5_29)
  have z4c := Fr.snoc zp z3s z1o
  have z4d := z3t.wr z4 z1o
  have z4e := z3u.wr z4 (own_Ix 1 rfl)
  have z4f : own_AM Z z49 z1 zi .int := own_AM.set z27 rfl z4
  have z10 := (z25.other z4 (Or.inl zd))
  obtain ⟨z28, z11, z4g, z4h⟩ := getF zp hx hZ hown (host := "") (Or.inl (own_W hw 41 rfl)) Via.refl z4a z10 (g := (mkF m 32 #[.val (.ref z0), .val (.int s1), .unset, .unset, .unset, .unset, .unset, .unset, .unset, .unset, .unset, .unset] [(.ref z0), (.ref z0)])) rfl rfl (hb hby y5_32)
  have z29 := ((z32.wr z3).wr z4)
  obtain ⟨z4i, z2a, z12, z4j, z5, z4k⟩ := putF z11 hx hZ hown (host := "") (Or.inl (own_W hw 41 rfl)) Via.refl z4g z10 z29 (Or.inl (own_W hw 42 rfl)) (own_W hw 5 rfl) (ty := .int) (by decide) rfl rfl (g := (mkF m 37 #[.val (.ref z0), .val (.int s1), .unset, .unset, .unset, .unset, .unset, .unset, .unset, .unset, .unset, .unset] [(.int 1), (.ref z0)])) rfl rfl (hb hby y5_37)
  have z4l := Fr.snoc z12 z4c z1p
  have z2b := z4d.wr z5 z1p
  have z4m := z4e.wr z5 (own_Ix 2 rfl)
  have zk : Fld Z z2a z0 y_s0 "size" "I" (.int 1) := z10.same z5
  have z13 := (((z33.other z3 (Or.inl zc)).other z4 (Or.inl zd)).other z5 (Or.inr (slot_ne (Or.inl (own_W hw 15 rfl)) (Or.inl (own_W hw 42 rfl)) (by decide) (t := (.array .double)) (t' := .int) (by decide) (by decide))))
  obtain ⟨z4n, z2c, z4o, z4p⟩ := getF z12 hx hZ hown (host := "") (Or.inl (own_W hw 14 rfl)) Via.refl z4j z13 (g := (mkF m 41 #[.val (.ref z0), .val (.int s1), .unset, .unset, .unset, .unset, .unset, .unset, .unset, .unset, .unset, .unset] [(.ref z0)])) rfl rfl (hb hby y5_41)
  obtain ⟨z2d, zq, z2e, z4q⟩ := getF z2c hx hZ hown (host := "") (Or.inl (own_W hw 41 rfl)) Via.refl z4o zk (g := (mkF m 45 #[.val (.ref z0), .val (.int s1), .unset, .unset, .unset, .unset, .unset, .unset, .unset, .unset, .unset, .unset] [(.ref z0), (.ref z6)])) rfl rfl (hb hby y5_45)
  have z2f := (((z34.other z3 z1i).other z4 z1j).other z5 (Ne.symm za))
  obtain ⟨z2g, z14, z64, z4r, z65, z4s, z66⟩ := (id z2f)
  have z2h : ¬ ((1 : Int32) < 0 ∨ z2g.slots.size ≤ ((1 : Int32)).toNatClampNeg) := inb_of z4r ⟨by decide, by decide⟩
  have z4t : z2g.slots[((1 : Int32)).toNatClampNeg]? = some (.double (Jvm.FP.l2d (x2.toInt64))) := Has.at z4s z2h rfl
  have z15 := (((z35.other z3 (Or.inl zc)).other z4 (Or.inl zd)).other z5 (Or.inr (slot_ne (Or.inl (own_W hw 18 rfl)) (Or.inl (own_W hw 42 rfl)) (by decide) (t := (.array .long)) (t' := .int) (by decide) (by decide))))
  obtain ⟨z4u, z2i, z4v, z4w⟩ := getF zq hx hZ hown (host := "") (Or.inl (own_W hw 17 rfl)) Via.refl z2e z15 (g := (mkF m 51 #[.val (.ref z0), .val (.int s1), .val (.double (Jvm.FP.l2d (x2.toInt64))), .second, .unset, .unset, .unset, .unset, .unset, .unset, .unset, .unset] [(.ref z0)])) rfl rfl (hb hby y5_51)
  obtain ⟨z2j, zr, z2k, z4x⟩ := getF z2i hx hZ hown (host := "") (Or.inl (own_W hw 41 rfl)) Via.refl z4v zk (g := (mkF m 55 #[.val (.ref z0), .val (.int s1), .val (.double (Jvm.FP.l2d (x2.toInt64))), .second, .unset, .unset, .unset, .unset, .unset, .unset, .unset, .unset] [(.ref z0), (.ref z7)])) rfl rfl (hb hby y5_55)
  have z2l := (((z36.other z3 z1k).other z4 z1l).other z5 (Ne.symm zb))
  obtain ⟨z2m, z16, z67, z4y, z68, z4z, z69⟩ := (id z2l)
  have z2n : ¬ ((1 : Int32) < 0 ∨ z2m.slots.size ≤ ((1 : Int32)).toNatClampNeg) := inb_of z4y ⟨by decide, by decide⟩
  have z50 : z2m.slots[((1 : Int32)).toNatClampNeg]? = some (.long c2) := Has.at z4z z2n rfl
  have z17 := ((z20.other z4 (Or.inl zd)).other z5 (Or.inr (slot_ne (Or.inl (own_W hw 21 rfl)) (Or.inl (own_W hw 42 rfl)) (by decide) (t := (.array .int)) (t' := .int) (by decide) (by decide))))
  obtain ⟨z51, z2o, z52, z53⟩ := getF zr hx hZ hown (host := "") (Or.inl (own_W hw 20 rfl)) Via.refl z2k z17 (g := (mkF m 62 #[.val (.ref z0), .val (.int s1), .val (.double (Jvm.FP.l2d (x2.toInt64))), .second, .val (.long c2), .second, .unset, .unset, .unset, .unset, .unset, .unset] [(.ref z0)])) rfl rfl (hb hby y5_62)
  obtain ⟨z2p, zf, z2q, z54⟩ := getF z2o hx hZ hown (host := "") (Or.inl (own_W hw 41 rfl)) Via.refl z52 zk (g := (mkF m 66 #[.val (.ref z0), .val (.int s1), .val (.double (Jvm.FP.l2d (x2.toInt64))), .second, .val (.long c2), .second, .unset, .unset, .unset, .unset, .unset, .unset] [(.ref z0), (.ref z2)])) rfl rfl (hb hby y5_66)
  have z2r := ((z23.other z4 z1m).other z5 (Ne.symm ze))
  obtain ⟨z2s, z18, z6a, z55, z6b, z56, z6c⟩ := (id z2r)
  have z2t : ¬ ((1 : Int32) < 0 ∨ z2s.slots.size ≤ ((1 : Int32)).toNatClampNeg) := inb_of z55 ⟨by decide, by decide⟩
  have z57 : z2s.slots[((1 : Int32)).toNatClampNeg]? = some (.int s2) := Has.at z56 z2t rfl
  obtain ⟨z2u, zg, z2v, z58⟩ := getF zf hx hZ hown (host := "") (Or.inl (own_W hw 41 rfl)) Via.refl z2q zk (g := (mkF m 81 #[.val (.ref z0), .val (.int s1), .val (.double (Jvm.FP.l2d (x2.toInt64))), .second, .val (.long c2), .second, .val (.int s2), .val (.int 0), .val (.int 1), .unset, .unset, .unset] [(.ref z0), (.int 1)])) rfl rfl (hb hby y5_81)
  have z2w := (z29.wr z5)
  obtain ⟨cq508, z59, q508'⟩ := z2w.cell
  obtain ⟨_, _, ⟨zs, L508, z6d, n508⟩, -, zl, ⟨Lc508, z2x, l508, y508, z508⟩, z2y⟩ := zg.privateBack hx (y := own_m4) hown (mvT hZ (own_W hw 45 rfl)) (mvT hZ (own_W hw 46 rfl)) (own_selpS (y := own_m4) (mvT hZ (own_W hw 39 rfl)) rfl (mvP (args := #[]) hZ (own_W hw 47 rfl)) (mvT hZ (own_W hw 46 rfl)) (by decide)) (Cond.privateMethod_at (mvP hZ (own_W hw 47 rfl) (args := #[]))) (mvT hZ (own_W hw 48 rfl)) (by decide) (backOf (W := 0) (rmP0 l Z a0 hw [] z2a n0 A K x1 x2 x3 c1 c2 c3 s1 s2 s3 x2 c2 s2 z0 z6 z7 z2 zm zn zo EN z2b z13 z2f z15 z2l z17 z2r za z3b zb z3c z3d z1q z1r z1s) hZ (own_W hw 48 rfl) (own_W hw 6 rfl) (by decide) (by decide)) (g := (mkF m 218 #[.val (.ref z0), .val (.int s1), .val (.double (Jvm.FP.l2d (x2.toInt64))), .second, .val (.long c2), .second, .val (.int s2), .val (.int 0), .val (.int 1), .unset, .unset, .unset] [(.int s2), (.long c2), (.double (Jvm.FP.l2d (x2.toInt64))), (.int 0), (.ref z0)])) rfl (by rw [hml]; rfl) (Steps.refl _) (a := z0) (by rw [z2v]; exact z59) q508' (argsL := [(.int 0), (.double (Jvm.FP.l2d (x2.toInt64))), (.long c2), (.int s2)]) (rest := []) (lenOf own_pd0 rfl) rfl (by show 2 * 0 + _ ≤ _; exact Nat.le_of_eq rfl) (hb hby y5_218) (fun _ _ => ⟨rfl, z2v, (by decide : 0 + 0 ≤ _), (by decide : 0 + 0 ≤ _)⟩)
  dsimp only [Pt.U, Pt.locs, Pt.cells, Pt.slots] at zl l508 y508 z508 z2y z2x
  replace zl := own_sub zl l508 y508 z508
  obtain ⟨rfl, z5a, z9, z5b, z5c, z5d⟩ := z2x
  have z5e := Fr.app z4l z5a
  have z6e := z2b.keep z9 (allS z1q (allS z1r (allS z1s all0)))
  have z5f := z4m.trans z9 (allS (own_Ix 5 rfl) (allS (own_Ix 4 rfl) (allS (own_Ix 3 rfl) all0)))
  have z5g := (z2w.keep z9)
  have z5h := (z13.keep z9 (ninS za (ninS zb (ninS ze nin0))))
  have z5i := (z15.keep z9 (ninS za (ninS zb (ninS ze nin0))))
  have z5j := (z17.keep z9 (ninS za (ninS zb (ninS ze nin0))))
  have z5k := ((((z37.other z3 (Or.inl zc)).other z4 (Or.inl zd)).other z5 (Or.inr (slot_ne (Or.inl (own_W hw 23 rfl)) (Or.inl (own_W hw 42 rfl)) (by decide) (t := (.array .int)) (t' := .int) (by decide) (by decide)))).keep z9 (ninS za (ninS zb (ninS ze nin0))))
  have z5l := ((((z38.other z3 (Or.inl zc)).other z4 (Or.inl zd)).other z5 (Or.inr (slot_ne (Or.inl (own_W hw 25 rfl)) (Or.inl (own_W hw 42 rfl)) (by decide) (t := (.array .int)) (t' := .int) (by decide) (by decide)))).keep z9 (ninS za (ninS zb (ninS ze nin0))))
  have z5m := ((((z1e.other z3 (Or.inl zc)).other z4 (Or.inl zd)).other z5 (Or.inr (slot_ne (Or.inl (own_W hw 29 rfl)) (Or.inl (own_W hw 42 rfl)) (by decide) (t := (.array (.object y_s2))) (t' := .int) (by decide) (by decide)))).keep z9 (ninS za (ninS zb (ninS ze nin0))))
  have z5n := (((z1y.other z4 (Or.inl zd)).other z5 (Or.inr (slot_ne (Or.inl (own_W hw 31 rfl)) (Or.inl (own_W hw 42 rfl)) (by decide) (t := (.array .int)) (t' := .int) (by decide) (by decide)))).keep z9 (ninS za (ninS zb (ninS ze nin0))))
  have z5o := (zk.keep z9 (ninS za (ninS zb (ninS ze nin0))))
  have z5p := ((((z39.other z3 (Or.inl zc)).other z4 (Or.inl zd)).other z5 (Or.inr (slot_ne (Or.inl (own_W hw 44 rfl)) (Or.inl (own_W hw 42 rfl)) (by decide) (t := .long) (t' := .int) (by decide) (by decide)))).keep z9 (ninS za (ninS zb (ninS ze nin0))))
  have z5q : own_AM Z zs.heap z8 zh (.object y_s2) := (((z3v.other z4 z1h).other z5 (Ne.symm zc)).keep z9 (ninS (Ne.symm z1i) (ninS (Ne.symm z1k) (ninS (Ne.symm z1g) nin0))))
  have z5r : own_AM Z zs.heap z1 zi .int := ((z4f.other z5 (Ne.symm zd)).keep z9 (ninS (Ne.symm z1j) (ninS (Ne.symm z1l) (ninS (Ne.symm z1m) nin0))))
  obtain ⟨fs, hr, hrun, hended, hW, hsame⟩ := zl.leave (v := none) (fun _ => rfl)
  refine ⟨_, _, pre0 _ ?_, hrun, hended, _, _, rfl, ?_, ⟨_, rfl⟩, hW, hsame.mono (by decide) (by decide)⟩
  · show Steps p.tables e below (s₁.setTop (mkF m 0 #[.val (.ref z0), .unset, .unset, .unset, .unset, .unset, .unset, .unset, .unset, .unset, .unset, .unset] [])) _
    refine XS.aloadN X0.here hx rfl (hb hby y5_0) rfl rfl ?_
    refine z3e _ ?_
    show Steps p.tables e below (z1t.setTop (mkF m 4 #[.val (.ref z0), .unset, .unset, .unset, .unset, .unset, .unset, .unset, .unset, .unset, .unset, .unset] [(.ref z2)])) _
    refine XS.iconst zj.here hx rfl (hb hby y5_4) ?_
    refine zj.iaload hx (j := (0 : Int32)) (v := (.int s1)) (by rw [z1u]; exact zv.1) (State.isArrayOf_alike hZ.alike zv.2.1) zv.2.2 z1w z3h (g := (mkF m 5 #[.val (.ref z0), .unset, .unset, .unset, .unset, .unset, .unset, .unset, .unset, .unset, .unset, .unset] [(.int 0), (.ref z2)])) rfl rfl (hb hby y5_5) _ ?_
    show Steps p.tables e below (z1t.setTop (mkF m 6 #[.val (.ref z0), .unset, .unset, .unset, .unset, .unset, .unset, .unset, .unset, .unset, .unset, .unset] [(.int s1)])) _
    refine XS.istoreN zj.here hx rfl (hb hby y5_6) rfl (l' := #[.val (.ref z0), .val (.int s1), .unset, .unset, .unset, .unset, .unset, .unset, .unset, .unset, .unset, .unset]) rfl ?_
    refine XS.aloadN zj.here hx rfl (hb hby y5_7) rfl rfl ?_
    refine z3k _ ?_
    show Steps p.tables e below (z3i.setTop (mkF m 11 #[.val (.ref z0), .val (.int s1), .unset, .unset, .unset, .unset, .unset, .unset, .unset, .unset, .unset, .unset] [(.ref z8)])) _
    refine XS.iloadN zw.here hx rfl (hb hby y5_11) rfl ?_
    refine XS.aconstNull zw.here hx rfl (hb hby y5_12) ?_
    refine z3r _ ?_
    show Steps p.tables e below (z3p.setTop (mkF m 14 #[.val (.ref z0), .val (.int s1), .unset, .unset, .unset, .unset, .unset, .unset, .unset, .unset, .unset, .unset] [])) _
    refine XS.aloadN zx.here hx rfl (hb hby y5_14) rfl rfl ?_
    refine z3y _ ?_
    show Steps p.tables e below (z3w.setTop (mkF m 18 #[.val (.ref z0), .val (.int s1), .unset, .unset, .unset, .unset, .unset, .unset, .unset, .unset, .unset, .unset] [(.ref z1)])) _
    refine XS.aloadN z1z.here hx rfl (hb hby y5_18) rfl rfl ?_
    refine z3z _ ?_
    show Steps p.tables e below (z21.setTop (mkF m 22 #[.val (.ref z0), .val (.int s1), .unset, .unset, .unset, .unset, .unset, .unset, .unset, .unset, .unset, .unset] [(.ref z2), (.ref z1)])) _
    refine zy.arraylength hx (by rw [z22]; exact z24.1) (State.isArrayOf_alike hZ.alike z24.2.1) (g := (mkF m 22 #[.val (.ref z0), .val (.int s1), .unset, .unset, .unset, .unset, .unset, .unset, .unset, .unset, .unset, .unset] [(.ref z2), (.ref z1)])) rfl rfl (hb hby y5_22) _ ?_
    rw [len_of z40 z41]
    show Steps p.tables e below (z21.setTop (mkF m 23 #[.val (.ref z0), .val (.int s1), .unset, .unset, .unset, .unset, .unset, .unset, .unset, .unset, .unset, .unset] [(.int 16), (.ref z1)])) _
    refine XS.aloadN zy.here hx rfl (hb hby y5_23) rfl rfl ?_
    refine z43 _ ?_
    show Steps p.tables e below (z26.setTop (mkF m 27 #[.val (.ref z0), .val (.int s1), .unset, .unset, .unset, .unset, .unset, .unset, .unset, .unset, .unset, .unset] [(.int 2), (.int 16), (.ref z1)])) _
    refine XS.isub zz.here hx rfl (hb hby y5_27) rfl ?_
    show Steps p.tables e below (z26.setTop (mkF m 28 #[.val (.ref z0), .val (.int s1), .unset, .unset, .unset, .unset, .unset, .unset, .unset, .unset, .unset, .unset] [(.int 14), (.ref z1)])) _
    refine XS.iloadN zz.here hx rfl (hb hby y5_28) rfl ?_
    refine z4b _ ?_
    show Steps p.tables e below (z48.setTop (mkF m 30 #[.val (.ref z0), .val (.int s1), .unset, .unset, .unset, .unset, .unset, .unset, .unset, .unset, .unset, .unset] [])) _
    refine XS.aloadN zp.here hx rfl (hb hby y5_30) rfl rfl ?_
    refine XS.dup zp.here hx rfl (hb hby y5_31) rfl rfl ?_
    refine z4h _ ?_
    show Steps p.tables e below (z28.setTop (mkF m 35 #[.val (.ref z0), .val (.int s1), .unset, .unset, .unset, .unset, .unset, .unset, .unset, .unset, .unset, .unset] [(.int 2), (.ref z0)])) _
    refine XS.iconst z11.here hx rfl (hb hby y5_35) ?_
    refine XS.isub z11.here hx rfl (hb hby y5_36) rfl ?_
    show Steps p.tables e below (z28.setTop (mkF m 37 #[.val (.ref z0), .val (.int s1), .unset, .unset, .unset, .unset, .unset, .unset, .unset, .unset, .unset, .unset] [(.int 1), (.ref z0)])) _
    refine z4k _ ?_
    show Steps p.tables e below (z4i.setTop (mkF m 40 #[.val (.ref z0), .val (.int s1), .unset, .unset, .unset, .unset, .unset, .unset, .unset, .unset, .unset, .unset] [])) _
    refine XS.aloadN z12.here hx rfl (hb hby y5_40) rfl rfl ?_
    refine z4p _ ?_
    show Steps p.tables e below (z4n.setTop (mkF m 44 #[.val (.ref z0), .val (.int s1), .unset, .unset, .unset, .unset, .unset, .unset, .unset, .unset, .unset, .unset] [(.ref z6)])) _
    refine XS.aloadN z2c.here hx rfl (hb hby y5_44) rfl rfl ?_
    refine z4q _ ?_
    show Steps p.tables e below (z2d.setTop (mkF m 48 #[.val (.ref z0), .val (.int s1), .unset, .unset, .unset, .unset, .unset, .unset, .unset, .unset, .unset, .unset] [(.int 1), (.ref z6)])) _
    refine zq.daload hx (j := (1 : Int32)) (v := (.double (Jvm.FP.l2d (x2.toInt64)))) (by rw [z2e]; exact z14.1) (State.isArrayOf_alike hZ.alike z14.2.1) z14.2.2 z2h z4t (g := (mkF m 48 #[.val (.ref z0), .val (.int s1), .unset, .unset, .unset, .unset, .unset, .unset, .unset, .unset, .unset, .unset] [(.int 1), (.ref z6)])) rfl rfl (hb hby y5_48) _ ?_
    show Steps p.tables e below (z2d.setTop (mkF m 49 #[.val (.ref z0), .val (.int s1), .unset, .unset, .unset, .unset, .unset, .unset, .unset, .unset, .unset, .unset] [(.double (Jvm.FP.l2d (x2.toInt64)))])) _
    refine XS.dstoreN zq.here hx rfl (hb hby y5_49) rfl (l' := #[.val (.ref z0), .val (.int s1), .val (.double (Jvm.FP.l2d (x2.toInt64))), .second, .unset, .unset, .unset, .unset, .unset, .unset, .unset, .unset]) rfl ?_
    refine XS.aloadN zq.here hx rfl (hb hby y5_50) rfl rfl ?_
    refine z4w _ ?_
    show Steps p.tables e below (z4u.setTop (mkF m 54 #[.val (.ref z0), .val (.int s1), .val (.double (Jvm.FP.l2d (x2.toInt64))), .second, .unset, .unset, .unset, .unset, .unset, .unset, .unset, .unset] [(.ref z7)])) _
    refine XS.aloadN z2i.here hx rfl (hb hby y5_54) rfl rfl ?_
    refine z4x _ ?_
    show Steps p.tables e below (z2j.setTop (mkF m 58 #[.val (.ref z0), .val (.int s1), .val (.double (Jvm.FP.l2d (x2.toInt64))), .second, .unset, .unset, .unset, .unset, .unset, .unset, .unset, .unset] [(.int 1), (.ref z7)])) _
    refine zr.laload hx (j := (1 : Int32)) (v := (.long c2)) (by rw [z2k]; exact z16.1) (State.isArrayOf_alike hZ.alike z16.2.1) z16.2.2 z2n z50 (g := (mkF m 58 #[.val (.ref z0), .val (.int s1), .val (.double (Jvm.FP.l2d (x2.toInt64))), .second, .unset, .unset, .unset, .unset, .unset, .unset, .unset, .unset] [(.int 1), (.ref z7)])) rfl rfl (hb hby y5_58) _ ?_
    show Steps p.tables e below (z2j.setTop (mkF m 59 #[.val (.ref z0), .val (.int s1), .val (.double (Jvm.FP.l2d (x2.toInt64))), .second, .unset, .unset, .unset, .unset, .unset, .unset, .unset, .unset] [(.long c2)])) _
    refine XS.lstore zr.here hx rfl (hb hby y5_59) rfl (l' := #[.val (.ref z0), .val (.int s1), .val (.double (Jvm.FP.l2d (x2.toInt64))), .second, .val (.long c2), .second, .unset, .unset, .unset, .unset, .unset, .unset]) rfl ?_
    refine XS.aloadN zr.here hx rfl (hb hby y5_61) rfl rfl ?_
    refine z53 _ ?_
    show Steps p.tables e below (z51.setTop (mkF m 65 #[.val (.ref z0), .val (.int s1), .val (.double (Jvm.FP.l2d (x2.toInt64))), .second, .val (.long c2), .second, .unset, .unset, .unset, .unset, .unset, .unset] [(.ref z2)])) _
    refine XS.aloadN z2o.here hx rfl (hb hby y5_65) rfl rfl ?_
    refine z54 _ ?_
    show Steps p.tables e below (z2p.setTop (mkF m 69 #[.val (.ref z0), .val (.int s1), .val (.double (Jvm.FP.l2d (x2.toInt64))), .second, .val (.long c2), .second, .unset, .unset, .unset, .unset, .unset, .unset] [(.int 1), (.ref z2)])) _
    refine zf.iaload hx (j := (1 : Int32)) (v := (.int s2)) (by rw [z2q]; exact z18.1) (State.isArrayOf_alike hZ.alike z18.2.1) z18.2.2 z2t z57 (g := (mkF m 69 #[.val (.ref z0), .val (.int s1), .val (.double (Jvm.FP.l2d (x2.toInt64))), .second, .val (.long c2), .second, .unset, .unset, .unset, .unset, .unset, .unset] [(.int 1), (.ref z2)])) rfl rfl (hb hby y5_69) _ ?_
    show Steps p.tables e below (z2p.setTop (mkF m 70 #[.val (.ref z0), .val (.int s1), .val (.double (Jvm.FP.l2d (x2.toInt64))), .second, .val (.long c2), .second, .unset, .unset, .unset, .unset, .unset, .unset] [(.int s2)])) _
    refine XS.istore zf.here hx rfl (hb hby y5_70) rfl (l' := #[.val (.ref z0), .val (.int s1), .val (.double (Jvm.FP.l2d (x2.toInt64))), .second, .val (.long c2), .second, .val (.int s2), .unset, .unset, .unset, .unset, .unset]) rfl ?_
    refine XS.iconst zf.here hx rfl (hb hby y5_72) ?_
    refine XS.istore zf.here hx rfl (hb hby y5_73) rfl (l' := #[.val (.ref z0), .val (.int s1), .val (.double (Jvm.FP.l2d (x2.toInt64))), .second, .val (.long c2), .second, .val (.int s2), .val (.int 0), .unset, .unset, .unset, .unset]) rfl ?_
    refine XS.iconst zf.here hx rfl (hb hby y5_75) ?_
    refine XS.istore zf.here hx rfl (hb hby y5_76) rfl (l' := #[.val (.ref z0), .val (.int s1), .val (.double (Jvm.FP.l2d (x2.toInt64))), .second, .val (.long c2), .second, .val (.int s2), .val (.int 0), .val (.int 1), .unset, .unset, .unset]) rfl ?_
    refine XS.iload zf.here hx rfl (hb hby y5_78) rfl ?_
    refine XS.aloadN zf.here hx rfl (hb hby y5_80) rfl rfl ?_
    refine z58 _ ?_
    show Steps p.tables e below (z2u.setTop (mkF m 84 #[.val (.ref z0), .val (.int s1), .val (.double (Jvm.FP.l2d (x2.toInt64))), .second, .val (.long c2), .second, .val (.int s2), .val (.int 0), .val (.int 1), .unset, .unset, .unset] [(.int 1), (.int 1)])) _
    refine XS.icmpYes zg.here hx rfl (pc0 := 84) (pc' := 210) rfl (hb hby y5_84) rfl (flt (by decide : ¬ ((1 : Int32) < (1 : Int32)))).2.1 (by decide) (by decide) ?_
    show Steps p.tables e below (z2u.setTop (mkF m 210 #[.val (.ref z0), .val (.int s1), .val (.double (Jvm.FP.l2d (x2.toInt64))), .second, .val (.long c2), .second, .val (.int s2), .val (.int 0), .val (.int 1), .unset, .unset, .unset] [])) _
    refine XS.aloadN zg.here hx rfl (hb hby y5_210) rfl rfl ?_
    refine XS.iload zg.here hx rfl (hb hby y5_211) rfl ?_
    refine XS.dloadN zg.here hx rfl (hb hby y5_213) rfl ?_
    refine XS.lload zg.here hx rfl (hb hby y5_214) rfl ?_
    refine XS.iload zg.here hx rfl (hb hby y5_216) rfl ?_
    refine z2y.trans ?_
    show Steps p.tables e below (zs.setTop (mkF m 221 #[.val (.ref z0), .val (.int s1), .val (.double (Jvm.FP.l2d (x2.toInt64))), .second, .val (.long c2), .second, .val (.int s2), .val (.int 0), .val (.int 1), .unset, .unset, .unset] [])) _
    exact zl.returnOut hx Bd.returns (hb hby y5_221) hr
  · show Q_rmR2 Z A K x1 x2 x3 c1 c2 c3 s1 s2 s3 z19 z1a z1b t1 t2 t3 ga z0 z6 z7 z2 zt zu z8 z1 zm zn zo zh zi h0 n0 _ zs.heap _
    exact ⟨rfl, z5e, z5f, z5g, z5h, z5i, z5j, z5k, z5l, z5m, z5n, z5o, z5p, z5b, z5c, z5d, z5q, z3a, z5r⟩
theorem y6_0 : decode method_3_code 0 = .ok (.iload_n 0, 1) := by decide +kernel
theorem y6_1 : decode method_3_code 1 = .ok (.iload_n 2, 1) := by decide +kernel
theorem y6_2 : decode method_3_code 2 = .ok (.if_icmp .lt 13, 3) := by decide +kernel
theorem y6_5 : decode method_3_code 5 = .ok (.iload_n 0, 1) := by decide +kernel
theorem y6_6 : decode method_3_code 6 = .ok (.iload_n 2, 1) := by decide +kernel
theorem y6_7 : decode method_3_code 7 = .ok (.if_icmp .ne 12, 3) := by decide +kernel
theorem y6_10 : decode method_3_code 10 = .ok (.iload_n 1, 1) := by decide +kernel
theorem y6_11 : decode method_3_code 11 = .ok (.iload_n 3, 1) := by decide +kernel
theorem y6_12 : decode method_3_code 12 = .ok (.if_icmp .ge 7, 3) := by decide +kernel
theorem y6_15 : decode method_3_code 15 = .ok (.iconst 1, 1) := by decide +kernel
theorem y6_16 : decode method_3_code 16 = .ok (.goto 4, 3) := by decide +kernel
theorem y6_19 : decode method_3_code 19 = .ok (.iconst 0, 1) := by decide +kernel
theorem y6_20 : decode method_3_code 20 = .ok (.ireturn, 1) := by decide +kernel
theorem own_pn1 : plainName "com/example/ringleader/ringleader/engine/EventQueueFirstFromPinLaw" = true := by first | (simp [plainName, overriddenIn]; done) | decide +kernel
def own_f_rmB (g1 : Int32) (g2 : Int32) (g3 : Int32) (g4 : Int32) : Int32 := if g1 < g3 then (1 : Int32)
  else if g1 = g3 then (if g2 < g4 then (1 : Int32)
      else (0 : Int32))
    else (0 : Int32)
set_option maxRecDepth 65536 in
set_option maxHeartbeats 40000000 in
theorem rmB (l : Launch) (Z : State) (a0 : Array Value) (hw : ∀ d ∈ tables_1, d.before a0 Z = true) (ws : List Jvm.Cond) (h0 : Heap) (n0 : Nat) (A : Nat → Addr) (K : Nat → ClassId) (z0 : Int32) (z2 : Int32) (z1 : Int32) (z3 : Int32)  (EN : own_St Z A K) (OL0 : Old Z n0 h0) :
    MetFree l own_m2 (head1 (Jvm.Cond.code own_m2 method_3_code 4 (some .boolean) :: ws) (Room.mk 0 0 0 0)) (fun a U => a = #[(.int z0), (.int z2), (.int z1), (.int z3)] ∧ Z.Warmed39 U.vm ∧ U.heap = h0) (fun _ _ _ _ _ => True) (fun _ U o U' => ∃ v L, o = .returned v ∧ (PQ (some (.int (own_f_rmB z0 z2 z1 z3))) h0 n0) v U'.heap L ∧ FrameEnd U o U' L (Room.mk 0 0 0 0).cells (Room.mk 0 0 0 0).slots) := by
  refine MetFree.of_bodySF (plainFor_of_name own_pn1) hisR ?_
  intro p e s m args below meth c s₁ Bd hml0 hP hK
  obtain ⟨rfl, hZ, hh⟩ := hP
  have hx := Bd.exec
  have hby := Bd.bytes
  have hml : c.maxLocals = 4 := hml0
  have hown : s.vm.findClass "com/example/ringleader/ringleader/engine/EventQueueFirstFromPinLaw" = some m.cls := findClass_of_methodNamed Bd.named
  have hnm := (name_of_methodNamed Bd.named Bd.method).1
  have X0 : Stand p l e (Room.mk 0 0 0 0) s m #[(.int z0), (.int z2), (.int z1), (.int z3)] below meth c s₁ [] 0 0 := Stand.of_body Bd
  have e0 : s₁.heap = h0 := by rw [← hh, Bd.state]; rfl
  have N0 := Fr.nil n0
  have pre0 : ∀ t, Steps p.tables e below (s₁.setTop (mkF m 0 #[.val (.int z0), .val (.int z2), .val (.int z1), .val (.int z3)] [])) t → Steps p.tables e below (s₁.setTop (entryFrame m #[(.int z0), (.int z2), (.int z1), (.int z3)] 4)) t := fun t k => castTop (by first | (simp [entryFrame, mkF, argsToLocals, Value.category, maxLocals]; done) | rfl) k
  have KK0 : Keep h0 h0 [] := Keep.refl _ _
  have z7 : ∀ t, Steps p.tables e below (s₁.setTop (mkF m 2 #[.val (.int z0), .val (.int z2), .val (.int z1), .val (.int z3)] [(.int z1), (.int z0)])) t → Steps p.tables e below (s₁.setTop (entryFrame m #[(.int z0), (.int z2), (.int z1), (.int z3)] 4)) t := fun t k => pre0 t (by
    show Steps p.tables e below (s₁.setTop (mkF m 0 #[.val (.int z0), .val (.int z2), .val (.int z1), .val (.int z3)] [])) _
    refine XS.iloadN X0.here hx rfl (hb hby y6_0) rfl ?_
    refine XS.iloadN X0.here hx rfl (hb hby y6_1) rfl ?_
    exact k)
  by_cases z4 : z0 < z1
  · obtain ⟨fs, hr, hrun, hended, hW, hsame⟩ := X0.leave (v := some (.int 1)) (fun h => by rw [Bd.returns] at h; cases h)
    refine ⟨_, _, z7 _ ?_, hrun, hended, _, _, rfl, ?_, ⟨_, rfl⟩, hW, hsame.mono (by decide) (by decide)⟩
    · show Steps p.tables e below (s₁.setTop (mkF m 2 #[.val (.int z0), .val (.int z2), .val (.int z1), .val (.int z3)] [(.int z1), (.int z0)])) _
      refine XS.icmpYes X0.here hx rfl (pc0 := 2) (pc' := 15) rfl (hb hby y6_2) rfl (tlt z4).1 (by decide) (by decide) ?_
      show Steps p.tables e below (s₁.setTop (mkF m 15 #[.val (.int z0), .val (.int z2), .val (.int z1), .val (.int z3)] [])) _
      refine XS.iconst X0.here hx rfl (hb hby y6_15) ?_
      refine XS.goto X0.here hx rfl (pc0 := 16) (pc' := 20) rfl (hb hby y6_16) (by decide) (by decide) ?_
      exact retN X0 hx (t := .boolean) Bd.returns (by simp) (hb hby y6_20) hr
    · show PQ (some (.int (own_f_rmB z0 z2 z1 z3))) h0 n0 _ s₁.heap _
      rw [e0]
      exact ⟨congrArg (fun z => some (Value.int z)) (by unfold own_f_rmB; rw [if_pos z4]), N0, rfl⟩
  · have z8 : ∀ t, Steps p.tables e below (s₁.setTop (mkF m 7 #[.val (.int z0), .val (.int z2), .val (.int z1), .val (.int z3)] [(.int z1), (.int z0)])) t → Steps p.tables e below (s₁.setTop (entryFrame m #[(.int z0), (.int z2), (.int z1), (.int z3)] 4)) t := fun t k => z7 t (by
      show Steps p.tables e below (s₁.setTop (mkF m 2 #[.val (.int z0), .val (.int z2), .val (.int z1), .val (.int z3)] [(.int z1), (.int z0)])) _
      refine XS.icmpNo X0.here hx rfl (hb hby y6_2) rfl (flt z4).1 ?_
      show Steps p.tables e below (s₁.setTop (mkF m 5 #[.val (.int z0), .val (.int z2), .val (.int z1), .val (.int z3)] [])) _
      refine XS.iloadN X0.here hx rfl (hb hby y6_5) rfl ?_
      refine XS.iloadN X0.here hx rfl (hb hby y6_6) rfl ?_
      exact k)
    by_cases z5 : z0 = z1
    · have z9 : ∀ t, Steps p.tables e below (s₁.setTop (mkF m 12 #[.val (.int z0), .val (.int z2), .val (.int z1), .val (.int z3)] [(.int z3), (.int z2)])) t → Steps p.tables e below (s₁.setTop (entryFrame m #[(.int z0), (.int z2), (.int z1), (.int z3)] 4)) t := fun t k => z8 t (by
        show Steps p.tables e below (s₁.setTop (mkF m 7 #[.val (.int z0), .val (.int z2), .val (.int z1), .val (.int z3)] [(.int z1), (.int z0)])) _
        refine XS.icmpNo X0.here hx rfl (hb hby y6_7) rfl (teq z5).2 ?_
        show Steps p.tables e below (s₁.setTop (mkF m 10 #[.val (.int z0), .val (.int z2), .val (.int z1), .val (.int z3)] [])) _
        refine XS.iloadN X0.here hx rfl (hb hby y6_10) rfl ?_
        refine XS.iloadN X0.here hx rfl (hb hby y6_11) rfl ?_
        exact k)
      by_cases z6 : z2 < z3
      · obtain ⟨fs, hr, hrun, hended, hW, hsame⟩ := X0.leave (v := some (.int 1)) (fun h => by rw [Bd.returns] at h; cases h)
        refine ⟨_, _, z9 _ ?_, hrun, hended, _, _, rfl, ?_, ⟨_, rfl⟩, hW, hsame.mono (by decide) (by decide)⟩
        · show Steps p.tables e below (s₁.setTop (mkF m 12 #[.val (.int z0), .val (.int z2), .val (.int z1), .val (.int z3)] [(.int z3), (.int z2)])) _
          refine XS.icmpNo X0.here hx rfl (hb hby y6_12) rfl (tlt z6).2.1 ?_
          show Steps p.tables e below (s₁.setTop (mkF m 15 #[.val (.int z0), .val (.int z2), .val (.int z1), .val (.int z3)] [])) _
          refine XS.iconst X0.here hx rfl (hb hby y6_15) ?_
          refine XS.goto X0.here hx rfl (pc0 := 16) (pc' := 20) rfl (hb hby y6_16) (by decide) (by decide) ?_
          exact retN X0 hx (t := .boolean) Bd.returns (by simp) (hb hby y6_20) hr
        · show PQ (some (.int (own_f_rmB z0 z2 z1 z3))) h0 n0 _ s₁.heap _
          rw [e0]
          exact ⟨congrArg (fun z => some (Value.int z)) (by unfold own_f_rmB; rw [if_neg z4, if_pos z5, if_pos z6]), N0, rfl⟩
      · obtain ⟨fs, hr, hrun, hended, hW, hsame⟩ := X0.leave (v := some (.int 0)) (fun h => by rw [Bd.returns] at h; cases h)
        refine ⟨_, _, z9 _ ?_, hrun, hended, _, _, rfl, ?_, ⟨_, rfl⟩, hW, hsame.mono (by decide) (by decide)⟩
        · show Steps p.tables e below (s₁.setTop (mkF m 12 #[.val (.int z0), .val (.int z2), .val (.int z1), .val (.int z3)] [(.int z3), (.int z2)])) _
          refine XS.icmpYes X0.here hx rfl (pc0 := 12) (pc' := 19) rfl (hb hby y6_12) rfl (flt z6).2.1 (by decide) (by decide) ?_
          show Steps p.tables e below (s₁.setTop (mkF m 19 #[.val (.int z0), .val (.int z2), .val (.int z1), .val (.int z3)] [])) _
          refine XS.iconst X0.here hx rfl (hb hby y6_19) ?_
          exact retN X0 hx (t := .boolean) Bd.returns (by simp) (hb hby y6_20) hr
        · show PQ (some (.int (own_f_rmB z0 z2 z1 z3))) h0 n0 _ s₁.heap _
          rw [e0]
          exact ⟨congrArg (fun z => some (Value.int z)) (by unfold own_f_rmB; rw [if_neg z4, if_pos z5, if_neg z6]), N0, rfl⟩
    · obtain ⟨fs, hr, hrun, hended, hW, hsame⟩ := X0.leave (v := some (.int 0)) (fun h => by rw [Bd.returns] at h; cases h)
      refine ⟨_, _, z8 _ ?_, hrun, hended, _, _, rfl, ?_, ⟨_, rfl⟩, hW, hsame.mono (by decide) (by decide)⟩
      · show Steps p.tables e below (s₁.setTop (mkF m 7 #[.val (.int z0), .val (.int z2), .val (.int z1), .val (.int z3)] [(.int z1), (.int z0)])) _
        refine XS.icmpYes X0.here hx rfl (pc0 := 7) (pc' := 19) rfl (hb hby y6_7) rfl (feq z5).2 (by decide) (by decide) ?_
        show Steps p.tables e below (s₁.setTop (mkF m 19 #[.val (.int z0), .val (.int z2), .val (.int z1), .val (.int z3)] [])) _
        refine XS.iconst X0.here hx rfl (hb hby y6_19) ?_
        exact retN X0 hx (t := .boolean) Bd.returns (by simp) (hb hby y6_20) hr
      · show PQ (some (.int (own_f_rmB z0 z2 z1 z3))) h0 n0 _ s₁.heap _
        rw [e0]
        exact ⟨congrArg (fun z => some (Value.int z)) (by unfold own_f_rmB; rw [if_neg z4, if_neg z5]), N0, rfl⟩
theorem y7_0 : decode method_4_code 0 = .ok (.iload_n 1, 1) := by decide +kernel
theorem y7_1 : decode method_4_code 1 = .ok (.iload_n 0, 1) := by decide +kernel
theorem y7_2 : decode method_4_code 2 = .ok (.if_icmp .ne 6, 3) := by decide +kernel
theorem y7_5 : decode method_4_code 5 = .ok (.iload 4, 2) := by decide +kernel
theorem y7_7 : decode method_4_code 7 = .ok (.ireturn, 1) := by decide +kernel
set_option maxRecDepth 65536 in
set_option maxHeartbeats 40000000 in
theorem rmK0 (l : Launch) (Z : State) (a0 : Array Value) (hw : ∀ d ∈ tables_1, d.before a0 Z = true) (ws : List Jvm.Cond) (h0 : Heap) (n0 : Nat) (A : Nat → Addr) (K : Nat → ClassId) (z1 : Int32) (z2 : Int32) (z3 : Int32) (z4 : Int32) (z0 : Int32) (z5 : Int32) (z6 : Int32)  (EN : own_St Z A K) (OL0 : Old Z n0 h0) (hg0 : z2 = z1) :
    MetFree l own_m5 (head1 (Jvm.Cond.code own_m5 method_4_code 7 (some .int) :: ws) (Room.mk 0 0 0 0)) (fun a U => a = #[(.int z1), (.int z2), (.int z3), (.int z4), (.int z0), (.int z5), (.int z6)] ∧ Z.Warmed39 U.vm ∧ U.heap = h0) (fun _ _ _ _ _ => True) (fun _ U o U' => ∃ v L, o = .returned v ∧ (PQ (some (.int z0)) h0 n0) v U'.heap L ∧ FrameEnd U o U' L (Room.mk 0 0 0 0).cells (Room.mk 0 0 0 0).slots) := by
  refine MetFree.of_bodySF (plainFor_of_name own_pn1) hisR ?_
  intro p e s m args below meth c s₁ Bd hml0 hP hK
  obtain ⟨rfl, hZ, hh⟩ := hP
  have hx := Bd.exec
  have hby := Bd.bytes
  have hml : c.maxLocals = 7 := hml0
  have hown : s.vm.findClass "com/example/ringleader/ringleader/engine/EventQueueFirstFromPinLaw" = some m.cls := findClass_of_methodNamed Bd.named
  have hnm := (name_of_methodNamed Bd.named Bd.method).1
  have X0 : Stand p l e (Room.mk 0 0 0 0) s m #[(.int z1), (.int z2), (.int z3), (.int z4), (.int z0), (.int z5), (.int z6)] below meth c s₁ [] 0 0 := Stand.of_body Bd
  have e0 : s₁.heap = h0 := by rw [← hh, Bd.state]; rfl
  have N0 := Fr.nil n0
  have pre0 : ∀ t, Steps p.tables e below (s₁.setTop (mkF m 0 #[.val (.int z1), .val (.int z2), .val (.int z3), .val (.int z4), .val (.int z0), .val (.int z5), .val (.int z6)] [])) t → Steps p.tables e below (s₁.setTop (entryFrame m #[(.int z1), (.int z2), (.int z3), (.int z4), (.int z0), (.int z5), (.int z6)] 7)) t := fun t k => castTop (by first | (simp [entryFrame, mkF, argsToLocals, Value.category, maxLocals]; done) | rfl) k
  have KK0 : Keep h0 h0 [] := Keep.refl _ _
  obtain ⟨fs, hr, hrun, hended, hW, hsame⟩ := X0.leave (v := some (.int z0)) (fun h => by rw [Bd.returns] at h; cases h)
  refine ⟨_, _, pre0 _ ?_, hrun, hended, _, _, rfl, ?_, ⟨_, rfl⟩, hW, hsame.mono (by decide) (by decide)⟩
  · show Steps p.tables e below (s₁.setTop (mkF m 0 #[.val (.int z1), .val (.int z2), .val (.int z3), .val (.int z4), .val (.int z0), .val (.int z5), .val (.int z6)] [])) _
    refine XS.iloadN X0.here hx rfl (hb hby y7_0) rfl ?_
    refine XS.iloadN X0.here hx rfl (hb hby y7_1) rfl ?_
    refine XS.icmpNo X0.here hx rfl (hb hby y7_2) rfl (teq hg0).2 ?_
    show Steps p.tables e below (s₁.setTop (mkF m 5 #[.val (.int z1), .val (.int z2), .val (.int z3), .val (.int z4), .val (.int z0), .val (.int z5), .val (.int z6)] [])) _
    refine XS.iload X0.here hx rfl (hb hby y7_5) rfl ?_
    exact retI X0 hx Bd.returns (hb hby y7_7) hr
  · show PQ (some (.int z0)) h0 n0 _ s₁.heap _
    rw [e0]
    exact ⟨rfl, N0, rfl⟩
theorem y7_8 : decode method_4_code 8 = .ok (.iload_n 2, 1) := by decide +kernel
theorem y7_9 : decode method_4_code 9 = .ok (.iload_n 0, 1) := by decide +kernel
theorem y7_10 : decode method_4_code 10 = .ok (.if_icmp .ne 6, 3) := by decide +kernel
theorem y7_13 : decode method_4_code 13 = .ok (.iload 5, 2) := by decide +kernel
theorem y7_15 : decode method_4_code 15 = .ok (.ireturn, 1) := by decide +kernel
set_option maxRecDepth 65536 in
set_option maxHeartbeats 40000000 in
theorem rmK1 (l : Launch) (Z : State) (a0 : Array Value) (hw : ∀ d ∈ tables_1, d.before a0 Z = true) (ws : List Jvm.Cond) (h0 : Heap) (n0 : Nat) (A : Nat → Addr) (K : Nat → ClassId) (z1 : Int32) (z2 : Int32) (z3 : Int32) (z4 : Int32) (z5 : Int32) (z0 : Int32) (z6 : Int32)  (EN : own_St Z A K) (OL0 : Old Z n0 h0) (hg0 : ¬ (z2 = z1)) (hg1 : z3 = z1) :
    MetFree l own_m5 (head1 (Jvm.Cond.code own_m5 method_4_code 7 (some .int) :: ws) (Room.mk 0 0 0 0)) (fun a U => a = #[(.int z1), (.int z2), (.int z3), (.int z4), (.int z5), (.int z0), (.int z6)] ∧ Z.Warmed39 U.vm ∧ U.heap = h0) (fun _ _ _ _ _ => True) (fun _ U o U' => ∃ v L, o = .returned v ∧ (PQ (some (.int z0)) h0 n0) v U'.heap L ∧ FrameEnd U o U' L (Room.mk 0 0 0 0).cells (Room.mk 0 0 0 0).slots) := by
  refine MetFree.of_bodySF (plainFor_of_name own_pn1) hisR ?_
  intro p e s m args below meth c s₁ Bd hml0 hP hK
  obtain ⟨rfl, hZ, hh⟩ := hP
  have hx := Bd.exec
  have hby := Bd.bytes
  have hml : c.maxLocals = 7 := hml0
  have hown : s.vm.findClass "com/example/ringleader/ringleader/engine/EventQueueFirstFromPinLaw" = some m.cls := findClass_of_methodNamed Bd.named
  have hnm := (name_of_methodNamed Bd.named Bd.method).1
  have X0 : Stand p l e (Room.mk 0 0 0 0) s m #[(.int z1), (.int z2), (.int z3), (.int z4), (.int z5), (.int z0), (.int z6)] below meth c s₁ [] 0 0 := Stand.of_body Bd
  have e0 : s₁.heap = h0 := by rw [← hh, Bd.state]; rfl
  have N0 := Fr.nil n0
  have pre0 : ∀ t, Steps p.tables e below (s₁.setTop (mkF m 0 #[.val (.int z1), .val (.int z2), .val (.int z3), .val (.int z4), .val (.int z5), .val (.int z0), .val (.int z6)] [])) t → Steps p.tables e below (s₁.setTop (entryFrame m #[(.int z1), (.int z2), (.int z3), (.int z4), (.int z5), (.int z0), (.int z6)] 7)) t := fun t k => castTop (by first | (simp [entryFrame, mkF, argsToLocals, Value.category, maxLocals]; done) | rfl) k
  have KK0 : Keep h0 h0 [] := Keep.refl _ _
  obtain ⟨fs, hr, hrun, hended, hW, hsame⟩ := X0.leave (v := some (.int z0)) (fun h => by rw [Bd.returns] at h; cases h)
  refine ⟨_, _, pre0 _ ?_, hrun, hended, _, _, rfl, ?_, ⟨_, rfl⟩, hW, hsame.mono (by decide) (by decide)⟩
  · show Steps p.tables e below (s₁.setTop (mkF m 0 #[.val (.int z1), .val (.int z2), .val (.int z3), .val (.int z4), .val (.int z5), .val (.int z0), .val (.int z6)] [])) _
    refine XS.iloadN X0.here hx rfl (hb hby y7_0) rfl ?_
    refine XS.iloadN X0.here hx rfl (hb hby y7_1) rfl ?_
    refine XS.icmpYes X0.here hx rfl (pc0 := 2) (pc' := 8) rfl (hb hby y7_2) rfl (feq hg0).2 (by decide) (by decide) ?_
    show Steps p.tables e below (s₁.setTop (mkF m 8 #[.val (.int z1), .val (.int z2), .val (.int z3), .val (.int z4), .val (.int z5), .val (.int z0), .val (.int z6)] [])) _
    refine XS.iloadN X0.here hx rfl (hb hby y7_8) rfl ?_
    refine XS.iloadN X0.here hx rfl (hb hby y7_9) rfl ?_
    refine XS.icmpNo X0.here hx rfl (hb hby y7_10) rfl (teq hg1).2 ?_
    show Steps p.tables e below (s₁.setTop (mkF m 13 #[.val (.int z1), .val (.int z2), .val (.int z3), .val (.int z4), .val (.int z5), .val (.int z0), .val (.int z6)] [])) _
    refine XS.iload X0.here hx rfl (hb hby y7_13) rfl ?_
    exact retI X0 hx Bd.returns (hb hby y7_15) hr
  · show PQ (some (.int z0)) h0 n0 _ s₁.heap _
    rw [e0]
    exact ⟨rfl, N0, rfl⟩
theorem y7_16 : decode method_4_code 16 = .ok (.iload 6, 2) := by decide +kernel
theorem y7_18 : decode method_4_code 18 = .ok (.ireturn, 1) := by decide +kernel
set_option maxRecDepth 65536 in
set_option maxHeartbeats 40000000 in
theorem rmK2 (l : Launch) (Z : State) (a0 : Array Value) (hw : ∀ d ∈ tables_1, d.before a0 Z = true) (ws : List Jvm.Cond) (h0 : Heap) (n0 : Nat) (A : Nat → Addr) (K : Nat → ClassId) (z1 : Int32) (z2 : Int32) (z3 : Int32) (z4 : Int32) (z5 : Int32) (z6 : Int32) (z0 : Int32)  (EN : own_St Z A K) (OL0 : Old Z n0 h0) (hg0 : ¬ (z2 = z1)) (hg1 : ¬ (z3 = z1)) :
    MetFree l own_m5 (head1 (Jvm.Cond.code own_m5 method_4_code 7 (some .int) :: ws) (Room.mk 0 0 0 0)) (fun a U => a = #[(.int z1), (.int z2), (.int z3), (.int z4), (.int z5), (.int z6), (.int z0)] ∧ Z.Warmed39 U.vm ∧ U.heap = h0) (fun _ _ _ _ _ => True) (fun _ U o U' => ∃ v L, o = .returned v ∧ (PQ (some (.int z0)) h0 n0) v U'.heap L ∧ FrameEnd U o U' L (Room.mk 0 0 0 0).cells (Room.mk 0 0 0 0).slots) := by
  refine MetFree.of_bodySF (plainFor_of_name own_pn1) hisR ?_
  intro p e s m args below meth c s₁ Bd hml0 hP hK
  obtain ⟨rfl, hZ, hh⟩ := hP
  have hx := Bd.exec
  have hby := Bd.bytes
  have hml : c.maxLocals = 7 := hml0
  have hown : s.vm.findClass "com/example/ringleader/ringleader/engine/EventQueueFirstFromPinLaw" = some m.cls := findClass_of_methodNamed Bd.named
  have hnm := (name_of_methodNamed Bd.named Bd.method).1
  have X0 : Stand p l e (Room.mk 0 0 0 0) s m #[(.int z1), (.int z2), (.int z3), (.int z4), (.int z5), (.int z6), (.int z0)] below meth c s₁ [] 0 0 := Stand.of_body Bd
  have e0 : s₁.heap = h0 := by rw [← hh, Bd.state]; rfl
  have N0 := Fr.nil n0
  have pre0 : ∀ t, Steps p.tables e below (s₁.setTop (mkF m 0 #[.val (.int z1), .val (.int z2), .val (.int z3), .val (.int z4), .val (.int z5), .val (.int z6), .val (.int z0)] [])) t → Steps p.tables e below (s₁.setTop (entryFrame m #[(.int z1), (.int z2), (.int z3), (.int z4), (.int z5), (.int z6), (.int z0)] 7)) t := fun t k => castTop (by first | (simp [entryFrame, mkF, argsToLocals, Value.category, maxLocals]; done) | rfl) k
  have KK0 : Keep h0 h0 [] := Keep.refl _ _
  obtain ⟨fs, hr, hrun, hended, hW, hsame⟩ := X0.leave (v := some (.int z0)) (fun h => by rw [Bd.returns] at h; cases h)
  refine ⟨_, _, pre0 _ ?_, hrun, hended, _, _, rfl, ?_, ⟨_, rfl⟩, hW, hsame.mono (by decide) (by decide)⟩
  · show Steps p.tables e below (s₁.setTop (mkF m 0 #[.val (.int z1), .val (.int z2), .val (.int z3), .val (.int z4), .val (.int z5), .val (.int z6), .val (.int z0)] [])) _
    refine XS.iloadN X0.here hx rfl (hb hby y7_0) rfl ?_
    refine XS.iloadN X0.here hx rfl (hb hby y7_1) rfl ?_
    refine XS.icmpYes X0.here hx rfl (pc0 := 2) (pc' := 8) rfl (hb hby y7_2) rfl (feq hg0).2 (by decide) (by decide) ?_
    show Steps p.tables e below (s₁.setTop (mkF m 8 #[.val (.int z1), .val (.int z2), .val (.int z3), .val (.int z4), .val (.int z5), .val (.int z6), .val (.int z0)] [])) _
    refine XS.iloadN X0.here hx rfl (hb hby y7_8) rfl ?_
    refine XS.iloadN X0.here hx rfl (hb hby y7_9) rfl ?_
    refine XS.icmpYes X0.here hx rfl (pc0 := 10) (pc' := 16) rfl (hb hby y7_10) rfl (feq hg1).2 (by decide) (by decide) ?_
    show Steps p.tables e below (s₁.setTop (mkF m 16 #[.val (.int z1), .val (.int z2), .val (.int z3), .val (.int z4), .val (.int z5), .val (.int z6), .val (.int z0)] [])) _
    refine XS.iload X0.here hx rfl (hb hby y7_16) rfl ?_
    exact retI X0 hx Bd.returns (hb hby y7_18) hr
  · show PQ (some (.int z0)) h0 n0 _ s₁.heap _
    rw [e0]
    exact ⟨rfl, N0, rfl⟩
theorem y8_0 : decode prog_48_method_5_code 0 = .ok (.aload_n 0, 1) := by decide +kernel
theorem y8_1 : decode prog_48_method_5_code 1 = .ok (.getfield 23, 3) := by decide +kernel
theorem y8_4 : decode prog_48_method_5_code 4 = .ok (.aload_n 0, 1) := by decide +kernel
theorem y8_5 : decode prog_48_method_5_code 5 = .ok (.getfield 19, 3) := by decide +kernel
theorem y8_8 : decode prog_48_method_5_code 8 = .ok (.iconst 0, 1) := by decide +kernel
theorem y8_9 : decode prog_48_method_5_code 9 = .ok (.iaload, 1) := by decide +kernel
theorem y8_10 : decode prog_48_method_5_code 10 = .ok (.iaload, 1) := by decide +kernel
theorem y8_11 : decode prog_48_method_5_code 11 = .ok (.ireturn, 1) := by decide +kernel
set_option maxRecDepth 65536 in
set_option maxHeartbeats 40000000 in
theorem rmF0 (l : Launch) (Z : State) (a0 : Array Value) (hw : ∀ d ∈ tables_1, d.before a0 Z = true) (ws : List Jvm.Cond) (h0 : Heap) (n0 : Nat) (A : Nat → Addr) (K : Nat → ClassId) (s1 : Int32) (s2 : Int32) (s3 : Int32) (z2 : Int32) (ze : Int32) (zf : Int32)  (z0 : Addr) (z4 : Addr) (z1 : Addr) (zg : ClassId) (zh : ClassId) (EN : own_St Z A K) (OL0 : Old Z n0 h0) (zi : Fld Z h0 z0 y_s0 "from" "[I" (.ref z1)) (zj : Fld Z h0 z0 y_s0 "slot" "[I" (.ref z4)) (zk : Arv Z h0 z4 zg .int 16 [(.int 0), (.int s2), (.int s3)] (.int 0)) (zl : Arv Z h0 z1 zh .int 16 [(.int z2), (.int ze), (.int zf)] (.int 0)) :
    MetFree l own_m1 (head1 (Jvm.Cond.code own_m1 prog_48_method_5_code 1 (some .int) :: ws) (Room.mk 0 0 0 0)) (fun a U => a = #[(.ref z0)] ∧ Z.Warmed39 U.vm ∧ U.heap = h0) (fun _ _ _ _ _ => True) (fun _ U o U' => ∃ v L, o = .returned v ∧ (PQ (some (.int z2)) h0 n0) v U'.heap L ∧ FrameEnd U o U' L (Room.mk 0 0 0 0).cells (Room.mk 0 0 0 0).slots) := by
  refine MetFree.of_bodySF (plainFor_of_name own_pn0) hisR ?_
  intro p e s m args below meth c s₁ Bd hml0 hP hK
  obtain ⟨rfl, hZ, hh⟩ := hP
  have hx := Bd.exec
  have hby := Bd.bytes
  have hml : c.maxLocals = 1 := hml0
  have hown : s.vm.findClass y_s0 = some m.cls := findClass_of_methodNamed Bd.named
  have hnm := (name_of_methodNamed Bd.named Bd.method).1
  have X0 : Stand p l e (Room.mk 0 0 0 0) s m #[(.ref z0)] below meth c s₁ [] 0 0 := Stand.of_body Bd
  have e0 : s₁.heap = h0 := by rw [← hh, Bd.state]; rfl
  have N0 := Fr.nil n0
  have pre0 : ∀ t, Steps p.tables e below (s₁.setTop (mkF m 0 #[.val (.ref z0)] [])) t → Steps p.tables e below (s₁.setTop (entryFrame m #[(.ref z0)] 1)) t := fun t k => castTop (by first | (simp [entryFrame, mkF, argsToLocals, Value.category, maxLocals]; done) | rfl) k
  have KK0 : Keep h0 h0 [] := Keep.refl _ _
  obtain ⟨zm, z9, zn, zo⟩ := getF X0 hx hZ hown (host := "") (Or.inl (own_W hw 22 rfl)) Via.refl e0 zi (g := (mkF m 1 #[.val (.ref z0)] [(.ref z0)])) rfl rfl (hb hby y8_1)
  obtain ⟨z5, z3, z6, zp⟩ := getF z9 hx hZ hown (host := "") (Or.inl (own_W hw 20 rfl)) Via.refl zn zj (g := (mkF m 5 #[.val (.ref z0)] [(.ref z0), (.ref z1)])) rfl rfl (hb hby y8_5)
  obtain ⟨za, z7, zw, zq, zx, zr, zy⟩ := (id zk)
  have zb : ¬ ((0 : Int32) < 0 ∨ za.slots.size ≤ ((0 : Int32)).toNatClampNeg) := inb_of zq ⟨by decide, by decide⟩
  have zs : za.slots[((0 : Int32)).toNatClampNeg]? = some (.int 0) := Has.at zr zb rfl
  obtain ⟨zc, z8, zz, zt, z10, zu, z11⟩ := (id zl)
  have zd : ¬ ((0 : Int32) < 0 ∨ zc.slots.size ≤ ((0 : Int32)).toNatClampNeg) := inb_of zt ⟨by decide, by decide⟩
  have zv : zc.slots[((0 : Int32)).toNatClampNeg]? = some (.int z2) := Has.at zu zd rfl
  obtain ⟨fs, hr, hrun, hended, hW, hsame⟩ := z3.leave (v := some (.int z2)) (fun h => by rw [Bd.returns] at h; cases h)
  refine ⟨_, _, pre0 _ ?_, hrun, hended, _, _, rfl, ?_, ⟨_, rfl⟩, hW, hsame.mono (by decide) (by decide)⟩
  · show Steps p.tables e below (s₁.setTop (mkF m 0 #[.val (.ref z0)] [])) _
    refine XS.aloadN X0.here hx rfl (hb hby y8_0) rfl rfl ?_
    refine zo _ ?_
    show Steps p.tables e below (zm.setTop (mkF m 4 #[.val (.ref z0)] [(.ref z1)])) _
    refine XS.aloadN z9.here hx rfl (hb hby y8_4) rfl rfl ?_
    refine zp _ ?_
    show Steps p.tables e below (z5.setTop (mkF m 8 #[.val (.ref z0)] [(.ref z4), (.ref z1)])) _
    refine XS.iconst z3.here hx rfl (hb hby y8_8) ?_
    refine z3.iaload hx (j := (0 : Int32)) (v := (.int 0)) (by rw [z6]; exact z7.1) (State.isArrayOf_alike hZ.alike z7.2.1) z7.2.2 zb zs (g := (mkF m 9 #[.val (.ref z0)] [(.int 0), (.ref z4), (.ref z1)])) rfl rfl (hb hby y8_9) _ ?_
    show Steps p.tables e below (z5.setTop (mkF m 10 #[.val (.ref z0)] [(.int 0), (.ref z1)])) _
    refine z3.iaload hx (j := (0 : Int32)) (v := (.int z2)) (by rw [z6]; exact z8.1) (State.isArrayOf_alike hZ.alike z8.2.1) z8.2.2 zd zv (g := (mkF m 10 #[.val (.ref z0)] [(.int 0), (.ref z1)])) rfl rfl (hb hby y8_10) _ ?_
    show Steps p.tables e below (z5.setTop (mkF m 11 #[.val (.ref z0)] [(.int z2)])) _
    exact retI z3 hx Bd.returns (hb hby y8_11) hr
  · show PQ (some (.int z2)) h0 n0 _ z5.heap _
    rw [z6]
    exact ⟨rfl, N0, rfl⟩
set_option maxRecDepth 65536 in
set_option maxHeartbeats 40000000 in
theorem rmF1 (l : Launch) (Z : State) (a0 : Array Value) (hw : ∀ d ∈ tables_1, d.before a0 Z = true) (ws : List Jvm.Cond) (h0 : Heap) (n0 : Nat) (A : Nat → Addr) (K : Nat → ClassId) (s1 : Int32) (s2 : Int32) (s3 : Int32) (ze : Int32) (z2 : Int32) (zf : Int32)  (z0 : Addr) (z4 : Addr) (z1 : Addr) (zg : ClassId) (zh : ClassId) (EN : own_St Z A K) (OL0 : Old Z n0 h0) (zi : Fld Z h0 z0 y_s0 "from" "[I" (.ref z1)) (zj : Fld Z h0 z0 y_s0 "slot" "[I" (.ref z4)) (zk : Arv Z h0 z4 zg .int 16 [(.int 1), (.int s2), (.int s3)] (.int 0)) (zl : Arv Z h0 z1 zh .int 16 [(.int ze), (.int z2), (.int zf)] (.int 0)) :
    MetFree l own_m1 (head1 (Jvm.Cond.code own_m1 prog_48_method_5_code 1 (some .int) :: ws) (Room.mk 0 0 0 0)) (fun a U => a = #[(.ref z0)] ∧ Z.Warmed39 U.vm ∧ U.heap = h0) (fun _ _ _ _ _ => True) (fun _ U o U' => ∃ v L, o = .returned v ∧ (PQ (some (.int z2)) h0 n0) v U'.heap L ∧ FrameEnd U o U' L (Room.mk 0 0 0 0).cells (Room.mk 0 0 0 0).slots) := by
  refine MetFree.of_bodySF (plainFor_of_name own_pn0) hisR ?_
  intro p e s m args below meth c s₁ Bd hml0 hP hK
  obtain ⟨rfl, hZ, hh⟩ := hP
  have hx := Bd.exec
  have hby := Bd.bytes
  have hml : c.maxLocals = 1 := hml0
  have hown : s.vm.findClass y_s0 = some m.cls := findClass_of_methodNamed Bd.named
  have hnm := (name_of_methodNamed Bd.named Bd.method).1
  have X0 : Stand p l e (Room.mk 0 0 0 0) s m #[(.ref z0)] below meth c s₁ [] 0 0 := Stand.of_body Bd
  have e0 : s₁.heap = h0 := by rw [← hh, Bd.state]; rfl
  have N0 := Fr.nil n0
  have pre0 : ∀ t, Steps p.tables e below (s₁.setTop (mkF m 0 #[.val (.ref z0)] [])) t → Steps p.tables e below (s₁.setTop (entryFrame m #[(.ref z0)] 1)) t := fun t k => castTop (by first | (simp [entryFrame, mkF, argsToLocals, Value.category, maxLocals]; done) | rfl) k
  have KK0 : Keep h0 h0 [] := Keep.refl _ _
  obtain ⟨zm, z9, zn, zo⟩ := getF X0 hx hZ hown (host := "") (Or.inl (own_W hw 22 rfl)) Via.refl e0 zi (g := (mkF m 1 #[.val (.ref z0)] [(.ref z0)])) rfl rfl (hb hby y8_1)
  obtain ⟨z5, z3, z6, zp⟩ := getF z9 hx hZ hown (host := "") (Or.inl (own_W hw 20 rfl)) Via.refl zn zj (g := (mkF m 5 #[.val (.ref z0)] [(.ref z0), (.ref z1)])) rfl rfl (hb hby y8_5)
  obtain ⟨za, z7, zw, zq, zx, zr, zy⟩ := (id zk)
  have zb : ¬ ((0 : Int32) < 0 ∨ za.slots.size ≤ ((0 : Int32)).toNatClampNeg) := inb_of zq ⟨by decide, by decide⟩
  have zs : za.slots[((0 : Int32)).toNatClampNeg]? = some (.int 1) := Has.at zr zb rfl
  obtain ⟨zc, z8, zz, zt, z10, zu, z11⟩ := (id zl)
  have zd : ¬ ((1 : Int32) < 0 ∨ zc.slots.size ≤ ((1 : Int32)).toNatClampNeg) := inb_of zt ⟨by decide, by decide⟩
  have zv : zc.slots[((1 : Int32)).toNatClampNeg]? = some (.int z2) := Has.at zu zd rfl
  obtain ⟨fs, hr, hrun, hended, hW, hsame⟩ := z3.leave (v := some (.int z2)) (fun h => by rw [Bd.returns] at h; cases h)
  refine ⟨_, _, pre0 _ ?_, hrun, hended, _, _, rfl, ?_, ⟨_, rfl⟩, hW, hsame.mono (by decide) (by decide)⟩
  · show Steps p.tables e below (s₁.setTop (mkF m 0 #[.val (.ref z0)] [])) _
    refine XS.aloadN X0.here hx rfl (hb hby y8_0) rfl rfl ?_
    refine zo _ ?_
    show Steps p.tables e below (zm.setTop (mkF m 4 #[.val (.ref z0)] [(.ref z1)])) _
    refine XS.aloadN z9.here hx rfl (hb hby y8_4) rfl rfl ?_
    refine zp _ ?_
    show Steps p.tables e below (z5.setTop (mkF m 8 #[.val (.ref z0)] [(.ref z4), (.ref z1)])) _
    refine XS.iconst z3.here hx rfl (hb hby y8_8) ?_
    refine z3.iaload hx (j := (0 : Int32)) (v := (.int 1)) (by rw [z6]; exact z7.1) (State.isArrayOf_alike hZ.alike z7.2.1) z7.2.2 zb zs (g := (mkF m 9 #[.val (.ref z0)] [(.int 0), (.ref z4), (.ref z1)])) rfl rfl (hb hby y8_9) _ ?_
    show Steps p.tables e below (z5.setTop (mkF m 10 #[.val (.ref z0)] [(.int 1), (.ref z1)])) _
    refine z3.iaload hx (j := (1 : Int32)) (v := (.int z2)) (by rw [z6]; exact z8.1) (State.isArrayOf_alike hZ.alike z8.2.1) z8.2.2 zd zv (g := (mkF m 10 #[.val (.ref z0)] [(.int 1), (.ref z1)])) rfl rfl (hb hby y8_10) _ ?_
    show Steps p.tables e below (z5.setTop (mkF m 11 #[.val (.ref z0)] [(.int z2)])) _
    exact retI z3 hx Bd.returns (hb hby y8_11) hr
  · show PQ (some (.int z2)) h0 n0 _ z5.heap _
    rw [z6]
    exact ⟨rfl, N0, rfl⟩
set_option maxRecDepth 65536 in
set_option maxHeartbeats 40000000 in
theorem rmF2 (l : Launch) (Z : State) (a0 : Array Value) (hw : ∀ d ∈ tables_1, d.before a0 Z = true) (ws : List Jvm.Cond) (h0 : Heap) (n0 : Nat) (A : Nat → Addr) (K : Nat → ClassId) (s1 : Int32) (s2 : Int32) (s3 : Int32) (ze : Int32) (zf : Int32) (z2 : Int32)  (z0 : Addr) (z4 : Addr) (z1 : Addr) (zg : ClassId) (zh : ClassId) (EN : own_St Z A K) (OL0 : Old Z n0 h0) (zi : Fld Z h0 z0 y_s0 "from" "[I" (.ref z1)) (zj : Fld Z h0 z0 y_s0 "slot" "[I" (.ref z4)) (zk : Arv Z h0 z4 zg .int 16 [(.int 2), (.int s2), (.int s3)] (.int 0)) (zl : Arv Z h0 z1 zh .int 16 [(.int ze), (.int zf), (.int z2)] (.int 0)) :
    MetFree l own_m1 (head1 (Jvm.Cond.code own_m1 prog_48_method_5_code 1 (some .int) :: ws) (Room.mk 0 0 0 0)) (fun a U => a = #[(.ref z0)] ∧ Z.Warmed39 U.vm ∧ U.heap = h0) (fun _ _ _ _ _ => True) (fun _ U o U' => ∃ v L, o = .returned v ∧ (PQ (some (.int z2)) h0 n0) v U'.heap L ∧ FrameEnd U o U' L (Room.mk 0 0 0 0).cells (Room.mk 0 0 0 0).slots) := by
  refine MetFree.of_bodySF (plainFor_of_name own_pn0) hisR ?_
  intro p e s m args below meth c s₁ Bd hml0 hP hK
  obtain ⟨rfl, hZ, hh⟩ := hP
  have hx := Bd.exec
  have hby := Bd.bytes
  have hml : c.maxLocals = 1 := hml0
  have hown : s.vm.findClass y_s0 = some m.cls := findClass_of_methodNamed Bd.named
  have hnm := (name_of_methodNamed Bd.named Bd.method).1
  have X0 : Stand p l e (Room.mk 0 0 0 0) s m #[(.ref z0)] below meth c s₁ [] 0 0 := Stand.of_body Bd
  have e0 : s₁.heap = h0 := by rw [← hh, Bd.state]; rfl
  have N0 := Fr.nil n0
  have pre0 : ∀ t, Steps p.tables e below (s₁.setTop (mkF m 0 #[.val (.ref z0)] [])) t → Steps p.tables e below (s₁.setTop (entryFrame m #[(.ref z0)] 1)) t := fun t k => castTop (by first | (simp [entryFrame, mkF, argsToLocals, Value.category, maxLocals]; done) | rfl) k
  have KK0 : Keep h0 h0 [] := Keep.refl _ _
  obtain ⟨zm, z9, zn, zo⟩ := getF X0 hx hZ hown (host := "") (Or.inl (own_W hw 22 rfl)) Via.refl e0 zi (g := (mkF m 1 #[.val (.ref z0)] [(.ref z0)])) rfl rfl (hb hby y8_1)
  obtain ⟨z5, z3, z6, zp⟩ := getF z9 hx hZ hown (host := "") (Or.inl (own_W hw 20 rfl)) Via.refl zn zj (g := (mkF m 5 #[.val (.ref z0)] [(.ref z0), (.ref z1)])) rfl rfl (hb hby y8_5)
  obtain ⟨za, z7, zw, zq, zx, zr, zy⟩ := (id zk)
  have zb : ¬ ((0 : Int32) < 0 ∨ za.slots.size ≤ ((0 : Int32)).toNatClampNeg) := inb_of zq ⟨by decide, by decide⟩
  have zs : za.slots[((0 : Int32)).toNatClampNeg]? = some (.int 2) := Has.at zr zb rfl
  obtain ⟨zc, z8, zz, zt, z10, zu, z11⟩ := (id zl)
  have zd : ¬ ((2 : Int32) < 0 ∨ zc.slots.size ≤ ((2 : Int32)).toNatClampNeg) := inb_of zt ⟨by decide, by decide⟩
  have zv : zc.slots[((2 : Int32)).toNatClampNeg]? = some (.int z2) := Has.at zu zd rfl
  obtain ⟨fs, hr, hrun, hended, hW, hsame⟩ := z3.leave (v := some (.int z2)) (fun h => by rw [Bd.returns] at h; cases h)
  refine ⟨_, _, pre0 _ ?_, hrun, hended, _, _, rfl, ?_, ⟨_, rfl⟩, hW, hsame.mono (by decide) (by decide)⟩
  · show Steps p.tables e below (s₁.setTop (mkF m 0 #[.val (.ref z0)] [])) _
    refine XS.aloadN X0.here hx rfl (hb hby y8_0) rfl rfl ?_
    refine zo _ ?_
    show Steps p.tables e below (zm.setTop (mkF m 4 #[.val (.ref z0)] [(.ref z1)])) _
    refine XS.aloadN z9.here hx rfl (hb hby y8_4) rfl rfl ?_
    refine zp _ ?_
    show Steps p.tables e below (z5.setTop (mkF m 8 #[.val (.ref z0)] [(.ref z4), (.ref z1)])) _
    refine XS.iconst z3.here hx rfl (hb hby y8_8) ?_
    refine z3.iaload hx (j := (0 : Int32)) (v := (.int 2)) (by rw [z6]; exact z7.1) (State.isArrayOf_alike hZ.alike z7.2.1) z7.2.2 zb zs (g := (mkF m 9 #[.val (.ref z0)] [(.int 0), (.ref z4), (.ref z1)])) rfl rfl (hb hby y8_9) _ ?_
    show Steps p.tables e below (z5.setTop (mkF m 10 #[.val (.ref z0)] [(.int 2), (.ref z1)])) _
    refine z3.iaload hx (j := (2 : Int32)) (v := (.int z2)) (by rw [z6]; exact z8.1) (State.isArrayOf_alike hZ.alike z8.2.1) z8.2.2 zd zv (g := (mkF m 10 #[.val (.ref z0)] [(.int 2), (.ref z1)])) rfl rfl (hb hby y8_10) _ ?_
    show Steps p.tables e below (z5.setTop (mkF m 11 #[.val (.ref z0)] [(.int z2)])) _
    exact retI z3 hx Bd.returns (hb hby y8_11) hr
  · show PQ (some (.int z2)) h0 n0 _ z5.heap _
    rw [z6]
    exact ⟨rfl, N0, rfl⟩
theorem own_ib_y1 {x y : Int32} {a b : Int64} (h : x < y) : ¬ (own_f_rmIB x y a b = (0 : Int32)) := by
  unfold own_f_rmIB; rw [if_pos ((own_llt x y).mpr h)]; decide
theorem own_ib_n1 {x y : Int32} {a b : Int64} (h : y < x) : own_f_rmIB x y a b = (0 : Int32) := by
  unfold own_f_rmIB; rw [if_neg (fun z => own_sw1 h ((own_llt x y).mp z)), if_neg (fun z => own_sw2 h ((own_leq x y).mp z))]
theorem own_ib_y2 {x y : Int32} {a b : Int64} (h : ¬ (y < x)) (k : a < b) : ¬ (own_f_rmIB x y a b = (0 : Int32)) := by
  by_cases q : x < y
  · exact own_ib_y1 q
  · have e : x = y := own_sw7 q h
    unfold own_f_rmIB; rw [if_neg (fun z => q ((own_llt x y).mp z)), if_pos ((own_leq x y).mpr e), if_pos ((lw_lt a b).mpr k)]; decide
theorem own_ib_n2 {x y : Int32} {a b : Int64} (h : ¬ (x < y)) (k : ¬ (a < b)) : own_f_rmIB x y a b = (0 : Int32) := by
  unfold own_f_rmIB; rw [if_neg (fun z => h ((own_llt x y).mp z))]
  by_cases q : (lcmpW x.toInt64 y.toInt64) = (0 : Int32)
  · rw [if_pos q, if_neg (fun z => k ((lw_lt a b).mp z))]
  · rw [if_neg q]
theorem own_bf_y1 {x y a b : Int32} (h : x < y) : ¬ (own_f_rmB x a y b = (0 : Int32)) := by
  unfold own_f_rmB; rw [if_pos h]; decide
theorem own_bf_n1 {x y a b : Int32} (h : y < x) : own_f_rmB x a y b = (0 : Int32) := by
  unfold own_f_rmB; rw [if_neg (own_sw1 h), if_neg (own_sw2 h)]
theorem own_bf_y2 {x y a b : Int32} (h : ¬ (y < x)) (k : a < b) : ¬ (own_f_rmB x a y b = (0 : Int32)) := by
  by_cases q : x < y
  · exact own_bf_y1 q
  · have e : x = y := own_sw7 q h
    unfold own_f_rmB; rw [if_neg q, if_pos e, if_pos k]; decide
theorem own_bf_n2 {x y a b : Int32} (h : ¬ (x < y)) (k : ¬ (a < b)) : own_f_rmB x a y b = (0 : Int32) := by
  unfold own_f_rmB; rw [if_neg h]
  by_cases q : x = y
  · rw [if_pos q, if_neg k]
  · rw [if_neg q]
def Q_rmL2 (Z : State) (p1 : Int32) (p2 : Int32) (p3 : Int32) (p4 : Int32) (p5 : Int32) (p6 : Int32) (A : Nat → Addr) (K : Nat → ClassId) (z2 : Addr) (z0 : Addr) (z1 : ClassId) (h0 : Heap) (n0 : Nat) (v : Option Value) (h : Heap) (L : List Loc) : Prop := v = none ∧ Fr n0 L ∧ Keep h0 h [z0] ∧ (Arv Z h z0 z1 .int 16 [(.int 15), (.int 14), (.int 13), (.int 12), (.int 11), (.int 10), (.int 9), (.int 8), (.int 7), (.int 6), (.int 5), (.int 4), (.int 3), (.int 2), (.int 1), (.int 0)] (.int 0))
theorem y9_0 : decode prog_48_method_13_code 0 = .ok (.iload_n 1, 1) := by decide +kernel
theorem y9_1 : decode prog_48_method_13_code 1 = .ok (.istore_n 2, 1) := by decide +kernel
theorem y9_2 : decode prog_48_method_13_code 2 = .ok (.iload_n 2, 1) := by decide +kernel
theorem y9_3 : decode prog_48_method_13_code 3 = .ok (.aload_n 0, 1) := by decide +kernel
theorem y9_4 : decode prog_48_method_13_code 4 = .ok (.getfield 33, 3) := by decide +kernel
theorem y9_7 : decode prog_48_method_13_code 7 = .ok (.arraylength, 1) := by decide +kernel
theorem y9_8 : decode prog_48_method_13_code 8 = .ok (.if_icmp .ge 24, 3) := by decide +kernel
theorem y9_11 : decode prog_48_method_13_code 11 = .ok (.aload_n 0, 1) := by decide +kernel
theorem y9_12 : decode prog_48_method_13_code 12 = .ok (.getfield 33, 3) := by decide +kernel
theorem y9_15 : decode prog_48_method_13_code 15 = .ok (.aload_n 0, 1) := by decide +kernel
theorem y9_16 : decode prog_48_method_13_code 16 = .ok (.getfield 33, 3) := by decide +kernel
theorem y9_19 : decode prog_48_method_13_code 19 = .ok (.arraylength, 1) := by decide +kernel
theorem y9_20 : decode prog_48_method_13_code 20 = .ok (.iconst 1, 1) := by decide +kernel
theorem y9_21 : decode prog_48_method_13_code 21 = .ok (.isub, 1) := by decide +kernel
theorem y9_22 : decode prog_48_method_13_code 22 = .ok (.iload_n 2, 1) := by decide +kernel
theorem y9_23 : decode prog_48_method_13_code 23 = .ok (.isub, 1) := by decide +kernel
theorem y9_24 : decode prog_48_method_13_code 24 = .ok (.iload_n 2, 1) := by decide +kernel
theorem y9_25 : decode prog_48_method_13_code 25 = .ok (.iastore, 1) := by decide +kernel
theorem y9_26 : decode prog_48_method_13_code 26 = .ok (.iinc 2 1, 3) := by decide +kernel
theorem y9_29 : decode prog_48_method_13_code 29 = .ok (.goto (-27), 3) := by decide +kernel
theorem y9_32 : decode prog_48_method_13_code 32 = .ok (.return_, 1) := by decide +kernel
set_option maxRecDepth 65536 in
set_option maxHeartbeats 40000000 in
theorem rmL2 (l : Launch) (Z : State) (a0 : Array Value) (hw : ∀ d ∈ tables_1, d.before a0 Z = true) (ws : List Jvm.Cond) (h0 : Heap) (n0 : Nat) (p1 : Int32) (p2 : Int32) (p3 : Int32) (p4 : Int32) (p5 : Int32) (p6 : Int32) (A : Nat → Addr) (K : Nat → ClassId)  (z0 : Addr) (z1 : Addr) (z3 : ClassId) (EN : own_St Z A K) (OL0 : Old Z n0 h0) (z11 : Fld Z h0 z0 y_s0 "free" "[I" (.ref z1)) (z2v : Arv Z h0 z1 z3 .int 16 [] (.int 0)) (z4 : z0 ≠ z1) (z2 : n0 ≤ z1) :
    MetFree l own_m10 (head1 (Jvm.Cond.code own_m10 prog_48_method_13_code 3 none :: ws) (Room.mk 0 0 0 0)) (fun a U => a = #[(.ref z0), (.int 0)] ∧ Z.Warmed39 U.vm ∧ U.heap = h0) (fun _ _ _ _ _ => True) (fun _ U o U' => ∃ v L, o = .returned v ∧ Q_rmL2 Z p1 p2 p3 p4 p5 p6 A K z0 z1 z3 h0 n0 v U'.heap L ∧ FrameEnd U o U' L (Room.mk 0 0 0 0).cells (Room.mk 0 0 0 0).slots) := by
  refine MetFree.of_bodySF (plainFor_of_name own_pn0) hisR ?_
  intro p e s m args below meth c s₁ Bd hml0 hP hK
  obtain ⟨rfl, hZ, hh⟩ := hP
  have hx := Bd.exec
  have hby := Bd.bytes
  have hml : c.maxLocals = 3 := hml0
  have hown : s.vm.findClass y_s0 = some m.cls := findClass_of_methodNamed Bd.named
  have hnm := (name_of_methodNamed Bd.named Bd.method).1
  have X0 : Stand p l e (Room.mk 0 0 0 0) s m #[(.ref z0), (.int 0)] below meth c s₁ [] 0 0 := Stand.of_body Bd
  have e0 : s₁.heap = h0 := by rw [← hh, Bd.state]; rfl
  have N0 := Fr.nil n0
  have pre0 : ∀ t, Steps p.tables e below (s₁.setTop (mkF m 0 #[.val (.ref z0), .val (.int 0), .unset] [])) t → Steps p.tables e below (s₁.setTop (entryFrame m #[(.ref z0), (.int 0)] 3)) t := fun t k => castTop (by first | (simp [entryFrame, mkF, argsToLocals, Value.category, maxLocals]; done) | rfl) k
  have KK0 : Keep h0 h0 [z1] := Keep.refl _ _
  obtain ⟨z2w, z12, z3r, z7e⟩ := getF X0 hx hZ hown (host := "") (Or.inl (own_W hw 30 rfl)) Via.refl e0 z11 (g := (mkF m 4 #[.val (.ref z0), .val (.int 0), .val (.int 0)] [(.ref z0), (.int 0)])) rfl rfl (hb hby y9_4)
  obtain ⟨zgt, z3s, -, z7f, z7g, -, -⟩ := (id z2v)
  obtain ⟨z7h, z3t, z7i, z7j⟩ := getF z12 hx hZ hown (host := "") (Or.inl (own_W hw 30 rfl)) Via.refl z3r z11 (g := (mkF m 12 #[.val (.ref z0), .val (.int 0), .val (.int 0)] [(.ref z0)])) rfl rfl (hb hby y9_12)
  obtain ⟨z13, z5, z3u, z7k⟩ := getF z3t hx hZ hown (host := "") (Or.inl (own_W hw 30 rfl)) Via.refl z7i z11 (g := (mkF m 16 #[.val (.ref z0), .val (.int 0), .val (.int 0)] [(.ref z0), (.ref z1)])) rfl rfl (hb hby y9_16)
  obtain ⟨zgu, z3v, -, z7l, z7m, -, -⟩ := (id z2v)
  obtain ⟨z7n, z3w, z7o, z3x, z7p, z7q, z7r⟩ := (id (Arv.pad z2v (pad_rep [] (.int 0) 16)))
  have z7s : ¬ ((15 : Int32) < 0 ∨ z7n.slots.size ≤ ((15 : Int32)).toNatClampNeg) := inb_of z3x ⟨by decide, by decide⟩
  obtain ⟨z3y, z7t, zl, z7u, z14, z7v⟩ := stI z5 hx hZ z3u z3w (j := (15 : Int32)) z7s (g := (mkF m 25 #[.val (.ref z0), .val (.int 0), .val (.int 0)] [(.int 0), (.int 15), (.ref z1)])) rfl rfl (hb hby y9_25)
  have z7w := Fr.snoc zl N0 z2
  have z7x := OL0.wr z14 z2
  have z7y := KK0.wr z14 (own_Ix 0 rfl)
  have z2x : Arv Z z7t z1 z3 .int 16 [(.int 0), (.int 0), (.int 0), (.int 0), (.int 0), (.int 0), (.int 0), (.int 0), (.int 0), (.int 0), (.int 0), (.int 0), (.int 0), (.int 0), (.int 0), (.int 0)] (.int 0) := Arv.set z3w z7o z3x z7p z7q z7r rfl z14 15 (by decide) (by decide : 15 < 16)
  have z15 := (z11.other z14 (Or.inl z4))
  obtain ⟨z2y, z16, z3z, z7z⟩ := getF zl hx hZ hown (host := "") (Or.inl (own_W hw 30 rfl)) Via.refl z7u z15 (g := (mkF m 4 #[.val (.ref z0), .val (.int 0), .val (.int 1)] [(.ref z0), (.int 1)])) rfl rfl (hb hby y9_4)
  obtain ⟨zgv, z40, -, z80, z81, -, -⟩ := (id z2x)
  obtain ⟨z82, z41, z83, z84⟩ := getF z16 hx hZ hown (host := "") (Or.inl (own_W hw 30 rfl)) Via.refl z3z z15 (g := (mkF m 12 #[.val (.ref z0), .val (.int 0), .val (.int 1)] [(.ref z0)])) rfl rfl (hb hby y9_12)
  obtain ⟨z17, z6, z42, z85⟩ := getF z41 hx hZ hown (host := "") (Or.inl (own_W hw 30 rfl)) Via.refl z83 z15 (g := (mkF m 16 #[.val (.ref z0), .val (.int 0), .val (.int 1)] [(.ref z0), (.ref z1)])) rfl rfl (hb hby y9_16)
  obtain ⟨zgw, z43, -, z86, z87, -, -⟩ := (id z2x)
  obtain ⟨z88, z44, z89, z45, z8a, z8b, z8c⟩ := (id z2x)
  have z8d : ¬ ((14 : Int32) < 0 ∨ z88.slots.size ≤ ((14 : Int32)).toNatClampNeg) := inb_of z45 ⟨by decide, by decide⟩
  obtain ⟨z46, z8e, zm, z8f, z18, z8g⟩ := stI z6 hx hZ z42 z44 (j := (14 : Int32)) z8d (g := (mkF m 25 #[.val (.ref z0), .val (.int 0), .val (.int 1)] [(.int 1), (.int 14), (.ref z1)])) rfl rfl (hb hby y9_25)
  have z8h := Fr.snoc zm z7w z2
  have z8i := z7x.wr z18 z2
  have z8j := z7y.wr z18 (own_Ix 0 rfl)
  have z2z : Arv Z z8e z1 z3 .int 16 [(.int 0), (.int 0), (.int 0), (.int 0), (.int 0), (.int 0), (.int 0), (.int 0), (.int 0), (.int 0), (.int 0), (.int 0), (.int 0), (.int 0), (.int 1), (.int 0)] (.int 0) := Arv.set z44 z89 z45 z8a z8b z8c rfl z18 14 (by decide) (by decide : 14 < 16)
  have z19 := (z15.other z18 (Or.inl z4))
  obtain ⟨z30, z1a, z47, z8k⟩ := getF zm hx hZ hown (host := "") (Or.inl (own_W hw 30 rfl)) Via.refl z8f z19 (g := (mkF m 4 #[.val (.ref z0), .val (.int 0), .val (.int 2)] [(.ref z0), (.int 2)])) rfl rfl (hb hby y9_4)
  obtain ⟨zgx, z48, -, z8l, z8m, -, -⟩ := (id z2z)
  obtain ⟨z8n, z49, z8o, z8p⟩ := getF z1a hx hZ hown (host := "") (Or.inl (own_W hw 30 rfl)) Via.refl z47 z19 (g := (mkF m 12 #[.val (.ref z0), .val (.int 0), .val (.int 2)] [(.ref z0)])) rfl rfl (hb hby y9_12)
  obtain ⟨z1b, z7, z4a, z8q⟩ := getF z49 hx hZ hown (host := "") (Or.inl (own_W hw 30 rfl)) Via.refl z8o z19 (g := (mkF m 16 #[.val (.ref z0), .val (.int 0), .val (.int 2)] [(.ref z0), (.ref z1)])) rfl rfl (hb hby y9_16)
  obtain ⟨zgy, z4b, -, z8r, z8s, -, -⟩ := (id z2z)
  obtain ⟨z8t, z4c, z8u, z4d, z8v, z8w, z8x⟩ := (id z2z)
  have z8y : ¬ ((13 : Int32) < 0 ∨ z8t.slots.size ≤ ((13 : Int32)).toNatClampNeg) := inb_of z4d ⟨by decide, by decide⟩
  obtain ⟨z4e, z8z, zn, z90, z1c, z91⟩ := stI z7 hx hZ z4a z4c (j := (13 : Int32)) z8y (g := (mkF m 25 #[.val (.ref z0), .val (.int 0), .val (.int 2)] [(.int 2), (.int 13), (.ref z1)])) rfl rfl (hb hby y9_25)
  have z92 := Fr.snoc zn z8h z2
  have z93 := z8i.wr z1c z2
  have z94 := z8j.wr z1c (own_Ix 0 rfl)
  have z31 : Arv Z z8z z1 z3 .int 16 [(.int 0), (.int 0), (.int 0), (.int 0), (.int 0), (.int 0), (.int 0), (.int 0), (.int 0), (.int 0), (.int 0), (.int 0), (.int 0), (.int 2), (.int 1), (.int 0)] (.int 0) := Arv.set z4c z8u z4d z8v z8w z8x rfl z1c 13 (by decide) (by decide : 13 < 16)
  have z1d := (z19.other z1c (Or.inl z4))
  obtain ⟨z32, z1e, z4f, z95⟩ := getF zn hx hZ hown (host := "") (Or.inl (own_W hw 30 rfl)) Via.refl z90 z1d (g := (mkF m 4 #[.val (.ref z0), .val (.int 0), .val (.int 3)] [(.ref z0), (.int 3)])) rfl rfl (hb hby y9_4)
  obtain ⟨zgz, z4g, -, z96, z97, -, -⟩ := (id z31)
  obtain ⟨z98, z4h, z99, z9a⟩ := getF z1e hx hZ hown (host := "") (Or.inl (own_W hw 30 rfl)) Via.refl z4f z1d (g := (mkF m 12 #[.val (.ref z0), .val (.int 0), .val (.int 3)] [(.ref z0)])) rfl rfl (hb hby y9_12)
  obtain ⟨z1f, z8, z4i, z9b⟩ := getF z4h hx hZ hown (host := "") (Or.inl (own_W hw 30 rfl)) Via.refl z99 z1d (g := (mkF m 16 #[.val (.ref z0), .val (.int 0), .val (.int 3)] [(.ref z0), (.ref z1)])) rfl rfl (hb hby y9_16)
  obtain ⟨zh0, z4j, -, z9c, z9d, -, -⟩ := (id z31)
  obtain ⟨z9e, z4k, z9f, z4l, z9g, z9h, z9i⟩ := (id z31)
  have z9j : ¬ ((12 : Int32) < 0 ∨ z9e.slots.size ≤ ((12 : Int32)).toNatClampNeg) := inb_of z4l ⟨by decide, by decide⟩
  obtain ⟨z4m, z9k, zo, z9l, z1g, z9m⟩ := stI z8 hx hZ z4i z4k (j := (12 : Int32)) z9j (g := (mkF m 25 #[.val (.ref z0), .val (.int 0), .val (.int 3)] [(.int 3), (.int 12), (.ref z1)])) rfl rfl (hb hby y9_25)
  have z9n := Fr.snoc zo z92 z2
  have z9o := z93.wr z1g z2
  have z9p := z94.wr z1g (own_Ix 0 rfl)
  have z33 : Arv Z z9k z1 z3 .int 16 [(.int 0), (.int 0), (.int 0), (.int 0), (.int 0), (.int 0), (.int 0), (.int 0), (.int 0), (.int 0), (.int 0), (.int 0), (.int 3), (.int 2), (.int 1), (.int 0)] (.int 0) := Arv.set z4k z9f z4l z9g z9h z9i rfl z1g 12 (by decide) (by decide : 12 < 16)
  have z1h := (z1d.other z1g (Or.inl z4))
  obtain ⟨z34, z1i, z4n, z9q⟩ := getF zo hx hZ hown (host := "") (Or.inl (own_W hw 30 rfl)) Via.refl z9l z1h (g := (mkF m 4 #[.val (.ref z0), .val (.int 0), .val (.int 4)] [(.ref z0), (.int 4)])) rfl rfl (hb hby y9_4)
  obtain ⟨zh1, z4o, -, z9r, z9s, -, -⟩ := (id z33)
  obtain ⟨z9t, z4p, z9u, z9v⟩ := getF z1i hx hZ hown (host := "") (Or.inl (own_W hw 30 rfl)) Via.refl z4n z1h (g := (mkF m 12 #[.val (.ref z0), .val (.int 0), .val (.int 4)] [(.ref z0)])) rfl rfl (hb hby y9_12)
  obtain ⟨z1j, z9, z4q, z9w⟩ := getF z4p hx hZ hown (host := "") (Or.inl (own_W hw 30 rfl)) Via.refl z9u z1h (g := (mkF m 16 #[.val (.ref z0), .val (.int 0), .val (.int 4)] [(.ref z0), (.ref z1)])) rfl rfl (hb hby y9_16)
  obtain ⟨zh2, z4r, -, z9x, z9y, -, -⟩ := (id z33)
  obtain ⟨z9z, z4s, za0, z4t, za1, za2, za3⟩ := (id z33)
  have za4 : ¬ ((11 : Int32) < 0 ∨ z9z.slots.size ≤ ((11 : Int32)).toNatClampNeg) := inb_of z4t ⟨by decide, by decide⟩
  obtain ⟨z4u, za5, zp, za6, z1k, za7⟩ := stI z9 hx hZ z4q z4s (j := (11 : Int32)) za4 (g := (mkF m 25 #[.val (.ref z0), .val (.int 0), .val (.int 4)] [(.int 4), (.int 11), (.ref z1)])) rfl rfl (hb hby y9_25)
  have za8 := Fr.snoc zp z9n z2
  have za9 := z9o.wr z1k z2
  have zaa := z9p.wr z1k (own_Ix 0 rfl)
  have z35 : Arv Z za5 z1 z3 .int 16 [(.int 0), (.int 0), (.int 0), (.int 0), (.int 0), (.int 0), (.int 0), (.int 0), (.int 0), (.int 0), (.int 0), (.int 4), (.int 3), (.int 2), (.int 1), (.int 0)] (.int 0) := Arv.set z4s za0 z4t za1 za2 za3 rfl z1k 11 (by decide) (by decide : 11 < 16)
  have z1l := (z1h.other z1k (Or.inl z4))
  obtain ⟨z36, z1m, z4v, zab⟩ := getF zp hx hZ hown (host := "") (Or.inl (own_W hw 30 rfl)) Via.refl za6 z1l (g := (mkF m 4 #[.val (.ref z0), .val (.int 0), .val (.int 5)] [(.ref z0), (.int 5)])) rfl rfl (hb hby y9_4)
  obtain ⟨zh3, z4w, -, zac, zad, -, -⟩ := (id z35)
  obtain ⟨zae, z4x, zaf, zag⟩ := getF z1m hx hZ hown (host := "") (Or.inl (own_W hw 30 rfl)) Via.refl z4v z1l (g := (mkF m 12 #[.val (.ref z0), .val (.int 0), .val (.int 5)] [(.ref z0)])) rfl rfl (hb hby y9_12)
  obtain ⟨z1n, za, z4y, zah⟩ := getF z4x hx hZ hown (host := "") (Or.inl (own_W hw 30 rfl)) Via.refl zaf z1l (g := (mkF m 16 #[.val (.ref z0), .val (.int 0), .val (.int 5)] [(.ref z0), (.ref z1)])) rfl rfl (hb hby y9_16)
  obtain ⟨zh4, z4z, -, zai, zaj, -, -⟩ := (id z35)
  obtain ⟨zak, z50, zal, z51, zam, zan, zao⟩ := (id z35)
  have zap : ¬ ((10 : Int32) < 0 ∨ zak.slots.size ≤ ((10 : Int32)).toNatClampNeg) := inb_of z51 ⟨by decide, by decide⟩
  obtain ⟨z52, zaq, zq, zar, z1o, zas⟩ := stI za hx hZ z4y z50 (j := (10 : Int32)) zap (g := (mkF m 25 #[.val (.ref z0), .val (.int 0), .val (.int 5)] [(.int 5), (.int 10), (.ref z1)])) rfl rfl (hb hby y9_25)
  have zat := Fr.snoc zq za8 z2
  have zau := za9.wr z1o z2
  have zav := zaa.wr z1o (own_Ix 0 rfl)
  have z37 : Arv Z zaq z1 z3 .int 16 [(.int 0), (.int 0), (.int 0), (.int 0), (.int 0), (.int 0), (.int 0), (.int 0), (.int 0), (.int 0), (.int 5), (.int 4), (.int 3), (.int 2), (.int 1), (.int 0)] (.int 0) := Arv.set z50 zal z51 zam zan zao rfl z1o 10 (by decide) (by decide : 10 < 16)
  have z1p := (z1l.other z1o (Or.inl z4))
  obtain ⟨z38, z1q, z53, zaw⟩ := getF zq hx hZ hown (host := "") (Or.inl (own_W hw 30 rfl)) Via.refl zar z1p (g := (mkF m 4 #[.val (.ref z0), .val (.int 0), .val (.int 6)] [(.ref z0), (.int 6)])) rfl rfl (hb hby y9_4)
  obtain ⟨zh5, z54, -, zax, zay, -, -⟩ := (id z37)
  obtain ⟨zaz, z55, zb0, zb1⟩ := getF z1q hx hZ hown (host := "") (Or.inl (own_W hw 30 rfl)) Via.refl z53 z1p (g := (mkF m 12 #[.val (.ref z0), .val (.int 0), .val (.int 6)] [(.ref z0)])) rfl rfl (hb hby y9_12)
  obtain ⟨z1r, zb, z56, zb2⟩ := getF z55 hx hZ hown (host := "") (Or.inl (own_W hw 30 rfl)) Via.refl zb0 z1p (g := (mkF m 16 #[.val (.ref z0), .val (.int 0), .val (.int 6)] [(.ref z0), (.ref z1)])) rfl rfl (hb hby y9_16)
  obtain ⟨zh6, z57, -, zb3, zb4, -, -⟩ := (id z37)
  obtain ⟨zb5, z58, zb6, z59, zb7, zb8, zb9⟩ := (id z37)
  have zba : ¬ ((9 : Int32) < 0 ∨ zb5.slots.size ≤ ((9 : Int32)).toNatClampNeg) := inb_of z59 ⟨by decide, by decide⟩
  obtain ⟨z5a, zbb, zr, zbc, z1s, zbd⟩ := stI zb hx hZ z56 z58 (j := (9 : Int32)) zba (g := (mkF m 25 #[.val (.ref z0), .val (.int 0), .val (.int 6)] [(.int 6), (.int 9), (.ref z1)])) rfl rfl (hb hby y9_25)
  have zbe := Fr.snoc zr zat z2
  have zbf := zau.wr z1s z2
  have zbg := zav.wr z1s (own_Ix 0 rfl)
  have z39 : Arv Z zbb z1 z3 .int 16 [(.int 0), (.int 0), (.int 0), (.int 0), (.int 0), (.int 0), (.int 0), (.int 0), (.int 0), (.int 6), (.int 5), (.int 4), (.int 3), (.int 2), (.int 1), (.int 0)] (.int 0) := Arv.set z58 zb6 z59 zb7 zb8 zb9 rfl z1s 9 (by decide) (by decide : 9 < 16)
  have z1t := (z1p.other z1s (Or.inl z4))
  obtain ⟨z3a, z1u, z5b, zbh⟩ := getF zr hx hZ hown (host := "") (Or.inl (own_W hw 30 rfl)) Via.refl zbc z1t (g := (mkF m 4 #[.val (.ref z0), .val (.int 0), .val (.int 7)] [(.ref z0), (.int 7)])) rfl rfl (hb hby y9_4)
  obtain ⟨zh7, z5c, -, zbi, zbj, -, -⟩ := (id z39)
  obtain ⟨zbk, z5d, zbl, zbm⟩ := getF z1u hx hZ hown (host := "") (Or.inl (own_W hw 30 rfl)) Via.refl z5b z1t (g := (mkF m 12 #[.val (.ref z0), .val (.int 0), .val (.int 7)] [(.ref z0)])) rfl rfl (hb hby y9_12)
  obtain ⟨z1v, zc, z5e, zbn⟩ := getF z5d hx hZ hown (host := "") (Or.inl (own_W hw 30 rfl)) Via.refl zbl z1t (g := (mkF m 16 #[.val (.ref z0), .val (.int 0), .val (.int 7)] [(.ref z0), (.ref z1)])) rfl rfl (hb hby y9_16)
  obtain ⟨zh8, z5f, -, zbo, zbp, -, -⟩ := (id z39)
  obtain ⟨zbq, z5g, zbr, z5h, zbs, zbt, zbu⟩ := (id z39)
  have zbv : ¬ ((8 : Int32) < 0 ∨ zbq.slots.size ≤ ((8 : Int32)).toNatClampNeg) := inb_of z5h ⟨by decide, by decide⟩
  obtain ⟨z5i, zbw, zs, zbx, z1w, zby⟩ := stI zc hx hZ z5e z5g (j := (8 : Int32)) zbv (g := (mkF m 25 #[.val (.ref z0), .val (.int 0), .val (.int 7)] [(.int 7), (.int 8), (.ref z1)])) rfl rfl (hb hby y9_25)
  have zbz := Fr.snoc zs zbe z2
  have zc0 := zbf.wr z1w z2
  have zc1 := zbg.wr z1w (own_Ix 0 rfl)
  have z3b : Arv Z zbw z1 z3 .int 16 [(.int 0), (.int 0), (.int 0), (.int 0), (.int 0), (.int 0), (.int 0), (.int 0), (.int 7), (.int 6), (.int 5), (.int 4), (.int 3), (.int 2), (.int 1), (.int 0)] (.int 0) := Arv.set z5g zbr z5h zbs zbt zbu rfl z1w 8 (by decide) (by decide : 8 < 16)
  have z1x := (z1t.other z1w (Or.inl z4))
  obtain ⟨z3c, z1y, z5j, zc2⟩ := getF zs hx hZ hown (host := "") (Or.inl (own_W hw 30 rfl)) Via.refl zbx z1x (g := (mkF m 4 #[.val (.ref z0), .val (.int 0), .val (.int 8)] [(.ref z0), (.int 8)])) rfl rfl (hb hby y9_4)
  obtain ⟨zh9, z5k, -, zc3, zc4, -, -⟩ := (id z3b)
  obtain ⟨zc5, z5l, zc6, zc7⟩ := getF z1y hx hZ hown (host := "") (Or.inl (own_W hw 30 rfl)) Via.refl z5j z1x (g := (mkF m 12 #[.val (.ref z0), .val (.int 0), .val (.int 8)] [(.ref z0)])) rfl rfl (hb hby y9_12)
  obtain ⟨z1z, zd, z5m, zc8⟩ := getF z5l hx hZ hown (host := "") (Or.inl (own_W hw 30 rfl)) Via.refl zc6 z1x (g := (mkF m 16 #[.val (.ref z0), .val (.int 0), .val (.int 8)] [(.ref z0), (.ref z1)])) rfl rfl (hb hby y9_16)
  obtain ⟨zha, z5n, -, zc9, zca, -, -⟩ := (id z3b)
  obtain ⟨zcb, z5o, zcc, z5p, zcd, zce, zcf⟩ := (id z3b)
  have zcg : ¬ ((7 : Int32) < 0 ∨ zcb.slots.size ≤ ((7 : Int32)).toNatClampNeg) := inb_of z5p ⟨by decide, by decide⟩
  obtain ⟨z5q, zch, zt, zci, z20, zcj⟩ := stI zd hx hZ z5m z5o (j := (7 : Int32)) zcg (g := (mkF m 25 #[.val (.ref z0), .val (.int 0), .val (.int 8)] [(.int 8), (.int 7), (.ref z1)])) rfl rfl (hb hby y9_25)
  have zck := Fr.snoc zt zbz z2
  have zcl := zc0.wr z20 z2
  have zcm := zc1.wr z20 (own_Ix 0 rfl)
  have z3d : Arv Z zch z1 z3 .int 16 [(.int 0), (.int 0), (.int 0), (.int 0), (.int 0), (.int 0), (.int 0), (.int 8), (.int 7), (.int 6), (.int 5), (.int 4), (.int 3), (.int 2), (.int 1), (.int 0)] (.int 0) := Arv.set z5o zcc z5p zcd zce zcf rfl z20 7 (by decide) (by decide : 7 < 16)
  have z21 := (z1x.other z20 (Or.inl z4))
  obtain ⟨z3e, z22, z5r, zcn⟩ := getF zt hx hZ hown (host := "") (Or.inl (own_W hw 30 rfl)) Via.refl zci z21 (g := (mkF m 4 #[.val (.ref z0), .val (.int 0), .val (.int 9)] [(.ref z0), (.int 9)])) rfl rfl (hb hby y9_4)
  obtain ⟨zhb, z5s, -, zco, zcp, -, -⟩ := (id z3d)
  obtain ⟨zcq, z5t, zcr, zcs⟩ := getF z22 hx hZ hown (host := "") (Or.inl (own_W hw 30 rfl)) Via.refl z5r z21 (g := (mkF m 12 #[.val (.ref z0), .val (.int 0), .val (.int 9)] [(.ref z0)])) rfl rfl (hb hby y9_12)
  obtain ⟨z23, ze, z5u, zct⟩ := getF z5t hx hZ hown (host := "") (Or.inl (own_W hw 30 rfl)) Via.refl zcr z21 (g := (mkF m 16 #[.val (.ref z0), .val (.int 0), .val (.int 9)] [(.ref z0), (.ref z1)])) rfl rfl (hb hby y9_16)
  obtain ⟨zhc, z5v, -, zcu, zcv, -, -⟩ := (id z3d)
  obtain ⟨zcw, z5w, zcx, z5x, zcy, zcz, zd0⟩ := (id z3d)
  have zd1 : ¬ ((6 : Int32) < 0 ∨ zcw.slots.size ≤ ((6 : Int32)).toNatClampNeg) := inb_of z5x ⟨by decide, by decide⟩
  obtain ⟨z5y, zd2, zu, zd3, z24, zd4⟩ := stI ze hx hZ z5u z5w (j := (6 : Int32)) zd1 (g := (mkF m 25 #[.val (.ref z0), .val (.int 0), .val (.int 9)] [(.int 9), (.int 6), (.ref z1)])) rfl rfl (hb hby y9_25)
  have zd5 := Fr.snoc zu zck z2
  have zd6 := zcl.wr z24 z2
  have zd7 := zcm.wr z24 (own_Ix 0 rfl)
  have z3f : Arv Z zd2 z1 z3 .int 16 [(.int 0), (.int 0), (.int 0), (.int 0), (.int 0), (.int 0), (.int 9), (.int 8), (.int 7), (.int 6), (.int 5), (.int 4), (.int 3), (.int 2), (.int 1), (.int 0)] (.int 0) := Arv.set z5w zcx z5x zcy zcz zd0 rfl z24 6 (by decide) (by decide : 6 < 16)
  have z25 := (z21.other z24 (Or.inl z4))
  obtain ⟨z3g, z26, z5z, zd8⟩ := getF zu hx hZ hown (host := "") (Or.inl (own_W hw 30 rfl)) Via.refl zd3 z25 (g := (mkF m 4 #[.val (.ref z0), .val (.int 0), .val (.int 10)] [(.ref z0), (.int 10)])) rfl rfl (hb hby y9_4)
  obtain ⟨zhd, z60, -, zd9, zda, -, -⟩ := (id z3f)
  obtain ⟨zdb, z61, zdc, zdd⟩ := getF z26 hx hZ hown (host := "") (Or.inl (own_W hw 30 rfl)) Via.refl z5z z25 (g := (mkF m 12 #[.val (.ref z0), .val (.int 0), .val (.int 10)] [(.ref z0)])) rfl rfl (hb hby y9_12)
  obtain ⟨z27, zf, z62, zde⟩ := getF z61 hx hZ hown (host := "") (Or.inl (own_W hw 30 rfl)) Via.refl zdc z25 (g := (mkF m 16 #[.val (.ref z0), .val (.int 0), .val (.int 10)] [(.ref z0), (.ref z1)])) rfl rfl (hb hby y9_16)
  obtain ⟨zhe, z63, -, zdf, zdg, -, -⟩ := (id z3f)
  obtain ⟨zdh, z64, zdi, z65, zdj, zdk, zdl⟩ := (id z3f)
  have zdm : ¬ ((5 : Int32) < 0 ∨ zdh.slots.size ≤ ((5 : Int32)).toNatClampNeg) := inb_of z65 ⟨by decide, by decide⟩
  obtain ⟨z66, zdn, zv, zdo, z28, zdp⟩ := stI zf hx hZ z62 z64 (j := (5 : Int32)) zdm (g := (mkF m 25 #[.val (.ref z0), .val (.int 0), .val (.int 10)] [(.int 10), (.int 5), (.ref z1)])) rfl rfl (hb hby y9_25)
  have zdq := Fr.snoc zv zd5 z2
  have zdr := zd6.wr z28 z2
  have zds := zd7.wr z28 (own_Ix 0 rfl)
  have z3h : Arv Z zdn z1 z3 .int 16 [(.int 0), (.int 0), (.int 0), (.int 0), (.int 0), (.int 10), (.int 9), (.int 8), (.int 7), (.int 6), (.int 5), (.int 4), (.int 3), (.int 2), (.int 1), (.int 0)] (.int 0) := Arv.set z64 zdi z65 zdj zdk zdl rfl z28 5 (by decide) (by decide : 5 < 16)
  have z29 := (z25.other z28 (Or.inl z4))
  obtain ⟨z3i, z2a, z67, zdt⟩ := getF zv hx hZ hown (host := "") (Or.inl (own_W hw 30 rfl)) Via.refl zdo z29 (g := (mkF m 4 #[.val (.ref z0), .val (.int 0), .val (.int 11)] [(.ref z0), (.int 11)])) rfl rfl (hb hby y9_4)
  obtain ⟨zhf, z68, -, zdu, zdv, -, -⟩ := (id z3h)
  obtain ⟨zdw, z69, zdx, zdy⟩ := getF z2a hx hZ hown (host := "") (Or.inl (own_W hw 30 rfl)) Via.refl z67 z29 (g := (mkF m 12 #[.val (.ref z0), .val (.int 0), .val (.int 11)] [(.ref z0)])) rfl rfl (hb hby y9_12)
  obtain ⟨z2b, zg, z6a, zdz⟩ := getF z69 hx hZ hown (host := "") (Or.inl (own_W hw 30 rfl)) Via.refl zdx z29 (g := (mkF m 16 #[.val (.ref z0), .val (.int 0), .val (.int 11)] [(.ref z0), (.ref z1)])) rfl rfl (hb hby y9_16)
  obtain ⟨zhg, z6b, -, ze0, ze1, -, -⟩ := (id z3h)
  obtain ⟨ze2, z6c, ze3, z6d, ze4, ze5, ze6⟩ := (id z3h)
  have ze7 : ¬ ((4 : Int32) < 0 ∨ ze2.slots.size ≤ ((4 : Int32)).toNatClampNeg) := inb_of z6d ⟨by decide, by decide⟩
  obtain ⟨z6e, ze8, zw, ze9, z2c, zea⟩ := stI zg hx hZ z6a z6c (j := (4 : Int32)) ze7 (g := (mkF m 25 #[.val (.ref z0), .val (.int 0), .val (.int 11)] [(.int 11), (.int 4), (.ref z1)])) rfl rfl (hb hby y9_25)
  have zeb := Fr.snoc zw zdq z2
  have zec := zdr.wr z2c z2
  have zed := zds.wr z2c (own_Ix 0 rfl)
  have z3j : Arv Z ze8 z1 z3 .int 16 [(.int 0), (.int 0), (.int 0), (.int 0), (.int 11), (.int 10), (.int 9), (.int 8), (.int 7), (.int 6), (.int 5), (.int 4), (.int 3), (.int 2), (.int 1), (.int 0)] (.int 0) := Arv.set z6c ze3 z6d ze4 ze5 ze6 rfl z2c 4 (by decide) (by decide : 4 < 16)
  have z2d := (z29.other z2c (Or.inl z4))
  obtain ⟨z3k, z2e, z6f, zee⟩ := getF zw hx hZ hown (host := "") (Or.inl (own_W hw 30 rfl)) Via.refl ze9 z2d (g := (mkF m 4 #[.val (.ref z0), .val (.int 0), .val (.int 12)] [(.ref z0), (.int 12)])) rfl rfl (hb hby y9_4)
  obtain ⟨zhh, z6g, -, zef, zeg, -, -⟩ := (id z3j)
  obtain ⟨zeh, z6h, zei, zej⟩ := getF z2e hx hZ hown (host := "") (Or.inl (own_W hw 30 rfl)) Via.refl z6f z2d (g := (mkF m 12 #[.val (.ref z0), .val (.int 0), .val (.int 12)] [(.ref z0)])) rfl rfl (hb hby y9_12)
  obtain ⟨z2f, zh, z6i, zek⟩ := getF z6h hx hZ hown (host := "") (Or.inl (own_W hw 30 rfl)) Via.refl zei z2d (g := (mkF m 16 #[.val (.ref z0), .val (.int 0), .val (.int 12)] [(.ref z0), (.ref z1)])) rfl rfl (hb hby y9_16)
  obtain ⟨zhi, z6j, -, zel, zem, -, -⟩ := (id z3j)
  obtain ⟨zen, z6k, zeo, z6l, zep, zeq, zer⟩ := (id z3j)
  have zes : ¬ ((3 : Int32) < 0 ∨ zen.slots.size ≤ ((3 : Int32)).toNatClampNeg) := inb_of z6l ⟨by decide, by decide⟩
  obtain ⟨z6m, zet, zx, zeu, z2g, zev⟩ := stI zh hx hZ z6i z6k (j := (3 : Int32)) zes (g := (mkF m 25 #[.val (.ref z0), .val (.int 0), .val (.int 12)] [(.int 12), (.int 3), (.ref z1)])) rfl rfl (hb hby y9_25)
  have zew := Fr.snoc zx zeb z2
  have zex := zec.wr z2g z2
  have zey := zed.wr z2g (own_Ix 0 rfl)
  have z3l : Arv Z zet z1 z3 .int 16 [(.int 0), (.int 0), (.int 0), (.int 12), (.int 11), (.int 10), (.int 9), (.int 8), (.int 7), (.int 6), (.int 5), (.int 4), (.int 3), (.int 2), (.int 1), (.int 0)] (.int 0) := Arv.set z6k zeo z6l zep zeq zer rfl z2g 3 (by decide) (by decide : 3 < 16)
  have z2h := (z2d.other z2g (Or.inl z4))
  obtain ⟨z3m, z2i, z6n, zez⟩ := getF zx hx hZ hown (host := "") (Or.inl (own_W hw 30 rfl)) Via.refl zeu z2h (g := (mkF m 4 #[.val (.ref z0), .val (.int 0), .val (.int 13)] [(.ref z0), (.int 13)])) rfl rfl (hb hby y9_4)
  obtain ⟨zhj, z6o, -, zf0, zf1, -, -⟩ := (id z3l)
  obtain ⟨zf2, z6p, zf3, zf4⟩ := getF z2i hx hZ hown (host := "") (Or.inl (own_W hw 30 rfl)) Via.refl z6n z2h (g := (mkF m 12 #[.val (.ref z0), .val (.int 0), .val (.int 13)] [(.ref z0)])) rfl rfl (hb hby y9_12)
  obtain ⟨z2j, zi, z6q, zf5⟩ := getF z6p hx hZ hown (host := "") (Or.inl (own_W hw 30 rfl)) Via.refl zf3 z2h (g := (mkF m 16 #[.val (.ref z0), .val (.int 0), .val (.int 13)] [(.ref z0), (.ref z1)])) rfl rfl (hb hby y9_16)
  obtain ⟨zhk, z6r, -, zf6, zf7, -, -⟩ := (id z3l)
  obtain ⟨zf8, z6s, zf9, z6t, zfa, zfb, zfc⟩ := (id z3l)
  have zfd : ¬ ((2 : Int32) < 0 ∨ zf8.slots.size ≤ ((2 : Int32)).toNatClampNeg) := inb_of z6t ⟨by decide, by decide⟩
  obtain ⟨z6u, zfe, zy, zff, z2k, zfg⟩ := stI zi hx hZ z6q z6s (j := (2 : Int32)) zfd (g := (mkF m 25 #[.val (.ref z0), .val (.int 0), .val (.int 13)] [(.int 13), (.int 2), (.ref z1)])) rfl rfl (hb hby y9_25)
  have zfh := Fr.snoc zy zew z2
  have zfi := zex.wr z2k z2
  have zfj := zey.wr z2k (own_Ix 0 rfl)
  have z3n : Arv Z zfe z1 z3 .int 16 [(.int 0), (.int 0), (.int 13), (.int 12), (.int 11), (.int 10), (.int 9), (.int 8), (.int 7), (.int 6), (.int 5), (.int 4), (.int 3), (.int 2), (.int 1), (.int 0)] (.int 0) := Arv.set z6s zf9 z6t zfa zfb zfc rfl z2k 2 (by decide) (by decide : 2 < 16)
  have z2l := (z2h.other z2k (Or.inl z4))
  obtain ⟨z3o, z2m, z6v, zfk⟩ := getF zy hx hZ hown (host := "") (Or.inl (own_W hw 30 rfl)) Via.refl zff z2l (g := (mkF m 4 #[.val (.ref z0), .val (.int 0), .val (.int 14)] [(.ref z0), (.int 14)])) rfl rfl (hb hby y9_4)
  obtain ⟨zhl, z6w, -, zfl, zfm, -, -⟩ := (id z3n)
  obtain ⟨zfn, z6x, zfo, zfp⟩ := getF z2m hx hZ hown (host := "") (Or.inl (own_W hw 30 rfl)) Via.refl z6v z2l (g := (mkF m 12 #[.val (.ref z0), .val (.int 0), .val (.int 14)] [(.ref z0)])) rfl rfl (hb hby y9_12)
  obtain ⟨z2n, zj, z6y, zfq⟩ := getF z6x hx hZ hown (host := "") (Or.inl (own_W hw 30 rfl)) Via.refl zfo z2l (g := (mkF m 16 #[.val (.ref z0), .val (.int 0), .val (.int 14)] [(.ref z0), (.ref z1)])) rfl rfl (hb hby y9_16)
  obtain ⟨zhm, z6z, -, zfr, zfs, -, -⟩ := (id z3n)
  obtain ⟨zft, z70, zfu, z71, zfv, zfw, zfx⟩ := (id z3n)
  have zfy : ¬ ((1 : Int32) < 0 ∨ zft.slots.size ≤ ((1 : Int32)).toNatClampNeg) := inb_of z71 ⟨by decide, by decide⟩
  obtain ⟨z72, zfz, zz, zg0, z2o, zg1⟩ := stI zj hx hZ z6y z70 (j := (1 : Int32)) zfy (g := (mkF m 25 #[.val (.ref z0), .val (.int 0), .val (.int 14)] [(.int 14), (.int 1), (.ref z1)])) rfl rfl (hb hby y9_25)
  have zg2 := Fr.snoc zz zfh z2
  have zg3 := zfi.wr z2o z2
  have zg4 := zfj.wr z2o (own_Ix 0 rfl)
  have z3p : Arv Z zfz z1 z3 .int 16 [(.int 0), (.int 14), (.int 13), (.int 12), (.int 11), (.int 10), (.int 9), (.int 8), (.int 7), (.int 6), (.int 5), (.int 4), (.int 3), (.int 2), (.int 1), (.int 0)] (.int 0) := Arv.set z70 zfu z71 zfv zfw zfx rfl z2o 1 (by decide) (by decide : 1 < 16)
  have z2p := (z2l.other z2o (Or.inl z4))
  obtain ⟨z3q, z2q, z73, zg5⟩ := getF zz hx hZ hown (host := "") (Or.inl (own_W hw 30 rfl)) Via.refl zg0 z2p (g := (mkF m 4 #[.val (.ref z0), .val (.int 0), .val (.int 15)] [(.ref z0), (.int 15)])) rfl rfl (hb hby y9_4)
  obtain ⟨zhn, z74, -, zg6, zg7, -, -⟩ := (id z3p)
  obtain ⟨zg8, z75, zg9, zga⟩ := getF z2q hx hZ hown (host := "") (Or.inl (own_W hw 30 rfl)) Via.refl z73 z2p (g := (mkF m 12 #[.val (.ref z0), .val (.int 0), .val (.int 15)] [(.ref z0)])) rfl rfl (hb hby y9_12)
  obtain ⟨z2r, zk, z76, zgb⟩ := getF z75 hx hZ hown (host := "") (Or.inl (own_W hw 30 rfl)) Via.refl zg9 z2p (g := (mkF m 16 #[.val (.ref z0), .val (.int 0), .val (.int 15)] [(.ref z0), (.ref z1)])) rfl rfl (hb hby y9_16)
  obtain ⟨zho, z77, -, zgc, zgd, -, -⟩ := (id z3p)
  obtain ⟨zge, z78, zgf, z79, zgg, zgh, zgi⟩ := (id z3p)
  have zgj : ¬ ((0 : Int32) < 0 ∨ zge.slots.size ≤ ((0 : Int32)).toNatClampNeg) := inb_of z79 ⟨by decide, by decide⟩
  obtain ⟨z7a, zgk, z10, zgl, z2s, zgm⟩ := stI zk hx hZ z76 z78 (j := (0 : Int32)) zgj (g := (mkF m 25 #[.val (.ref z0), .val (.int 0), .val (.int 15)] [(.int 15), (.int 0), (.ref z1)])) rfl rfl (hb hby y9_25)
  have zgn := Fr.snoc z10 zg2 z2
  have zhp := zg3.wr z2s z2
  have zgo := zg4.wr z2s (own_Ix 0 rfl)
  have z7b : Arv Z zgk z1 z3 .int 16 [(.int 15), (.int 14), (.int 13), (.int 12), (.int 11), (.int 10), (.int 9), (.int 8), (.int 7), (.int 6), (.int 5), (.int 4), (.int 3), (.int 2), (.int 1), (.int 0)] (.int 0) := Arv.set z78 zgf z79 zgg zgh zgi rfl z2s 0 (by decide) (by decide : 0 < 16)
  have zgp := (z2p.other z2s (Or.inl z4))
  obtain ⟨z2t, z2u, z7c, zgq⟩ := getF z10 hx hZ hown (host := "") (Or.inl (own_W hw 30 rfl)) Via.refl zgl zgp (g := (mkF m 4 #[.val (.ref z0), .val (.int 0), .val (.int 16)] [(.ref z0), (.int 16)])) rfl rfl (hb hby y9_4)
  obtain ⟨zhq, z7d, -, zgr, zgs, -, -⟩ := (id z7b)
  obtain ⟨fs, hr, hrun, hended, hW, hsame⟩ := z2u.leave (v := none) (fun _ => rfl)
  refine ⟨_, _, pre0 _ ?_, hrun, hended, _, _, rfl, ?_, ⟨_, rfl⟩, hW, hsame.mono (by decide) (by decide)⟩
  · show Steps p.tables e below (s₁.setTop (mkF m 0 #[.val (.ref z0), .val (.int 0), .unset] [])) _
    refine XS.iloadN X0.here hx rfl (hb hby y9_0) rfl ?_
    refine XS.istoreN X0.here hx rfl (hb hby y9_1) rfl (l' := #[.val (.ref z0), .val (.int 0), .val (.int 0)]) rfl ?_
    refine XS.iloadN X0.here hx rfl (hb hby y9_2) rfl ?_
    refine XS.aloadN X0.here hx rfl (hb hby y9_3) rfl rfl ?_
    refine z7e _ ?_
    show Steps p.tables e below (z2w.setTop (mkF m 7 #[.val (.ref z0), .val (.int 0), .val (.int 0)] [(.ref z1), (.int 0)])) _
    refine z12.arraylength hx (by rw [z3r]; exact z3s.1) (State.isArrayOf_alike hZ.alike z3s.2.1) (g := (mkF m 7 #[.val (.ref z0), .val (.int 0), .val (.int 0)] [(.ref z1), (.int 0)])) rfl rfl (hb hby y9_7) _ ?_
    rw [len_of z7f z7g]
    show Steps p.tables e below (z2w.setTop (mkF m 8 #[.val (.ref z0), .val (.int 0), .val (.int 0)] [(.int 16), (.int 0)])) _
    refine XS.icmpNo z12.here hx rfl (hb hby y9_8) rfl (tlt (by decide : (0 : Int32) < (16 : Int32))).2.1 ?_
    show Steps p.tables e below (z2w.setTop (mkF m 11 #[.val (.ref z0), .val (.int 0), .val (.int 0)] [])) _
    refine XS.aloadN z12.here hx rfl (hb hby y9_11) rfl rfl ?_
    refine z7j _ ?_
    show Steps p.tables e below (z7h.setTop (mkF m 15 #[.val (.ref z0), .val (.int 0), .val (.int 0)] [(.ref z1)])) _
    refine XS.aloadN z3t.here hx rfl (hb hby y9_15) rfl rfl ?_
    refine z7k _ ?_
    show Steps p.tables e below (z13.setTop (mkF m 19 #[.val (.ref z0), .val (.int 0), .val (.int 0)] [(.ref z1), (.ref z1)])) _
    refine z5.arraylength hx (by rw [z3u]; exact z3v.1) (State.isArrayOf_alike hZ.alike z3v.2.1) (g := (mkF m 19 #[.val (.ref z0), .val (.int 0), .val (.int 0)] [(.ref z1), (.ref z1)])) rfl rfl (hb hby y9_19) _ ?_
    rw [len_of z7l z7m]
    show Steps p.tables e below (z13.setTop (mkF m 20 #[.val (.ref z0), .val (.int 0), .val (.int 0)] [(.int 16), (.ref z1)])) _
    refine XS.iconst z5.here hx rfl (hb hby y9_20) ?_
    refine XS.isub z5.here hx rfl (hb hby y9_21) rfl ?_
    show Steps p.tables e below (z13.setTop (mkF m 22 #[.val (.ref z0), .val (.int 0), .val (.int 0)] [(.int 15), (.ref z1)])) _
    refine XS.iloadN z5.here hx rfl (hb hby y9_22) rfl ?_
    refine XS.isub z5.here hx rfl (hb hby y9_23) rfl ?_
    show Steps p.tables e below (z13.setTop (mkF m 24 #[.val (.ref z0), .val (.int 0), .val (.int 0)] [(.int 15), (.ref z1)])) _
    refine XS.iloadN z5.here hx rfl (hb hby y9_24) rfl ?_
    refine z7v _ ?_
    show Steps p.tables e below (z3y.setTop (mkF m 26 #[.val (.ref z0), .val (.int 0), .val (.int 0)] [])) _
    refine XS.iinc zl.here hx rfl (hb hby y9_26) rfl (l' := #[.val (.ref z0), .val (.int 0), .val (.int 1)]) rfl ?_
    show Steps p.tables e below (z3y.setTop (mkF m 29 #[.val (.ref z0), .val (.int 0), .val (.int 1)] [])) _
    refine XS.goto zl.here hx rfl (pc0 := 29) (pc' := 2) rfl (hb hby y9_29) (by decide) (by decide) ?_
    refine XS.iloadN zl.here hx rfl (hb hby y9_2) rfl ?_
    refine XS.aloadN zl.here hx rfl (hb hby y9_3) rfl rfl ?_
    refine z7z _ ?_
    show Steps p.tables e below (z2y.setTop (mkF m 7 #[.val (.ref z0), .val (.int 0), .val (.int 1)] [(.ref z1), (.int 1)])) _
    refine z16.arraylength hx (by rw [z3z]; exact z40.1) (State.isArrayOf_alike hZ.alike z40.2.1) (g := (mkF m 7 #[.val (.ref z0), .val (.int 0), .val (.int 1)] [(.ref z1), (.int 1)])) rfl rfl (hb hby y9_7) _ ?_
    rw [len_of z80 z81]
    show Steps p.tables e below (z2y.setTop (mkF m 8 #[.val (.ref z0), .val (.int 0), .val (.int 1)] [(.int 16), (.int 1)])) _
    refine XS.icmpNo z16.here hx rfl (hb hby y9_8) rfl (tlt (by decide : (1 : Int32) < (16 : Int32))).2.1 ?_
    show Steps p.tables e below (z2y.setTop (mkF m 11 #[.val (.ref z0), .val (.int 0), .val (.int 1)] [])) _
    refine XS.aloadN z16.here hx rfl (hb hby y9_11) rfl rfl ?_
    refine z84 _ ?_
    show Steps p.tables e below (z82.setTop (mkF m 15 #[.val (.ref z0), .val (.int 0), .val (.int 1)] [(.ref z1)])) _
    refine XS.aloadN z41.here hx rfl (hb hby y9_15) rfl rfl ?_
    refine z85 _ ?_
    show Steps p.tables e below (z17.setTop (mkF m 19 #[.val (.ref z0), .val (.int 0), .val (.int 1)] [(.ref z1), (.ref z1)])) _
    refine z6.arraylength hx (by rw [z42]; exact z43.1) (State.isArrayOf_alike hZ.alike z43.2.1) (g := (mkF m 19 #[.val (.ref z0), .val (.int 0), .val (.int 1)] [(.ref z1), (.ref z1)])) rfl rfl (hb hby y9_19) _ ?_
    rw [len_of z86 z87]
    show Steps p.tables e below (z17.setTop (mkF m 20 #[.val (.ref z0), .val (.int 0), .val (.int 1)] [(.int 16), (.ref z1)])) _
    refine XS.iconst z6.here hx rfl (hb hby y9_20) ?_
    refine XS.isub z6.here hx rfl (hb hby y9_21) rfl ?_
    show Steps p.tables e below (z17.setTop (mkF m 22 #[.val (.ref z0), .val (.int 0), .val (.int 1)] [(.int 15), (.ref z1)])) _
    refine XS.iloadN z6.here hx rfl (hb hby y9_22) rfl ?_
    refine XS.isub z6.here hx rfl (hb hby y9_23) rfl ?_
    show Steps p.tables e below (z17.setTop (mkF m 24 #[.val (.ref z0), .val (.int 0), .val (.int 1)] [(.int 14), (.ref z1)])) _
    refine XS.iloadN z6.here hx rfl (hb hby y9_24) rfl ?_
    refine z8g _ ?_
    show Steps p.tables e below (z46.setTop (mkF m 26 #[.val (.ref z0), .val (.int 0), .val (.int 1)] [])) _
    refine XS.iinc zm.here hx rfl (hb hby y9_26) rfl (l' := #[.val (.ref z0), .val (.int 0), .val (.int 2)]) rfl ?_
    show Steps p.tables e below (z46.setTop (mkF m 29 #[.val (.ref z0), .val (.int 0), .val (.int 2)] [])) _
    refine XS.goto zm.here hx rfl (pc0 := 29) (pc' := 2) rfl (hb hby y9_29) (by decide) (by decide) ?_
    refine XS.iloadN zm.here hx rfl (hb hby y9_2) rfl ?_
    refine XS.aloadN zm.here hx rfl (hb hby y9_3) rfl rfl ?_
    refine z8k _ ?_
    show Steps p.tables e below (z30.setTop (mkF m 7 #[.val (.ref z0), .val (.int 0), .val (.int 2)] [(.ref z1), (.int 2)])) _
    refine z1a.arraylength hx (by rw [z47]; exact z48.1) (State.isArrayOf_alike hZ.alike z48.2.1) (g := (mkF m 7 #[.val (.ref z0), .val (.int 0), .val (.int 2)] [(.ref z1), (.int 2)])) rfl rfl (hb hby y9_7) _ ?_
    rw [len_of z8l z8m]
    show Steps p.tables e below (z30.setTop (mkF m 8 #[.val (.ref z0), .val (.int 0), .val (.int 2)] [(.int 16), (.int 2)])) _
    refine XS.icmpNo z1a.here hx rfl (hb hby y9_8) rfl (tlt (by decide : (2 : Int32) < (16 : Int32))).2.1 ?_
    show Steps p.tables e below (z30.setTop (mkF m 11 #[.val (.ref z0), .val (.int 0), .val (.int 2)] [])) _
    refine XS.aloadN z1a.here hx rfl (hb hby y9_11) rfl rfl ?_
    refine z8p _ ?_
    show Steps p.tables e below (z8n.setTop (mkF m 15 #[.val (.ref z0), .val (.int 0), .val (.int 2)] [(.ref z1)])) _
    refine XS.aloadN z49.here hx rfl (hb hby y9_15) rfl rfl ?_
    refine z8q _ ?_
    show Steps p.tables e below (z1b.setTop (mkF m 19 #[.val (.ref z0), .val (.int 0), .val (.int 2)] [(.ref z1), (.ref z1)])) _
    refine z7.arraylength hx (by rw [z4a]; exact z4b.1) (State.isArrayOf_alike hZ.alike z4b.2.1) (g := (mkF m 19 #[.val (.ref z0), .val (.int 0), .val (.int 2)] [(.ref z1), (.ref z1)])) rfl rfl (hb hby y9_19) _ ?_
    rw [len_of z8r z8s]
    show Steps p.tables e below (z1b.setTop (mkF m 20 #[.val (.ref z0), .val (.int 0), .val (.int 2)] [(.int 16), (.ref z1)])) _
    refine XS.iconst z7.here hx rfl (hb hby y9_20) ?_
    refine XS.isub z7.here hx rfl (hb hby y9_21) rfl ?_
    show Steps p.tables e below (z1b.setTop (mkF m 22 #[.val (.ref z0), .val (.int 0), .val (.int 2)] [(.int 15), (.ref z1)])) _
    refine XS.iloadN z7.here hx rfl (hb hby y9_22) rfl ?_
    refine XS.isub z7.here hx rfl (hb hby y9_23) rfl ?_
    show Steps p.tables e below (z1b.setTop (mkF m 24 #[.val (.ref z0), .val (.int 0), .val (.int 2)] [(.int 13), (.ref z1)])) _
    refine XS.iloadN z7.here hx rfl (hb hby y9_24) rfl ?_
    refine z91 _ ?_
    show Steps p.tables e below (z4e.setTop (mkF m 26 #[.val (.ref z0), .val (.int 0), .val (.int 2)] [])) _
    refine XS.iinc zn.here hx rfl (hb hby y9_26) rfl (l' := #[.val (.ref z0), .val (.int 0), .val (.int 3)]) rfl ?_
    show Steps p.tables e below (z4e.setTop (mkF m 29 #[.val (.ref z0), .val (.int 0), .val (.int 3)] [])) _
    refine XS.goto zn.here hx rfl (pc0 := 29) (pc' := 2) rfl (hb hby y9_29) (by decide) (by decide) ?_
    refine XS.iloadN zn.here hx rfl (hb hby y9_2) rfl ?_
    refine XS.aloadN zn.here hx rfl (hb hby y9_3) rfl rfl ?_
    refine z95 _ ?_
    show Steps p.tables e below (z32.setTop (mkF m 7 #[.val (.ref z0), .val (.int 0), .val (.int 3)] [(.ref z1), (.int 3)])) _
    refine z1e.arraylength hx (by rw [z4f]; exact z4g.1) (State.isArrayOf_alike hZ.alike z4g.2.1) (g := (mkF m 7 #[.val (.ref z0), .val (.int 0), .val (.int 3)] [(.ref z1), (.int 3)])) rfl rfl (hb hby y9_7) _ ?_
    rw [len_of z96 z97]
    show Steps p.tables e below (z32.setTop (mkF m 8 #[.val (.ref z0), .val (.int 0), .val (.int 3)] [(.int 16), (.int 3)])) _
    refine XS.icmpNo z1e.here hx rfl (hb hby y9_8) rfl (tlt (by decide : (3 : Int32) < (16 : Int32))).2.1 ?_
    show Steps p.tables e below (z32.setTop (mkF m 11 #[.val (.ref z0), .val (.int 0), .val (.int 3)] [])) _
    refine XS.aloadN z1e.here hx rfl (hb hby y9_11) rfl rfl ?_
    refine z9a _ ?_
    show Steps p.tables e below (z98.setTop (mkF m 15 #[.val (.ref z0), .val (.int 0), .val (.int 3)] [(.ref z1)])) _
    refine XS.aloadN z4h.here hx rfl (hb hby y9_15) rfl rfl ?_
    refine z9b _ ?_
    show Steps p.tables e below (z1f.setTop (mkF m 19 #[.val (.ref z0), .val (.int 0), .val (.int 3)] [(.ref z1), (.ref z1)])) _
    refine z8.arraylength hx (by rw [z4i]; exact z4j.1) (State.isArrayOf_alike hZ.alike z4j.2.1) (g := (mkF m 19 #[.val (.ref z0), .val (.int 0), .val (.int 3)] [(.ref z1), (.ref z1)])) rfl rfl (hb hby y9_19) _ ?_
    rw [len_of z9c z9d]
    show Steps p.tables e below (z1f.setTop (mkF m 20 #[.val (.ref z0), .val (.int 0), .val (.int 3)] [(.int 16), (.ref z1)])) _
    refine XS.iconst z8.here hx rfl (hb hby y9_20) ?_
    refine XS.isub z8.here hx rfl (hb hby y9_21) rfl ?_
    show Steps p.tables e below (z1f.setTop (mkF m 22 #[.val (.ref z0), .val (.int 0), .val (.int 3)] [(.int 15), (.ref z1)])) _
    refine XS.iloadN z8.here hx rfl (hb hby y9_22) rfl ?_
    refine XS.isub z8.here hx rfl (hb hby y9_23) rfl ?_
    show Steps p.tables e below (z1f.setTop (mkF m 24 #[.val (.ref z0), .val (.int 0), .val (.int 3)] [(.int 12), (.ref z1)])) _
    refine XS.iloadN z8.here hx rfl (hb hby y9_24) rfl ?_
    refine z9m _ ?_
    show Steps p.tables e below (z4m.setTop (mkF m 26 #[.val (.ref z0), .val (.int 0), .val (.int 3)] [])) _
    refine XS.iinc zo.here hx rfl (hb hby y9_26) rfl (l' := #[.val (.ref z0), .val (.int 0), .val (.int 4)]) rfl ?_
    show Steps p.tables e below (z4m.setTop (mkF m 29 #[.val (.ref z0), .val (.int 0), .val (.int 4)] [])) _
    refine XS.goto zo.here hx rfl (pc0 := 29) (pc' := 2) rfl (hb hby y9_29) (by decide) (by decide) ?_
    refine XS.iloadN zo.here hx rfl (hb hby y9_2) rfl ?_
    refine XS.aloadN zo.here hx rfl (hb hby y9_3) rfl rfl ?_
    refine z9q _ ?_
    show Steps p.tables e below (z34.setTop (mkF m 7 #[.val (.ref z0), .val (.int 0), .val (.int 4)] [(.ref z1), (.int 4)])) _
    refine z1i.arraylength hx (by rw [z4n]; exact z4o.1) (State.isArrayOf_alike hZ.alike z4o.2.1) (g := (mkF m 7 #[.val (.ref z0), .val (.int 0), .val (.int 4)] [(.ref z1), (.int 4)])) rfl rfl (hb hby y9_7) _ ?_
    rw [len_of z9r z9s]
    show Steps p.tables e below (z34.setTop (mkF m 8 #[.val (.ref z0), .val (.int 0), .val (.int 4)] [(.int 16), (.int 4)])) _
    refine XS.icmpNo z1i.here hx rfl (hb hby y9_8) rfl (tlt (by decide : (4 : Int32) < (16 : Int32))).2.1 ?_
    show Steps p.tables e below (z34.setTop (mkF m 11 #[.val (.ref z0), .val (.int 0), .val (.int 4)] [])) _
    refine XS.aloadN z1i.here hx rfl (hb hby y9_11) rfl rfl ?_
    refine z9v _ ?_
    show Steps p.tables e below (z9t.setTop (mkF m 15 #[.val (.ref z0), .val (.int 0), .val (.int 4)] [(.ref z1)])) _
    refine XS.aloadN z4p.here hx rfl (hb hby y9_15) rfl rfl ?_
    refine z9w _ ?_
    show Steps p.tables e below (z1j.setTop (mkF m 19 #[.val (.ref z0), .val (.int 0), .val (.int 4)] [(.ref z1), (.ref z1)])) _
    refine z9.arraylength hx (by rw [z4q]; exact z4r.1) (State.isArrayOf_alike hZ.alike z4r.2.1) (g := (mkF m 19 #[.val (.ref z0), .val (.int 0), .val (.int 4)] [(.ref z1), (.ref z1)])) rfl rfl (hb hby y9_19) _ ?_
    rw [len_of z9x z9y]
    show Steps p.tables e below (z1j.setTop (mkF m 20 #[.val (.ref z0), .val (.int 0), .val (.int 4)] [(.int 16), (.ref z1)])) _
    refine XS.iconst z9.here hx rfl (hb hby y9_20) ?_
    refine XS.isub z9.here hx rfl (hb hby y9_21) rfl ?_
    show Steps p.tables e below (z1j.setTop (mkF m 22 #[.val (.ref z0), .val (.int 0), .val (.int 4)] [(.int 15), (.ref z1)])) _
    refine XS.iloadN z9.here hx rfl (hb hby y9_22) rfl ?_
    refine XS.isub z9.here hx rfl (hb hby y9_23) rfl ?_
    show Steps p.tables e below (z1j.setTop (mkF m 24 #[.val (.ref z0), .val (.int 0), .val (.int 4)] [(.int 11), (.ref z1)])) _
    refine XS.iloadN z9.here hx rfl (hb hby y9_24) rfl ?_
    refine za7 _ ?_
    show Steps p.tables e below (z4u.setTop (mkF m 26 #[.val (.ref z0), .val (.int 0), .val (.int 4)] [])) _
    refine XS.iinc zp.here hx rfl (hb hby y9_26) rfl (l' := #[.val (.ref z0), .val (.int 0), .val (.int 5)]) rfl ?_
    show Steps p.tables e below (z4u.setTop (mkF m 29 #[.val (.ref z0), .val (.int 0), .val (.int 5)] [])) _
    refine XS.goto zp.here hx rfl (pc0 := 29) (pc' := 2) rfl (hb hby y9_29) (by decide) (by decide) ?_
    refine XS.iloadN zp.here hx rfl (hb hby y9_2) rfl ?_
    refine XS.aloadN zp.here hx rfl (hb hby y9_3) rfl rfl ?_
    refine zab _ ?_
    show Steps p.tables e below (z36.setTop (mkF m 7 #[.val (.ref z0), .val (.int 0), .val (.int 5)] [(.ref z1), (.int 5)])) _
    refine z1m.arraylength hx (by rw [z4v]; exact z4w.1) (State.isArrayOf_alike hZ.alike z4w.2.1) (g := (mkF m 7 #[.val (.ref z0), .val (.int 0), .val (.int 5)] [(.ref z1), (.int 5)])) rfl rfl (hb hby y9_7) _ ?_
    rw [len_of zac zad]
    show Steps p.tables e below (z36.setTop (mkF m 8 #[.val (.ref z0), .val (.int 0), .val (.int 5)] [(.int 16), (.int 5)])) _
    refine XS.icmpNo z1m.here hx rfl (hb hby y9_8) rfl (tlt (by decide : (5 : Int32) < (16 : Int32))).2.1 ?_
    show Steps p.tables e below (z36.setTop (mkF m 11 #[.val (.ref z0), .val (.int 0), .val (.int 5)] [])) _
    refine XS.aloadN z1m.here hx rfl (hb hby y9_11) rfl rfl ?_
    refine zag _ ?_
    show Steps p.tables e below (zae.setTop (mkF m 15 #[.val (.ref z0), .val (.int 0), .val (.int 5)] [(.ref z1)])) _
    refine XS.aloadN z4x.here hx rfl (hb hby y9_15) rfl rfl ?_
    refine zah _ ?_
    show Steps p.tables e below (z1n.setTop (mkF m 19 #[.val (.ref z0), .val (.int 0), .val (.int 5)] [(.ref z1), (.ref z1)])) _
    refine za.arraylength hx (by rw [z4y]; exact z4z.1) (State.isArrayOf_alike hZ.alike z4z.2.1) (g := (mkF m 19 #[.val (.ref z0), .val (.int 0), .val (.int 5)] [(.ref z1), (.ref z1)])) rfl rfl (hb hby y9_19) _ ?_
    rw [len_of zai zaj]
    show Steps p.tables e below (z1n.setTop (mkF m 20 #[.val (.ref z0), .val (.int 0), .val (.int 5)] [(.int 16), (.ref z1)])) _
    refine XS.iconst za.here hx rfl (hb hby y9_20) ?_
    refine XS.isub za.here hx rfl (hb hby y9_21) rfl ?_
    show Steps p.tables e below (z1n.setTop (mkF m 22 #[.val (.ref z0), .val (.int 0), .val (.int 5)] [(.int 15), (.ref z1)])) _
    refine XS.iloadN za.here hx rfl (hb hby y9_22) rfl ?_
    refine XS.isub za.here hx rfl (hb hby y9_23) rfl ?_
    show Steps p.tables e below (z1n.setTop (mkF m 24 #[.val (.ref z0), .val (.int 0), .val (.int 5)] [(.int 10), (.ref z1)])) _
    refine XS.iloadN za.here hx rfl (hb hby y9_24) rfl ?_
    refine zas _ ?_
    show Steps p.tables e below (z52.setTop (mkF m 26 #[.val (.ref z0), .val (.int 0), .val (.int 5)] [])) _
    refine XS.iinc zq.here hx rfl (hb hby y9_26) rfl (l' := #[.val (.ref z0), .val (.int 0), .val (.int 6)]) rfl ?_
    show Steps p.tables e below (z52.setTop (mkF m 29 #[.val (.ref z0), .val (.int 0), .val (.int 6)] [])) _
    refine XS.goto zq.here hx rfl (pc0 := 29) (pc' := 2) rfl (hb hby y9_29) (by decide) (by decide) ?_
    refine XS.iloadN zq.here hx rfl (hb hby y9_2) rfl ?_
    refine XS.aloadN zq.here hx rfl (hb hby y9_3) rfl rfl ?_
    refine zaw _ ?_
    show Steps p.tables e below (z38.setTop (mkF m 7 #[.val (.ref z0), .val (.int 0), .val (.int 6)] [(.ref z1), (.int 6)])) _
    refine z1q.arraylength hx (by rw [z53]; exact z54.1) (State.isArrayOf_alike hZ.alike z54.2.1) (g := (mkF m 7 #[.val (.ref z0), .val (.int 0), .val (.int 6)] [(.ref z1), (.int 6)])) rfl rfl (hb hby y9_7) _ ?_
    rw [len_of zax zay]
    show Steps p.tables e below (z38.setTop (mkF m 8 #[.val (.ref z0), .val (.int 0), .val (.int 6)] [(.int 16), (.int 6)])) _
    refine XS.icmpNo z1q.here hx rfl (hb hby y9_8) rfl (tlt (by decide : (6 : Int32) < (16 : Int32))).2.1 ?_
    show Steps p.tables e below (z38.setTop (mkF m 11 #[.val (.ref z0), .val (.int 0), .val (.int 6)] [])) _
    refine XS.aloadN z1q.here hx rfl (hb hby y9_11) rfl rfl ?_
    refine zb1 _ ?_
    show Steps p.tables e below (zaz.setTop (mkF m 15 #[.val (.ref z0), .val (.int 0), .val (.int 6)] [(.ref z1)])) _
    refine XS.aloadN z55.here hx rfl (hb hby y9_15) rfl rfl ?_
    refine zb2 _ ?_
    show Steps p.tables e below (z1r.setTop (mkF m 19 #[.val (.ref z0), .val (.int 0), .val (.int 6)] [(.ref z1), (.ref z1)])) _
    refine zb.arraylength hx (by rw [z56]; exact z57.1) (State.isArrayOf_alike hZ.alike z57.2.1) (g := (mkF m 19 #[.val (.ref z0), .val (.int 0), .val (.int 6)] [(.ref z1), (.ref z1)])) rfl rfl (hb hby y9_19) _ ?_
    rw [len_of zb3 zb4]
    show Steps p.tables e below (z1r.setTop (mkF m 20 #[.val (.ref z0), .val (.int 0), .val (.int 6)] [(.int 16), (.ref z1)])) _
    refine XS.iconst zb.here hx rfl (hb hby y9_20) ?_
    refine XS.isub zb.here hx rfl (hb hby y9_21) rfl ?_
    show Steps p.tables e below (z1r.setTop (mkF m 22 #[.val (.ref z0), .val (.int 0), .val (.int 6)] [(.int 15), (.ref z1)])) _
    refine XS.iloadN zb.here hx rfl (hb hby y9_22) rfl ?_
    refine XS.isub zb.here hx rfl (hb hby y9_23) rfl ?_
    show Steps p.tables e below (z1r.setTop (mkF m 24 #[.val (.ref z0), .val (.int 0), .val (.int 6)] [(.int 9), (.ref z1)])) _
    refine XS.iloadN zb.here hx rfl (hb hby y9_24) rfl ?_
    refine zbd _ ?_
    show Steps p.tables e below (z5a.setTop (mkF m 26 #[.val (.ref z0), .val (.int 0), .val (.int 6)] [])) _
    refine XS.iinc zr.here hx rfl (hb hby y9_26) rfl (l' := #[.val (.ref z0), .val (.int 0), .val (.int 7)]) rfl ?_
    show Steps p.tables e below (z5a.setTop (mkF m 29 #[.val (.ref z0), .val (.int 0), .val (.int 7)] [])) _
    refine XS.goto zr.here hx rfl (pc0 := 29) (pc' := 2) rfl (hb hby y9_29) (by decide) (by decide) ?_
    refine XS.iloadN zr.here hx rfl (hb hby y9_2) rfl ?_
    refine XS.aloadN zr.here hx rfl (hb hby y9_3) rfl rfl ?_
    refine zbh _ ?_
    show Steps p.tables e below (z3a.setTop (mkF m 7 #[.val (.ref z0), .val (.int 0), .val (.int 7)] [(.ref z1), (.int 7)])) _
    refine z1u.arraylength hx (by rw [z5b]; exact z5c.1) (State.isArrayOf_alike hZ.alike z5c.2.1) (g := (mkF m 7 #[.val (.ref z0), .val (.int 0), .val (.int 7)] [(.ref z1), (.int 7)])) rfl rfl (hb hby y9_7) _ ?_
    rw [len_of zbi zbj]
    show Steps p.tables e below (z3a.setTop (mkF m 8 #[.val (.ref z0), .val (.int 0), .val (.int 7)] [(.int 16), (.int 7)])) _
    refine XS.icmpNo z1u.here hx rfl (hb hby y9_8) rfl (tlt (by decide : (7 : Int32) < (16 : Int32))).2.1 ?_
    show Steps p.tables e below (z3a.setTop (mkF m 11 #[.val (.ref z0), .val (.int 0), .val (.int 7)] [])) _
    refine XS.aloadN z1u.here hx rfl (hb hby y9_11) rfl rfl ?_
    refine zbm _ ?_
    show Steps p.tables e below (zbk.setTop (mkF m 15 #[.val (.ref z0), .val (.int 0), .val (.int 7)] [(.ref z1)])) _
    refine XS.aloadN z5d.here hx rfl (hb hby y9_15) rfl rfl ?_
    refine zbn _ ?_
    show Steps p.tables e below (z1v.setTop (mkF m 19 #[.val (.ref z0), .val (.int 0), .val (.int 7)] [(.ref z1), (.ref z1)])) _
    refine zc.arraylength hx (by rw [z5e]; exact z5f.1) (State.isArrayOf_alike hZ.alike z5f.2.1) (g := (mkF m 19 #[.val (.ref z0), .val (.int 0), .val (.int 7)] [(.ref z1), (.ref z1)])) rfl rfl (hb hby y9_19) _ ?_
    rw [len_of zbo zbp]
    show Steps p.tables e below (z1v.setTop (mkF m 20 #[.val (.ref z0), .val (.int 0), .val (.int 7)] [(.int 16), (.ref z1)])) _
    refine XS.iconst zc.here hx rfl (hb hby y9_20) ?_
    refine XS.isub zc.here hx rfl (hb hby y9_21) rfl ?_
    show Steps p.tables e below (z1v.setTop (mkF m 22 #[.val (.ref z0), .val (.int 0), .val (.int 7)] [(.int 15), (.ref z1)])) _
    refine XS.iloadN zc.here hx rfl (hb hby y9_22) rfl ?_
    refine XS.isub zc.here hx rfl (hb hby y9_23) rfl ?_
    show Steps p.tables e below (z1v.setTop (mkF m 24 #[.val (.ref z0), .val (.int 0), .val (.int 7)] [(.int 8), (.ref z1)])) _
    refine XS.iloadN zc.here hx rfl (hb hby y9_24) rfl ?_
    refine zby _ ?_
    show Steps p.tables e below (z5i.setTop (mkF m 26 #[.val (.ref z0), .val (.int 0), .val (.int 7)] [])) _
    refine XS.iinc zs.here hx rfl (hb hby y9_26) rfl (l' := #[.val (.ref z0), .val (.int 0), .val (.int 8)]) rfl ?_
    show Steps p.tables e below (z5i.setTop (mkF m 29 #[.val (.ref z0), .val (.int 0), .val (.int 8)] [])) _
    refine XS.goto zs.here hx rfl (pc0 := 29) (pc' := 2) rfl (hb hby y9_29) (by decide) (by decide) ?_
    refine XS.iloadN zs.here hx rfl (hb hby y9_2) rfl ?_
    refine XS.aloadN zs.here hx rfl (hb hby y9_3) rfl rfl ?_
    refine zc2 _ ?_
    show Steps p.tables e below (z3c.setTop (mkF m 7 #[.val (.ref z0), .val (.int 0), .val (.int 8)] [(.ref z1), (.int 8)])) _
    refine z1y.arraylength hx (by rw [z5j]; exact z5k.1) (State.isArrayOf_alike hZ.alike z5k.2.1) (g := (mkF m 7 #[.val (.ref z0), .val (.int 0), .val (.int 8)] [(.ref z1), (.int 8)])) rfl rfl (hb hby y9_7) _ ?_
    rw [len_of zc3 zc4]
    show Steps p.tables e below (z3c.setTop (mkF m 8 #[.val (.ref z0), .val (.int 0), .val (.int 8)] [(.int 16), (.int 8)])) _
    refine XS.icmpNo z1y.here hx rfl (hb hby y9_8) rfl (tlt (by decide : (8 : Int32) < (16 : Int32))).2.1 ?_
    show Steps p.tables e below (z3c.setTop (mkF m 11 #[.val (.ref z0), .val (.int 0), .val (.int 8)] [])) _
    refine XS.aloadN z1y.here hx rfl (hb hby y9_11) rfl rfl ?_
    refine zc7 _ ?_
    show Steps p.tables e below (zc5.setTop (mkF m 15 #[.val (.ref z0), .val (.int 0), .val (.int 8)] [(.ref z1)])) _
    refine XS.aloadN z5l.here hx rfl (hb hby y9_15) rfl rfl ?_
    refine zc8 _ ?_
    show Steps p.tables e below (z1z.setTop (mkF m 19 #[.val (.ref z0), .val (.int 0), .val (.int 8)] [(.ref z1), (.ref z1)])) _
    refine zd.arraylength hx (by rw [z5m]; exact z5n.1) (State.isArrayOf_alike hZ.alike z5n.2.1) (g := (mkF m 19 #[.val (.ref z0), .val (.int 0), .val (.int 8)] [(.ref z1), (.ref z1)])) rfl rfl (hb hby y9_19) _ ?_
    rw [len_of zc9 zca]
    show Steps p.tables e below (z1z.setTop (mkF m 20 #[.val (.ref z0), .val (.int 0), .val (.int 8)] [(.int 16), (.ref z1)])) _
    refine XS.iconst zd.here hx rfl (hb hby y9_20) ?_
    refine XS.isub zd.here hx rfl (hb hby y9_21) rfl ?_
    show Steps p.tables e below (z1z.setTop (mkF m 22 #[.val (.ref z0), .val (.int 0), .val (.int 8)] [(.int 15), (.ref z1)])) _
    refine XS.iloadN zd.here hx rfl (hb hby y9_22) rfl ?_
    refine XS.isub zd.here hx rfl (hb hby y9_23) rfl ?_
    show Steps p.tables e below (z1z.setTop (mkF m 24 #[.val (.ref z0), .val (.int 0), .val (.int 8)] [(.int 7), (.ref z1)])) _
    refine XS.iloadN zd.here hx rfl (hb hby y9_24) rfl ?_
    refine zcj _ ?_
    show Steps p.tables e below (z5q.setTop (mkF m 26 #[.val (.ref z0), .val (.int 0), .val (.int 8)] [])) _
    refine XS.iinc zt.here hx rfl (hb hby y9_26) rfl (l' := #[.val (.ref z0), .val (.int 0), .val (.int 9)]) rfl ?_
    show Steps p.tables e below (z5q.setTop (mkF m 29 #[.val (.ref z0), .val (.int 0), .val (.int 9)] [])) _
    refine XS.goto zt.here hx rfl (pc0 := 29) (pc' := 2) rfl (hb hby y9_29) (by decide) (by decide) ?_
    refine XS.iloadN zt.here hx rfl (hb hby y9_2) rfl ?_
    refine XS.aloadN zt.here hx rfl (hb hby y9_3) rfl rfl ?_
    refine zcn _ ?_
    show Steps p.tables e below (z3e.setTop (mkF m 7 #[.val (.ref z0), .val (.int 0), .val (.int 9)] [(.ref z1), (.int 9)])) _
    refine z22.arraylength hx (by rw [z5r]; exact z5s.1) (State.isArrayOf_alike hZ.alike z5s.2.1) (g := (mkF m 7 #[.val (.ref z0), .val (.int 0), .val (.int 9)] [(.ref z1), (.int 9)])) rfl rfl (hb hby y9_7) _ ?_
    rw [len_of zco zcp]
    show Steps p.tables e below (z3e.setTop (mkF m 8 #[.val (.ref z0), .val (.int 0), .val (.int 9)] [(.int 16), (.int 9)])) _
    refine XS.icmpNo z22.here hx rfl (hb hby y9_8) rfl (tlt (by decide : (9 : Int32) < (16 : Int32))).2.1 ?_
    show Steps p.tables e below (z3e.setTop (mkF m 11 #[.val (.ref z0), .val (.int 0), .val (.int 9)] [])) _
    refine XS.aloadN z22.here hx rfl (hb hby y9_11) rfl rfl ?_
    refine zcs _ ?_
    show Steps p.tables e below (zcq.setTop (mkF m 15 #[.val (.ref z0), .val (.int 0), .val (.int 9)] [(.ref z1)])) _
    refine XS.aloadN z5t.here hx rfl (hb hby y9_15) rfl rfl ?_
    refine zct _ ?_
    show Steps p.tables e below (z23.setTop (mkF m 19 #[.val (.ref z0), .val (.int 0), .val (.int 9)] [(.ref z1), (.ref z1)])) _
    refine ze.arraylength hx (by rw [z5u]; exact z5v.1) (State.isArrayOf_alike hZ.alike z5v.2.1) (g := (mkF m 19 #[.val (.ref z0), .val (.int 0), .val (.int 9)] [(.ref z1), (.ref z1)])) rfl rfl (hb hby y9_19) _ ?_
    rw [len_of zcu zcv]
    show Steps p.tables e below (z23.setTop (mkF m 20 #[.val (.ref z0), .val (.int 0), .val (.int 9)] [(.int 16), (.ref z1)])) _
    refine XS.iconst ze.here hx rfl (hb hby y9_20) ?_
    refine XS.isub ze.here hx rfl (hb hby y9_21) rfl ?_
    show Steps p.tables e below (z23.setTop (mkF m 22 #[.val (.ref z0), .val (.int 0), .val (.int 9)] [(.int 15), (.ref z1)])) _
    refine XS.iloadN ze.here hx rfl (hb hby y9_22) rfl ?_
    refine XS.isub ze.here hx rfl (hb hby y9_23) rfl ?_
    show Steps p.tables e below (z23.setTop (mkF m 24 #[.val (.ref z0), .val (.int 0), .val (.int 9)] [(.int 6), (.ref z1)])) _
    refine XS.iloadN ze.here hx rfl (hb hby y9_24) rfl ?_
    refine zd4 _ ?_
    show Steps p.tables e below (z5y.setTop (mkF m 26 #[.val (.ref z0), .val (.int 0), .val (.int 9)] [])) _
    refine XS.iinc zu.here hx rfl (hb hby y9_26) rfl (l' := #[.val (.ref z0), .val (.int 0), .val (.int 10)]) rfl ?_
    show Steps p.tables e below (z5y.setTop (mkF m 29 #[.val (.ref z0), .val (.int 0), .val (.int 10)] [])) _
    refine XS.goto zu.here hx rfl (pc0 := 29) (pc' := 2) rfl (hb hby y9_29) (by decide) (by decide) ?_
    refine XS.iloadN zu.here hx rfl (hb hby y9_2) rfl ?_
    refine XS.aloadN zu.here hx rfl (hb hby y9_3) rfl rfl ?_
    refine zd8 _ ?_
    show Steps p.tables e below (z3g.setTop (mkF m 7 #[.val (.ref z0), .val (.int 0), .val (.int 10)] [(.ref z1), (.int 10)])) _
    refine z26.arraylength hx (by rw [z5z]; exact z60.1) (State.isArrayOf_alike hZ.alike z60.2.1) (g := (mkF m 7 #[.val (.ref z0), .val (.int 0), .val (.int 10)] [(.ref z1), (.int 10)])) rfl rfl (hb hby y9_7) _ ?_
    rw [len_of zd9 zda]
    show Steps p.tables e below (z3g.setTop (mkF m 8 #[.val (.ref z0), .val (.int 0), .val (.int 10)] [(.int 16), (.int 10)])) _
    refine XS.icmpNo z26.here hx rfl (hb hby y9_8) rfl (tlt (by decide : (10 : Int32) < (16 : Int32))).2.1 ?_
    show Steps p.tables e below (z3g.setTop (mkF m 11 #[.val (.ref z0), .val (.int 0), .val (.int 10)] [])) _
    refine XS.aloadN z26.here hx rfl (hb hby y9_11) rfl rfl ?_
    refine zdd _ ?_
    show Steps p.tables e below (zdb.setTop (mkF m 15 #[.val (.ref z0), .val (.int 0), .val (.int 10)] [(.ref z1)])) _
    refine XS.aloadN z61.here hx rfl (hb hby y9_15) rfl rfl ?_
    refine zde _ ?_
    show Steps p.tables e below (z27.setTop (mkF m 19 #[.val (.ref z0), .val (.int 0), .val (.int 10)] [(.ref z1), (.ref z1)])) _
    refine zf.arraylength hx (by rw [z62]; exact z63.1) (State.isArrayOf_alike hZ.alike z63.2.1) (g := (mkF m 19 #[.val (.ref z0), .val (.int 0), .val (.int 10)] [(.ref z1), (.ref z1)])) rfl rfl (hb hby y9_19) _ ?_
    rw [len_of zdf zdg]
    show Steps p.tables e below (z27.setTop (mkF m 20 #[.val (.ref z0), .val (.int 0), .val (.int 10)] [(.int 16), (.ref z1)])) _
    refine XS.iconst zf.here hx rfl (hb hby y9_20) ?_
    refine XS.isub zf.here hx rfl (hb hby y9_21) rfl ?_
    show Steps p.tables e below (z27.setTop (mkF m 22 #[.val (.ref z0), .val (.int 0), .val (.int 10)] [(.int 15), (.ref z1)])) _
    refine XS.iloadN zf.here hx rfl (hb hby y9_22) rfl ?_
    refine XS.isub zf.here hx rfl (hb hby y9_23) rfl ?_
    show Steps p.tables e below (z27.setTop (mkF m 24 #[.val (.ref z0), .val (.int 0), .val (.int 10)] [(.int 5), (.ref z1)])) _
    refine XS.iloadN zf.here hx rfl (hb hby y9_24) rfl ?_
    refine zdp _ ?_
    show Steps p.tables e below (z66.setTop (mkF m 26 #[.val (.ref z0), .val (.int 0), .val (.int 10)] [])) _
    refine XS.iinc zv.here hx rfl (hb hby y9_26) rfl (l' := #[.val (.ref z0), .val (.int 0), .val (.int 11)]) rfl ?_
    show Steps p.tables e below (z66.setTop (mkF m 29 #[.val (.ref z0), .val (.int 0), .val (.int 11)] [])) _
    refine XS.goto zv.here hx rfl (pc0 := 29) (pc' := 2) rfl (hb hby y9_29) (by decide) (by decide) ?_
    refine XS.iloadN zv.here hx rfl (hb hby y9_2) rfl ?_
    refine XS.aloadN zv.here hx rfl (hb hby y9_3) rfl rfl ?_
    refine zdt _ ?_
    show Steps p.tables e below (z3i.setTop (mkF m 7 #[.val (.ref z0), .val (.int 0), .val (.int 11)] [(.ref z1), (.int 11)])) _
    refine z2a.arraylength hx (by rw [z67]; exact z68.1) (State.isArrayOf_alike hZ.alike z68.2.1) (g := (mkF m 7 #[.val (.ref z0), .val (.int 0), .val (.int 11)] [(.ref z1), (.int 11)])) rfl rfl (hb hby y9_7) _ ?_
    rw [len_of zdu zdv]
    show Steps p.tables e below (z3i.setTop (mkF m 8 #[.val (.ref z0), .val (.int 0), .val (.int 11)] [(.int 16), (.int 11)])) _
    refine XS.icmpNo z2a.here hx rfl (hb hby y9_8) rfl (tlt (by decide : (11 : Int32) < (16 : Int32))).2.1 ?_
    show Steps p.tables e below (z3i.setTop (mkF m 11 #[.val (.ref z0), .val (.int 0), .val (.int 11)] [])) _
    refine XS.aloadN z2a.here hx rfl (hb hby y9_11) rfl rfl ?_
    refine zdy _ ?_
    show Steps p.tables e below (zdw.setTop (mkF m 15 #[.val (.ref z0), .val (.int 0), .val (.int 11)] [(.ref z1)])) _
    refine XS.aloadN z69.here hx rfl (hb hby y9_15) rfl rfl ?_
    refine zdz _ ?_
    show Steps p.tables e below (z2b.setTop (mkF m 19 #[.val (.ref z0), .val (.int 0), .val (.int 11)] [(.ref z1), (.ref z1)])) _
    refine zg.arraylength hx (by rw [z6a]; exact z6b.1) (State.isArrayOf_alike hZ.alike z6b.2.1) (g := (mkF m 19 #[.val (.ref z0), .val (.int 0), .val (.int 11)] [(.ref z1), (.ref z1)])) rfl rfl (hb hby y9_19) _ ?_
    rw [len_of ze0 ze1]
    show Steps p.tables e below (z2b.setTop (mkF m 20 #[.val (.ref z0), .val (.int 0), .val (.int 11)] [(.int 16), (.ref z1)])) _
    refine XS.iconst zg.here hx rfl (hb hby y9_20) ?_
    refine XS.isub zg.here hx rfl (hb hby y9_21) rfl ?_
    show Steps p.tables e below (z2b.setTop (mkF m 22 #[.val (.ref z0), .val (.int 0), .val (.int 11)] [(.int 15), (.ref z1)])) _
    refine XS.iloadN zg.here hx rfl (hb hby y9_22) rfl ?_
    refine XS.isub zg.here hx rfl (hb hby y9_23) rfl ?_
    show Steps p.tables e below (z2b.setTop (mkF m 24 #[.val (.ref z0), .val (.int 0), .val (.int 11)] [(.int 4), (.ref z1)])) _
    refine XS.iloadN zg.here hx rfl (hb hby y9_24) rfl ?_
    refine zea _ ?_
    show Steps p.tables e below (z6e.setTop (mkF m 26 #[.val (.ref z0), .val (.int 0), .val (.int 11)] [])) _
    refine XS.iinc zw.here hx rfl (hb hby y9_26) rfl (l' := #[.val (.ref z0), .val (.int 0), .val (.int 12)]) rfl ?_
    show Steps p.tables e below (z6e.setTop (mkF m 29 #[.val (.ref z0), .val (.int 0), .val (.int 12)] [])) _
    refine XS.goto zw.here hx rfl (pc0 := 29) (pc' := 2) rfl (hb hby y9_29) (by decide) (by decide) ?_
    refine XS.iloadN zw.here hx rfl (hb hby y9_2) rfl ?_
    refine XS.aloadN zw.here hx rfl (hb hby y9_3) rfl rfl ?_
    refine zee _ ?_
    show Steps p.tables e below (z3k.setTop (mkF m 7 #[.val (.ref z0), .val (.int 0), .val (.int 12)] [(.ref z1), (.int 12)])) _
    refine z2e.arraylength hx (by rw [z6f]; exact z6g.1) (State.isArrayOf_alike hZ.alike z6g.2.1) (g := (mkF m 7 #[.val (.ref z0), .val (.int 0), .val (.int 12)] [(.ref z1), (.int 12)])) rfl rfl (hb hby y9_7) _ ?_
    rw [len_of zef zeg]
    show Steps p.tables e below (z3k.setTop (mkF m 8 #[.val (.ref z0), .val (.int 0), .val (.int 12)] [(.int 16), (.int 12)])) _
    refine XS.icmpNo z2e.here hx rfl (hb hby y9_8) rfl (tlt (by decide : (12 : Int32) < (16 : Int32))).2.1 ?_
    show Steps p.tables e below (z3k.setTop (mkF m 11 #[.val (.ref z0), .val (.int 0), .val (.int 12)] [])) _
    refine XS.aloadN z2e.here hx rfl (hb hby y9_11) rfl rfl ?_
    refine zej _ ?_
    show Steps p.tables e below (zeh.setTop (mkF m 15 #[.val (.ref z0), .val (.int 0), .val (.int 12)] [(.ref z1)])) _
    refine XS.aloadN z6h.here hx rfl (hb hby y9_15) rfl rfl ?_
    refine zek _ ?_
    show Steps p.tables e below (z2f.setTop (mkF m 19 #[.val (.ref z0), .val (.int 0), .val (.int 12)] [(.ref z1), (.ref z1)])) _
    refine zh.arraylength hx (by rw [z6i]; exact z6j.1) (State.isArrayOf_alike hZ.alike z6j.2.1) (g := (mkF m 19 #[.val (.ref z0), .val (.int 0), .val (.int 12)] [(.ref z1), (.ref z1)])) rfl rfl (hb hby y9_19) _ ?_
    rw [len_of zel zem]
    show Steps p.tables e below (z2f.setTop (mkF m 20 #[.val (.ref z0), .val (.int 0), .val (.int 12)] [(.int 16), (.ref z1)])) _
    refine XS.iconst zh.here hx rfl (hb hby y9_20) ?_
    refine XS.isub zh.here hx rfl (hb hby y9_21) rfl ?_
    show Steps p.tables e below (z2f.setTop (mkF m 22 #[.val (.ref z0), .val (.int 0), .val (.int 12)] [(.int 15), (.ref z1)])) _
    refine XS.iloadN zh.here hx rfl (hb hby y9_22) rfl ?_
    refine XS.isub zh.here hx rfl (hb hby y9_23) rfl ?_
    show Steps p.tables e below (z2f.setTop (mkF m 24 #[.val (.ref z0), .val (.int 0), .val (.int 12)] [(.int 3), (.ref z1)])) _
    refine XS.iloadN zh.here hx rfl (hb hby y9_24) rfl ?_
    refine zev _ ?_
    show Steps p.tables e below (z6m.setTop (mkF m 26 #[.val (.ref z0), .val (.int 0), .val (.int 12)] [])) _
    refine XS.iinc zx.here hx rfl (hb hby y9_26) rfl (l' := #[.val (.ref z0), .val (.int 0), .val (.int 13)]) rfl ?_
    show Steps p.tables e below (z6m.setTop (mkF m 29 #[.val (.ref z0), .val (.int 0), .val (.int 13)] [])) _
    refine XS.goto zx.here hx rfl (pc0 := 29) (pc' := 2) rfl (hb hby y9_29) (by decide) (by decide) ?_
    refine XS.iloadN zx.here hx rfl (hb hby y9_2) rfl ?_
    refine XS.aloadN zx.here hx rfl (hb hby y9_3) rfl rfl ?_
    refine zez _ ?_
    show Steps p.tables e below (z3m.setTop (mkF m 7 #[.val (.ref z0), .val (.int 0), .val (.int 13)] [(.ref z1), (.int 13)])) _
    refine z2i.arraylength hx (by rw [z6n]; exact z6o.1) (State.isArrayOf_alike hZ.alike z6o.2.1) (g := (mkF m 7 #[.val (.ref z0), .val (.int 0), .val (.int 13)] [(.ref z1), (.int 13)])) rfl rfl (hb hby y9_7) _ ?_
    rw [len_of zf0 zf1]
    show Steps p.tables e below (z3m.setTop (mkF m 8 #[.val (.ref z0), .val (.int 0), .val (.int 13)] [(.int 16), (.int 13)])) _
    refine XS.icmpNo z2i.here hx rfl (hb hby y9_8) rfl (tlt (by decide : (13 : Int32) < (16 : Int32))).2.1 ?_
    show Steps p.tables e below (z3m.setTop (mkF m 11 #[.val (.ref z0), .val (.int 0), .val (.int 13)] [])) _
    refine XS.aloadN z2i.here hx rfl (hb hby y9_11) rfl rfl ?_
    refine zf4 _ ?_
    show Steps p.tables e below (zf2.setTop (mkF m 15 #[.val (.ref z0), .val (.int 0), .val (.int 13)] [(.ref z1)])) _
    refine XS.aloadN z6p.here hx rfl (hb hby y9_15) rfl rfl ?_
    refine zf5 _ ?_
    show Steps p.tables e below (z2j.setTop (mkF m 19 #[.val (.ref z0), .val (.int 0), .val (.int 13)] [(.ref z1), (.ref z1)])) _
    refine zi.arraylength hx (by rw [z6q]; exact z6r.1) (State.isArrayOf_alike hZ.alike z6r.2.1) (g := (mkF m 19 #[.val (.ref z0), .val (.int 0), .val (.int 13)] [(.ref z1), (.ref z1)])) rfl rfl (hb hby y9_19) _ ?_
    rw [len_of zf6 zf7]
    show Steps p.tables e below (z2j.setTop (mkF m 20 #[.val (.ref z0), .val (.int 0), .val (.int 13)] [(.int 16), (.ref z1)])) _
    refine XS.iconst zi.here hx rfl (hb hby y9_20) ?_
    refine XS.isub zi.here hx rfl (hb hby y9_21) rfl ?_
    show Steps p.tables e below (z2j.setTop (mkF m 22 #[.val (.ref z0), .val (.int 0), .val (.int 13)] [(.int 15), (.ref z1)])) _
    refine XS.iloadN zi.here hx rfl (hb hby y9_22) rfl ?_
    refine XS.isub zi.here hx rfl (hb hby y9_23) rfl ?_
    show Steps p.tables e below (z2j.setTop (mkF m 24 #[.val (.ref z0), .val (.int 0), .val (.int 13)] [(.int 2), (.ref z1)])) _
    refine XS.iloadN zi.here hx rfl (hb hby y9_24) rfl ?_
    refine zfg _ ?_
    show Steps p.tables e below (z6u.setTop (mkF m 26 #[.val (.ref z0), .val (.int 0), .val (.int 13)] [])) _
    refine XS.iinc zy.here hx rfl (hb hby y9_26) rfl (l' := #[.val (.ref z0), .val (.int 0), .val (.int 14)]) rfl ?_
    show Steps p.tables e below (z6u.setTop (mkF m 29 #[.val (.ref z0), .val (.int 0), .val (.int 14)] [])) _
    refine XS.goto zy.here hx rfl (pc0 := 29) (pc' := 2) rfl (hb hby y9_29) (by decide) (by decide) ?_
    refine XS.iloadN zy.here hx rfl (hb hby y9_2) rfl ?_
    refine XS.aloadN zy.here hx rfl (hb hby y9_3) rfl rfl ?_
    refine zfk _ ?_
    show Steps p.tables e below (z3o.setTop (mkF m 7 #[.val (.ref z0), .val (.int 0), .val (.int 14)] [(.ref z1), (.int 14)])) _
    refine z2m.arraylength hx (by rw [z6v]; exact z6w.1) (State.isArrayOf_alike hZ.alike z6w.2.1) (g := (mkF m 7 #[.val (.ref z0), .val (.int 0), .val (.int 14)] [(.ref z1), (.int 14)])) rfl rfl (hb hby y9_7) _ ?_
    rw [len_of zfl zfm]
    show Steps p.tables e below (z3o.setTop (mkF m 8 #[.val (.ref z0), .val (.int 0), .val (.int 14)] [(.int 16), (.int 14)])) _
    refine XS.icmpNo z2m.here hx rfl (hb hby y9_8) rfl (tlt (by decide : (14 : Int32) < (16 : Int32))).2.1 ?_
    show Steps p.tables e below (z3o.setTop (mkF m 11 #[.val (.ref z0), .val (.int 0), .val (.int 14)] [])) _
    refine XS.aloadN z2m.here hx rfl (hb hby y9_11) rfl rfl ?_
    refine zfp _ ?_
    show Steps p.tables e below (zfn.setTop (mkF m 15 #[.val (.ref z0), .val (.int 0), .val (.int 14)] [(.ref z1)])) _
    refine XS.aloadN z6x.here hx rfl (hb hby y9_15) rfl rfl ?_
    refine zfq _ ?_
    show Steps p.tables e below (z2n.setTop (mkF m 19 #[.val (.ref z0), .val (.int 0), .val (.int 14)] [(.ref z1), (.ref z1)])) _
    refine zj.arraylength hx (by rw [z6y]; exact z6z.1) (State.isArrayOf_alike hZ.alike z6z.2.1) (g := (mkF m 19 #[.val (.ref z0), .val (.int 0), .val (.int 14)] [(.ref z1), (.ref z1)])) rfl rfl (hb hby y9_19) _ ?_
    rw [len_of zfr zfs]
    show Steps p.tables e below (z2n.setTop (mkF m 20 #[.val (.ref z0), .val (.int 0), .val (.int 14)] [(.int 16), (.ref z1)])) _
    refine XS.iconst zj.here hx rfl (hb hby y9_20) ?_
    refine XS.isub zj.here hx rfl (hb hby y9_21) rfl ?_
    show Steps p.tables e below (z2n.setTop (mkF m 22 #[.val (.ref z0), .val (.int 0), .val (.int 14)] [(.int 15), (.ref z1)])) _
    refine XS.iloadN zj.here hx rfl (hb hby y9_22) rfl ?_
    refine XS.isub zj.here hx rfl (hb hby y9_23) rfl ?_
    show Steps p.tables e below (z2n.setTop (mkF m 24 #[.val (.ref z0), .val (.int 0), .val (.int 14)] [(.int 1), (.ref z1)])) _
    refine XS.iloadN zj.here hx rfl (hb hby y9_24) rfl ?_
    refine zg1 _ ?_
    show Steps p.tables e below (z72.setTop (mkF m 26 #[.val (.ref z0), .val (.int 0), .val (.int 14)] [])) _
    refine XS.iinc zz.here hx rfl (hb hby y9_26) rfl (l' := #[.val (.ref z0), .val (.int 0), .val (.int 15)]) rfl ?_
    show Steps p.tables e below (z72.setTop (mkF m 29 #[.val (.ref z0), .val (.int 0), .val (.int 15)] [])) _
    refine XS.goto zz.here hx rfl (pc0 := 29) (pc' := 2) rfl (hb hby y9_29) (by decide) (by decide) ?_
    refine XS.iloadN zz.here hx rfl (hb hby y9_2) rfl ?_
    refine XS.aloadN zz.here hx rfl (hb hby y9_3) rfl rfl ?_
    refine zg5 _ ?_
    show Steps p.tables e below (z3q.setTop (mkF m 7 #[.val (.ref z0), .val (.int 0), .val (.int 15)] [(.ref z1), (.int 15)])) _
    refine z2q.arraylength hx (by rw [z73]; exact z74.1) (State.isArrayOf_alike hZ.alike z74.2.1) (g := (mkF m 7 #[.val (.ref z0), .val (.int 0), .val (.int 15)] [(.ref z1), (.int 15)])) rfl rfl (hb hby y9_7) _ ?_
    rw [len_of zg6 zg7]
    show Steps p.tables e below (z3q.setTop (mkF m 8 #[.val (.ref z0), .val (.int 0), .val (.int 15)] [(.int 16), (.int 15)])) _
    refine XS.icmpNo z2q.here hx rfl (hb hby y9_8) rfl (tlt (by decide : (15 : Int32) < (16 : Int32))).2.1 ?_
    show Steps p.tables e below (z3q.setTop (mkF m 11 #[.val (.ref z0), .val (.int 0), .val (.int 15)] [])) _
    refine XS.aloadN z2q.here hx rfl (hb hby y9_11) rfl rfl ?_
    refine zga _ ?_
    show Steps p.tables e below (zg8.setTop (mkF m 15 #[.val (.ref z0), .val (.int 0), .val (.int 15)] [(.ref z1)])) _
    refine XS.aloadN z75.here hx rfl (hb hby y9_15) rfl rfl ?_
    refine zgb _ ?_
    show Steps p.tables e below (z2r.setTop (mkF m 19 #[.val (.ref z0), .val (.int 0), .val (.int 15)] [(.ref z1), (.ref z1)])) _
    refine zk.arraylength hx (by rw [z76]; exact z77.1) (State.isArrayOf_alike hZ.alike z77.2.1) (g := (mkF m 19 #[.val (.ref z0), .val (.int 0), .val (.int 15)] [(.ref z1), (.ref z1)])) rfl rfl (hb hby y9_19) _ ?_
    rw [len_of zgc zgd]
    show Steps p.tables e below (z2r.setTop (mkF m 20 #[.val (.ref z0), .val (.int 0), .val (.int 15)] [(.int 16), (.ref z1)])) _
    refine XS.iconst zk.here hx rfl (hb hby y9_20) ?_
    refine XS.isub zk.here hx rfl (hb hby y9_21) rfl ?_
    show Steps p.tables e below (z2r.setTop (mkF m 22 #[.val (.ref z0), .val (.int 0), .val (.int 15)] [(.int 15), (.ref z1)])) _
    refine XS.iloadN zk.here hx rfl (hb hby y9_22) rfl ?_
    refine XS.isub zk.here hx rfl (hb hby y9_23) rfl ?_
    show Steps p.tables e below (z2r.setTop (mkF m 24 #[.val (.ref z0), .val (.int 0), .val (.int 15)] [(.int 0), (.ref z1)])) _
    refine XS.iloadN zk.here hx rfl (hb hby y9_24) rfl ?_
    refine zgm _ ?_
    show Steps p.tables e below (z7a.setTop (mkF m 26 #[.val (.ref z0), .val (.int 0), .val (.int 15)] [])) _
    refine XS.iinc z10.here hx rfl (hb hby y9_26) rfl (l' := #[.val (.ref z0), .val (.int 0), .val (.int 16)]) rfl ?_
    show Steps p.tables e below (z7a.setTop (mkF m 29 #[.val (.ref z0), .val (.int 0), .val (.int 16)] [])) _
    refine XS.goto z10.here hx rfl (pc0 := 29) (pc' := 2) rfl (hb hby y9_29) (by decide) (by decide) ?_
    refine XS.iloadN z10.here hx rfl (hb hby y9_2) rfl ?_
    refine XS.aloadN z10.here hx rfl (hb hby y9_3) rfl rfl ?_
    refine zgq _ ?_
    show Steps p.tables e below (z2t.setTop (mkF m 7 #[.val (.ref z0), .val (.int 0), .val (.int 16)] [(.ref z1), (.int 16)])) _
    refine z2u.arraylength hx (by rw [z7c]; exact z7d.1) (State.isArrayOf_alike hZ.alike z7d.2.1) (g := (mkF m 7 #[.val (.ref z0), .val (.int 0), .val (.int 16)] [(.ref z1), (.int 16)])) rfl rfl (hb hby y9_7) _ ?_
    rw [len_of zgr zgs]
    show Steps p.tables e below (z2t.setTop (mkF m 8 #[.val (.ref z0), .val (.int 0), .val (.int 16)] [(.int 16), (.int 16)])) _
    refine XS.icmpYes z2u.here hx rfl (pc0 := 8) (pc' := 32) rfl (hb hby y9_8) rfl (flt (by decide : ¬ ((16 : Int32) < (16 : Int32)))).2.1 (by decide) (by decide) ?_
    show Steps p.tables e below (z2t.setTop (mkF m 32 #[.val (.ref z0), .val (.int 0), .val (.int 16)] [])) _
    exact z2u.returnOut hx Bd.returns (hb hby y9_32) hr
  · show Q_rmL2 Z p1 p2 p3 p4 p5 p6 A K z0 z1 z3 h0 n0 _ z2t.heap _
    rw [z7c]
    exact ⟨rfl, zgn, zgo, z7b⟩
def Q_rmL1 (Z : State) (p1 : Int32) (p2 : Int32) (p3 : Int32) (p4 : Int32) (p5 : Int32) (p6 : Int32) (A : Nat → Addr) (K : Nat → ClassId) (z0 : Addr) (h0 : Heap) (n0 : Nat) (v : Option Value) (h : Heap) (L : List Loc) : Prop := ∃ z6 : Addr, ∃ z1 : Addr, ∃ z2 : Addr, ∃ z3 : Addr, ∃ z4 : Addr, ∃ z5 : Addr, ∃ z7 : Addr, ∃ z9 : ClassId, ∃ za : ClassId, ∃ zb : ClassId, ∃ zc : ClassId, ∃ zd : ClassId, ∃ z8 : ClassId, ∃ ze : ClassId, v = none ∧ Fr n0 L ∧ Keep h0 h [z0] ∧ (n0 ≤ z6 ∧ h0.size ≤ z6) ∧ (n0 ≤ z1 ∧ h0.size ≤ z1) ∧ (n0 ≤ z2 ∧ h0.size ≤ z2) ∧ (n0 ≤ z3 ∧ h0.size ≤ z3) ∧ (n0 ≤ z4 ∧ h0.size ≤ z4) ∧ (n0 ≤ z5 ∧ h0.size ≤ z5) ∧ (n0 ≤ z7 ∧ h0.size ≤ z7) ∧ z6 < z1 ∧ z1 < z2 ∧ z2 < z3 ∧ z3 < z4 ∧ z4 < z5 ∧ z5 < z7 ∧ (Exa Z h z0 y_s0) ∧ (Fld Z h z0 y_s0 "at" "[D" (.ref z6)) ∧ (Fld Z h z0 y_s0 "added" "[J" (.ref z1)) ∧ (Fld Z h z0 y_s0 "slot" "[I" (.ref z2)) ∧ (Fld Z h z0 y_s0 "from" "[I" (.ref z3)) ∧ (Fld Z h z0 y_s0 "to" "[I" (.ref z4)) ∧ (Fld Z h z0 y_s0 "message" y_s1 (.ref z5)) ∧ (Fld Z h z0 y_s0 "free" "[I" (.ref z7)) ∧ (Fld Z h z0 y_s0 "size" "I" (.int 0)) ∧ (Fld Z h z0 y_s0 "additions" "J" (.long 0)) ∧ (Arv Z h z6 z9 .double (16 : Int32) [] (.double (Jvm.FP.l2d ((0 : Int32).toInt64)))) ∧ (Arv Z h z1 za .long (16 : Int32) [] (.long 0)) ∧ (Arv Z h z2 zb .int 16 [] (.int 0)) ∧ (Arv Z h z3 zc .int 16 [] (.int 0)) ∧ (Arv Z h z4 zd .int 16 [] (.int 0)) ∧ (Arv Z h z5 z8 (.object y_s2) (16 : Int32) [] .null) ∧ (Ovr Z z8 y_s2) ∧ (Arv Z h z7 ze .int 16 [(.int 15), (.int 14), (.int 13), (.int 12), (.int 11), (.int 10), (.int 9), (.int 8), (.int 7), (.int 6), (.int 5), (.int 4), (.int 3), (.int 2), (.int 1), (.int 0)] (.int 0))
theorem ya_0 : decode prog_48_method_1_code 0 = .ok (.aload_n 0, 1) := by decide +kernel
theorem ya_1 : decode prog_48_method_1_code 1 = .ok (.invokespecial 3, 3) := by decide +kernel
theorem ya_4 : decode prog_48_method_1_code 4 = .ok (.aload_n 0, 1) := by decide +kernel
theorem ya_5 : decode prog_48_method_1_code 5 = .ok (.bipush 16, 2) := by decide +kernel
theorem ya_7 : decode prog_48_method_1_code 7 = .ok (.newarray .double, 2) := by decide +kernel
theorem ya_9 : decode prog_48_method_1_code 9 = .ok (.putfield 9, 3) := by decide +kernel
theorem ya_12 : decode prog_48_method_1_code 12 = .ok (.aload_n 0, 1) := by decide +kernel
theorem ya_13 : decode prog_48_method_1_code 13 = .ok (.bipush 16, 2) := by decide +kernel
theorem ya_15 : decode prog_48_method_1_code 15 = .ok (.newarray .long, 2) := by decide +kernel
theorem ya_17 : decode prog_48_method_1_code 17 = .ok (.putfield 15, 3) := by decide +kernel
theorem ya_20 : decode prog_48_method_1_code 20 = .ok (.aload_n 0, 1) := by decide +kernel
theorem ya_21 : decode prog_48_method_1_code 21 = .ok (.bipush 16, 2) := by decide +kernel
theorem ya_23 : decode prog_48_method_1_code 23 = .ok (.newarray .int, 2) := by decide +kernel
theorem ya_25 : decode prog_48_method_1_code 25 = .ok (.putfield 19, 3) := by decide +kernel
theorem ya_28 : decode prog_48_method_1_code 28 = .ok (.aload_n 0, 1) := by decide +kernel
theorem ya_29 : decode prog_48_method_1_code 29 = .ok (.bipush 16, 2) := by decide +kernel
theorem ya_31 : decode prog_48_method_1_code 31 = .ok (.newarray .int, 2) := by decide +kernel
theorem ya_33 : decode prog_48_method_1_code 33 = .ok (.putfield 23, 3) := by decide +kernel
theorem ya_36 : decode prog_48_method_1_code 36 = .ok (.aload_n 0, 1) := by decide +kernel
theorem ya_37 : decode prog_48_method_1_code 37 = .ok (.bipush 16, 2) := by decide +kernel
theorem ya_39 : decode prog_48_method_1_code 39 = .ok (.newarray .int, 2) := by decide +kernel
theorem ya_41 : decode prog_48_method_1_code 41 = .ok (.putfield 26, 3) := by decide +kernel
theorem ya_44 : decode prog_48_method_1_code 44 = .ok (.aload_n 0, 1) := by decide +kernel
theorem ya_45 : decode prog_48_method_1_code 45 = .ok (.bipush 16, 2) := by decide +kernel
theorem ya_47 : decode prog_48_method_1_code 47 = .ok (.anewarray 4, 3) := by decide +kernel
theorem ya_50 : decode prog_48_method_1_code 50 = .ok (.putfield 29, 3) := by decide +kernel
theorem ya_53 : decode prog_48_method_1_code 53 = .ok (.aload_n 0, 1) := by decide +kernel
theorem ya_54 : decode prog_48_method_1_code 54 = .ok (.bipush 16, 2) := by decide +kernel
theorem ya_56 : decode prog_48_method_1_code 56 = .ok (.newarray .int, 2) := by decide +kernel
theorem ya_58 : decode prog_48_method_1_code 58 = .ok (.putfield 33, 3) := by decide +kernel
theorem ya_61 : decode prog_48_method_1_code 61 = .ok (.aload_n 0, 1) := by decide +kernel
theorem ya_62 : decode prog_48_method_1_code 62 = .ok (.iconst 0, 1) := by decide +kernel
theorem ya_63 : decode prog_48_method_1_code 63 = .ok (.invokevirtual 36, 3) := by decide +kernel
theorem ya_66 : decode prog_48_method_1_code 66 = .ok (.return_, 1) := by decide +kernel
set_option maxRecDepth 65536 in
set_option maxHeartbeats 40000000 in
theorem rmL1 (l : Launch) (Z : State) (a0 : Array Value) (hw : ∀ d ∈ tables_1, d.before a0 Z = true) (ws : List Jvm.Cond) (h0 : Heap) (n0 : Nat) (p1 : Int32) (p2 : Int32) (p3 : Int32) (p4 : Int32) (p5 : Int32) (p6 : Int32) (A : Nat → Addr) (K : Nat → ClassId)  (z0 : Addr) (EN : own_St Z A K) (OL0 : Old Z n0 h0) (z1i : Exa Z h0 z0 y_s0) (z3v : Fld Z h0 z0 y_s0 "at" "[D" .null) (z3w : Fld Z h0 z0 y_s0 "added" "[J" .null) (z3x : Fld Z h0 z0 y_s0 "slot" "[I" .null) (z3y : Fld Z h0 z0 y_s0 "from" "[I" .null) (z3z : Fld Z h0 z0 y_s0 "to" "[I" .null) (z40 : Fld Z h0 z0 y_s0 "message" y_s1 .null) (z41 : Fld Z h0 z0 y_s0 "free" "[I" .null) (z42 : Fld Z h0 z0 y_s0 "size" "I" (.int 0)) (z43 : Fld Z h0 z0 y_s0 "additions" "J" (.long 0)) (zc : n0 ≤ z0) :
    MetFree l own_m7 (head1 (Jvm.Cond.code own_m7 prog_48_method_1_code 1 none :: ws) (Room.mk 1 7 112 14)) (fun a U => a = #[(.ref z0)] ∧ Z.Warmed39 U.vm ∧ U.heap = h0) (fun _ _ _ _ _ => True) (fun _ U o U' => ∃ v L, o = .returned v ∧ Q_rmL1 Z p1 p2 p3 p4 p5 p6 A K z0 h0 n0 v U'.heap L ∧ FrameEnd U o U' L (Room.mk 1 7 112 14).cells (Room.mk 1 7 112 14).slots) := by
  refine MetFree.of_bodySF (plainFor_of_name own_pn0) hisR ?_
  intro p e s m args below meth c s₁ Bd hml0 hP hK
  obtain ⟨rfl, hZ, hh⟩ := hP
  have hx := Bd.exec
  have hby := Bd.bytes
  have hml : c.maxLocals = 1 := hml0
  have hown : s.vm.findClass y_s0 = some m.cls := findClass_of_methodNamed Bd.named
  have hnm := (name_of_methodNamed Bd.named Bd.method).1
  have X0 : Stand p l e (Room.mk 1 7 112 14) s m #[(.ref z0)] below meth c s₁ [] 0 0 := Stand.of_body Bd
  have e0 : s₁.heap = h0 := by rw [← hh, Bd.state]; rfl
  have N0 := Fr.nil n0
  have pre0 : ∀ t, Steps p.tables e below (s₁.setTop (mkF m 0 #[.val (.ref z0)] [])) t → Steps p.tables e below (s₁.setTop (entryFrame m #[(.ref z0)] 1)) t := fun t k => castTop (by first | (simp [entryFrame, mkF, argsToLocals, Value.category, maxLocals]; done) | rfl) k
  have KK0 : Keep h0 h0 [z0] := Keep.refl _ _
  obtain ⟨z44, z18, z45, z46⟩ := initO X0 hx hZ hown (own_W hw 10 rfl) (own_W hw 11 rfl) (own_W hw 12 rfl) e0 (g := (mkF m 1 #[.val (.ref z0)] [(.ref z0)])) rfl (by rw [hml]; rfl) rfl (hb hby ya_1) (by decide) (W := 0) (by show 2 * 0 + _ ≤ _; exact Nat.le_of_eq rfl) (by decide)
  obtain ⟨z47, z48, z1j, z49, z4a, zn, z1k, z1l⟩ := newP z18 hx hZ (own_W hw 13 rfl) z45 (g := (mkF m 7 #[.val (.ref z0)] [(.int 16), (.ref z0)])) rfl (hb hby ya_7) rfl (by decide) (cap := 16) (by decide) (by decide) (by decide) (by decide)
  obtain ⟨zd, zz⟩ : ∃ z, z = h0.size := ⟨_, rfl⟩
  rw [← zz] at z1k z1l
  have z4b : n0 ≤ zd := Nat.le_trans (OL0.1 ▸ OL0.2.1) (Nat.le_of_eq zz.symm)
  have z4c : h0.size ≤ zd := Nat.le_trans KK0.1 (Nat.le_of_eq zz.symm)
  have zs : z0 < zd := Nat.lt_of_lt_of_le z1i.lt (Nat.le_of_eq zz.symm)
  have z4d := OL0.ext zn
  have z4e := KK0.ext zn
  have z4f : Arv Z z48 zd z1j .double (16 : Int32) [] (.double (Jvm.FP.l2d ((0 : Int32).toInt64))) := own_newD z1k (by decide)
  have z1m := (z3v.ext zn)
  have z1n := (z1i.ext zn)
  obtain ⟨z4g, z1o, z10, z4h, zl, z4i⟩ := putF z49 hx hZ hown (host := "") (Or.inl (own_W hw 14 rfl)) Via.refl z4a z1m z1n (Or.inl (own_W hw 15 rfl)) (own_W hw 5 rfl) (ty := (.array .double)) (by decide) rfl rfl (g := (mkF m 9 #[.val (.ref z0)] [(.ref zd), (.ref z0)])) rfl rfl (hb hby ya_9)
  have z4j := Fr.snoc z10 N0 zc
  have z19 := z4d.wr zl zc
  have z1p := z4e.wr zl (own_Ix 0 rfl)
  have z4k : Fld Z z1o z0 y_s0 "at" "[D" (.ref zd) := z1m.same zl
  obtain ⟨z4l, z4m, z1q, z4n, z4o, zm, z1r, z1s⟩ := newP z10 hx hZ (own_W hw 16 rfl) z4h (g := (mkF m 15 #[.val (.ref z0)] [(.int 16), (.ref z0)])) rfl (hb hby ya_15) rfl (by decide) (cap := 16) (by decide) (by decide) (by decide) (by decide)
  obtain ⟨ze, zw⟩ : ∃ z, z = z1o.size := ⟨_, rfl⟩
  rw [← zw] at z1r z1s
  have z4p : n0 ≤ ze := Nat.le_trans (z19.1 ▸ z19.2.1) (Nat.le_of_eq zw.symm)
  have z4q : h0.size ≤ ze := Nat.le_trans z1p.1 (Nat.le_of_eq zw.symm)
  have z1t := (z1n.wr zl)
  have z1u := (z4f.other zl (Ne.symm (Nat.ne_of_lt zs)))
  have zu : z0 < ze := Nat.lt_of_lt_of_le z1t.lt (Nat.le_of_eq zw.symm)
  have z4r : zd < ze := Nat.lt_of_lt_of_le z1u.lt (Nat.le_of_eq zw.symm)
  have z4s := z19.ext zm
  have z4t := z1p.ext zm
  have z4u : Arv Z z4m ze z1q .long (16 : Int32) [] (.long 0) := Arv.new z1r (by decide)
  have z1v := (((z3w.ext zn).other zl (Or.inr (slot_ne (Or.inl (own_W hw 18 rfl)) (Or.inl (own_W hw 15 rfl)) (by decide) (t := (.array .long)) (t' := (.array .double)) (by decide) (by decide)))).ext zm)
  have z1w := (z1t.ext zm)
  obtain ⟨z4v, z1x, z11, z4w, zf, z4x⟩ := putF z4n hx hZ hown (host := "") (Or.inl (own_W hw 17 rfl)) Via.refl z4o z1v z1w (Or.inl (own_W hw 18 rfl)) (own_W hw 5 rfl) (ty := (.array .long)) (by decide) rfl rfl (g := (mkF m 17 #[.val (.ref z0)] [(.ref ze), (.ref z0)])) rfl rfl (hb hby ya_17)
  have z4y := Fr.snoc z11 z4j zc
  have z1a := z4s.wr zf zc
  have z1y := z4t.wr zf (own_Ix 0 rfl)
  have z4z : Fld Z z1x z0 y_s0 "added" "[J" (.ref ze) := z1v.same zf
  obtain ⟨z50, z51, z1z, z52, z53, zg, z20, z21⟩ := newP z11 hx hZ (own_W hw 19 rfl) z4w (g := (mkF m 23 #[.val (.ref z0)] [(.int 16), (.ref z0)])) rfl (hb hby ya_23) rfl (by decide) (cap := 16) (by decide) (by decide) (by decide) (by decide)
  obtain ⟨zh, zv⟩ : ∃ z, z = z1x.size := ⟨_, rfl⟩
  rw [← zv] at z20 z21
  have z54 : n0 ≤ zh := Nat.le_trans (z1a.1 ▸ z1a.2.1) (Nat.le_of_eq zv.symm)
  have z55 : h0.size ≤ zh := Nat.le_trans z1y.1 (Nat.le_of_eq zv.symm)
  have z22 := (z1w.wr zf)
  have z23 := ((z1u.ext zm).other zf (Ne.symm (Nat.ne_of_lt zs)))
  have z24 := (z4u.other zf (Ne.symm (Nat.ne_of_lt zu)))
  have zx : z0 < zh := Nat.lt_of_lt_of_le z22.lt (Nat.le_of_eq zv.symm)
  have z7r : zd < zh := Nat.lt_of_lt_of_le z23.lt (Nat.le_of_eq zv.symm)
  have z56 : ze < zh := Nat.lt_of_lt_of_le z24.lt (Nat.le_of_eq zv.symm)
  have z57 := z1a.ext zg
  have z58 := z1y.ext zg
  have z59 : Arv Z z51 zh z1z .int 16 [] (.int 0) := Arv.new z20 (by decide)
  have z25 := (((((z3x.ext zn).other zl (Or.inr (slot_ne (Or.inl (own_W hw 21 rfl)) (Or.inl (own_W hw 15 rfl)) (by decide) (t := (.array .int)) (t' := (.array .double)) (by decide) (by decide)))).ext zm).other zf (Or.inr (slot_ne (Or.inl (own_W hw 21 rfl)) (Or.inl (own_W hw 18 rfl)) (by decide) (t := (.array .int)) (t' := (.array .long)) (by decide) (by decide)))).ext zg)
  have z26 := (z22.ext zg)
  obtain ⟨z5a, z27, z12, z5b, z9, z5c⟩ := putF z52 hx hZ hown (host := "") (Or.inl (own_W hw 20 rfl)) Via.refl z53 z25 z26 (Or.inl (own_W hw 21 rfl)) (own_W hw 5 rfl) (ty := (.array .int)) (by decide) rfl rfl (g := (mkF m 25 #[.val (.ref z0)] [(.ref zh), (.ref z0)])) rfl rfl (hb hby ya_25)
  have z5d := Fr.snoc z12 z4y zc
  have z1b := z57.wr z9 zc
  have z28 := z58.wr z9 (own_Ix 0 rfl)
  have z5e : Fld Z z27 z0 y_s0 "slot" "[I" (.ref zh) := z25.same z9
  obtain ⟨z5f, z5g, z29, z5h, z5i, za, z2a, z2b⟩ := newP z12 hx hZ (own_W hw 19 rfl) z5b (g := (mkF m 31 #[.val (.ref z0)] [(.int 16), (.ref z0)])) rfl (hb hby ya_31) rfl (by decide) (cap := 16) (by decide) (by decide) (by decide) (by decide)
  obtain ⟨zi, zt⟩ : ∃ z, z = z27.size := ⟨_, rfl⟩
  rw [← zt] at z2a z2b
  have z5j : n0 ≤ zi := Nat.le_trans (z1b.1 ▸ z1b.2.1) (Nat.le_of_eq zt.symm)
  have z5k : h0.size ≤ zi := Nat.le_trans z28.1 (Nat.le_of_eq zt.symm)
  have z2c := (z26.wr z9)
  have z2d := ((z23.ext zg).other z9 (Ne.symm (Nat.ne_of_lt zs)))
  have z2e := ((z24.ext zg).other z9 (Ne.symm (Nat.ne_of_lt zu)))
  have z2f := (z59.other z9 (Ne.symm (Nat.ne_of_lt zx)))
  have z13 : z0 < zi := Nat.lt_of_lt_of_le z2c.lt (Nat.le_of_eq zt.symm)
  have z7s : zd < zi := Nat.lt_of_lt_of_le z2d.lt (Nat.le_of_eq zt.symm)
  have z7t : ze < zi := Nat.lt_of_lt_of_le z2e.lt (Nat.le_of_eq zt.symm)
  have z5l : zh < zi := Nat.lt_of_lt_of_le z2f.lt (Nat.le_of_eq zt.symm)
  have z5m := z1b.ext za
  have z5n := z28.ext za
  have z5o : Arv Z z5g zi z29 .int 16 [] (.int 0) := Arv.new z2a (by decide)
  have z2g := (((((((z3y.ext zn).other zl (Or.inr (slot_ne (Or.inl (own_W hw 23 rfl)) (Or.inl (own_W hw 15 rfl)) (by decide) (t := (.array .int)) (t' := (.array .double)) (by decide) (by decide)))).ext zm).other zf (Or.inr (slot_ne (Or.inl (own_W hw 23 rfl)) (Or.inl (own_W hw 18 rfl)) (by decide) (t := (.array .int)) (t' := (.array .long)) (by decide) (by decide)))).ext zg).other z9 (Or.inr (slot_ne (Or.inl (own_W hw 23 rfl)) (Or.inl (own_W hw 21 rfl)) (by decide) (t := (.array .int)) (t' := (.array .int)) (by decide) (by decide)))).ext za)
  have z2h := (z2c.ext za)
  obtain ⟨z5p, z2i, z14, z5q, z7, z5r⟩ := putF z5h hx hZ hown (host := "") (Or.inl (own_W hw 22 rfl)) Via.refl z5i z2g z2h (Or.inl (own_W hw 23 rfl)) (own_W hw 5 rfl) (ty := (.array .int)) (by decide) rfl rfl (g := (mkF m 33 #[.val (.ref z0)] [(.ref zi), (.ref z0)])) rfl rfl (hb hby ya_33)
  have z5s := Fr.snoc z14 z5d zc
  have z1c := z5m.wr z7 zc
  have z2j := z5n.wr z7 (own_Ix 0 rfl)
  have z5t : Fld Z z2i z0 y_s0 "from" "[I" (.ref zi) := z2g.same z7
  obtain ⟨z5u, z5v, z2k, z5w, z5x, z8, z2l, z2m⟩ := newP z14 hx hZ (own_W hw 19 rfl) z5q (g := (mkF m 39 #[.val (.ref z0)] [(.int 16), (.ref z0)])) rfl (hb hby ya_39) rfl (by decide) (cap := 16) (by decide) (by decide) (by decide) (by decide)
  obtain ⟨zj, zr⟩ : ∃ z, z = z2i.size := ⟨_, rfl⟩
  rw [← zr] at z2l z2m
  have z5y : n0 ≤ zj := Nat.le_trans (z1c.1 ▸ z1c.2.1) (Nat.le_of_eq zr.symm)
  have z5z : h0.size ≤ zj := Nat.le_trans z2j.1 (Nat.le_of_eq zr.symm)
  have z2n := (z2h.wr z7)
  have z2o := ((z2d.ext za).other z7 (Ne.symm (Nat.ne_of_lt zs)))
  have z2p := ((z2e.ext za).other z7 (Ne.symm (Nat.ne_of_lt zu)))
  have z2q := ((z2f.ext za).other z7 (Ne.symm (Nat.ne_of_lt zx)))
  have z2r := (z5o.other z7 (Ne.symm (Nat.ne_of_lt z13)))
  have z1d : z0 < zj := Nat.lt_of_lt_of_le z2n.lt (Nat.le_of_eq zr.symm)
  have z7u : zd < zj := Nat.lt_of_lt_of_le z2o.lt (Nat.le_of_eq zr.symm)
  have z7v : ze < zj := Nat.lt_of_lt_of_le z2p.lt (Nat.le_of_eq zr.symm)
  have z7w : zh < zj := Nat.lt_of_lt_of_le z2q.lt (Nat.le_of_eq zr.symm)
  have z60 : zi < zj := Nat.lt_of_lt_of_le z2r.lt (Nat.le_of_eq zr.symm)
  have z61 := z1c.ext z8
  have z62 := z2j.ext z8
  have z63 : Arv Z z5v zj z2k .int 16 [] (.int 0) := Arv.new z2l (by decide)
  have z2s := (((((((((z3z.ext zn).other zl (Or.inr (slot_ne (Or.inl (own_W hw 25 rfl)) (Or.inl (own_W hw 15 rfl)) (by decide) (t := (.array .int)) (t' := (.array .double)) (by decide) (by decide)))).ext zm).other zf (Or.inr (slot_ne (Or.inl (own_W hw 25 rfl)) (Or.inl (own_W hw 18 rfl)) (by decide) (t := (.array .int)) (t' := (.array .long)) (by decide) (by decide)))).ext zg).other z9 (Or.inr (slot_ne (Or.inl (own_W hw 25 rfl)) (Or.inl (own_W hw 21 rfl)) (by decide) (t := (.array .int)) (t' := (.array .int)) (by decide) (by decide)))).ext za).other z7 (Or.inr (slot_ne (Or.inl (own_W hw 25 rfl)) (Or.inl (own_W hw 23 rfl)) (by decide) (t := (.array .int)) (t' := (.array .int)) (by decide) (by decide)))).ext z8)
  have z2t := (z2n.ext z8)
  obtain ⟨z64, z2u, z15, z65, z5, z66⟩ := putF z5w hx hZ hown (host := "") (Or.inl (own_W hw 24 rfl)) Via.refl z5x z2s z2t (Or.inl (own_W hw 25 rfl)) (own_W hw 5 rfl) (ty := (.array .int)) (by decide) rfl rfl (g := (mkF m 41 #[.val (.ref z0)] [(.ref zj), (.ref z0)])) rfl rfl (hb hby ya_41)
  have z67 := Fr.snoc z15 z5s zc
  have z1e := z61.wr z5 zc
  have z2v := z62.wr z5 (own_Ix 0 rfl)
  have z68 : Fld Z z2u z0 y_s0 "to" "[I" (.ref zj) := z2s.same z5
  obtain ⟨z69, z6a, z2w, z6b, z6c, z6, z2x, z6d, z2y⟩ := newR z15 hx hZ hown (own_W hw 26 rfl) (own_W hw 27 rfl) z65 (g := (mkF m 47 #[.val (.ref z0)] [(.int 16), (.ref z0)])) rfl (hb hby ya_47) rfl (by decide) (cap := 16) (by decide) (by decide) (by decide) (by decide)
  obtain ⟨zk, zq⟩ : ∃ z, z = z2u.size := ⟨_, rfl⟩
  rw [← zq] at z2x z2y
  have z6e : n0 ≤ zk := Nat.le_trans (z1e.1 ▸ z1e.2.1) (Nat.le_of_eq zq.symm)
  have z6f : h0.size ≤ zk := Nat.le_trans z2v.1 (Nat.le_of_eq zq.symm)
  have z2z := (z2t.wr z5)
  have z30 := ((z2o.ext z8).other z5 (Ne.symm (Nat.ne_of_lt zs)))
  have z31 := ((z2p.ext z8).other z5 (Ne.symm (Nat.ne_of_lt zu)))
  have z32 := ((z2q.ext z8).other z5 (Ne.symm (Nat.ne_of_lt zx)))
  have z33 := ((z2r.ext z8).other z5 (Ne.symm (Nat.ne_of_lt z13)))
  have z34 := (z63.other z5 (Ne.symm (Nat.ne_of_lt z1d)))
  have z35 : z0 < zk := Nat.lt_of_lt_of_le z2z.lt (Nat.le_of_eq zq.symm)
  have z7x : zd < zk := Nat.lt_of_lt_of_le z30.lt (Nat.le_of_eq zq.symm)
  have z7y : ze < zk := Nat.lt_of_lt_of_le z31.lt (Nat.le_of_eq zq.symm)
  have z7z : zh < zk := Nat.lt_of_lt_of_le z32.lt (Nat.le_of_eq zq.symm)
  have z80 : zi < zk := Nat.lt_of_lt_of_le z33.lt (Nat.le_of_eq zq.symm)
  have z6g : zj < zk := Nat.lt_of_lt_of_le z34.lt (Nat.le_of_eq zq.symm)
  have z6h := z1e.ext z6
  have z6i := z2v.ext z6
  have z6j : Arv Z z6a zk z2w (.object y_s2) (16 : Int32) [] .null := Arv.new z2x (by decide)
  have z36 := (((((((((((z40.ext zn).other zl (Or.inr (slot_ne (Or.inl (own_W hw 29 rfl)) (Or.inl (own_W hw 15 rfl)) (by decide) (t := (.array (.object y_s2))) (t' := (.array .double)) (by decide) (by decide)))).ext zm).other zf (Or.inr (slot_ne (Or.inl (own_W hw 29 rfl)) (Or.inl (own_W hw 18 rfl)) (by decide) (t := (.array (.object y_s2))) (t' := (.array .long)) (by decide) (by decide)))).ext zg).other z9 (Or.inr (slot_ne (Or.inl (own_W hw 29 rfl)) (Or.inl (own_W hw 21 rfl)) (by decide) (t := (.array (.object y_s2))) (t' := (.array .int)) (by decide) (by decide)))).ext za).other z7 (Or.inr (slot_ne (Or.inl (own_W hw 29 rfl)) (Or.inl (own_W hw 23 rfl)) (by decide) (t := (.array (.object y_s2))) (t' := (.array .int)) (by decide) (by decide)))).ext z8).other z5 (Or.inr (slot_ne (Or.inl (own_W hw 29 rfl)) (Or.inl (own_W hw 25 rfl)) (by decide) (t := (.array (.object y_s2))) (t' := (.array .int)) (by decide) (by decide)))).ext z6)
  have z37 := (z2z.ext z6)
  obtain ⟨z6k, z38, z16, z6l, z2, z6m⟩ := putF z6b hx hZ hown (host := "") (Or.inl (own_W hw 28 rfl)) Via.refl z6c z36 z37 (Or.inl (own_W hw 29 rfl)) (own_W hw 5 rfl) (ty := (.array (.object y_s2))) (by decide) rfl rfl (g := (mkF m 50 #[.val (.ref z0)] [(.ref zk), (.ref z0)])) rfl rfl (hb hby ya_50)
  have z6n := Fr.snoc z16 z67 zc
  have z1f := z6h.wr z2 zc
  have z39 := z6i.wr z2 (own_Ix 0 rfl)
  have z6o : Fld Z z38 z0 y_s0 "message" y_s1 (.ref zk) := z36.same z2
  obtain ⟨z6p, z6q, z1g, z6r, z6s, z3, z3a, z3b⟩ := newP z16 hx hZ (own_W hw 19 rfl) z6l (g := (mkF m 56 #[.val (.ref z0)] [(.int 16), (.ref z0)])) rfl (hb hby ya_56) rfl (by decide) (cap := 16) (by decide) (by decide) (by decide) (by decide)
  obtain ⟨zb, zp⟩ : ∃ z, z = z38.size := ⟨_, rfl⟩
  rw [← zp] at z3a z3b
  have z1h : n0 ≤ zb := Nat.le_trans (z1f.1 ▸ z1f.2.1) (Nat.le_of_eq zp.symm)
  have z3c : h0.size ≤ zb := Nat.le_trans z39.1 (Nat.le_of_eq zp.symm)
  have z3d := (z37.wr z2)
  have z3e := ((z30.ext z6).other z2 (Ne.symm (Nat.ne_of_lt zs)))
  have z3f := ((z31.ext z6).other z2 (Ne.symm (Nat.ne_of_lt zu)))
  have z3g := ((z32.ext z6).other z2 (Ne.symm (Nat.ne_of_lt zx)))
  have z3h := ((z33.ext z6).other z2 (Ne.symm (Nat.ne_of_lt z13)))
  have z3i := ((z34.ext z6).other z2 (Ne.symm (Nat.ne_of_lt z1d)))
  have z3j := (z6j.other z2 (Ne.symm (Nat.ne_of_lt z35)))
  have zo : z0 < zb := Nat.lt_of_lt_of_le z3d.lt (Nat.le_of_eq zp.symm)
  have z6t : zd < zb := Nat.lt_of_lt_of_le z3e.lt (Nat.le_of_eq zp.symm)
  have z6u : ze < zb := Nat.lt_of_lt_of_le z3f.lt (Nat.le_of_eq zp.symm)
  have z6v : zh < zb := Nat.lt_of_lt_of_le z3g.lt (Nat.le_of_eq zp.symm)
  have z6w : zi < zb := Nat.lt_of_lt_of_le z3h.lt (Nat.le_of_eq zp.symm)
  have z6x : zj < zb := Nat.lt_of_lt_of_le z3i.lt (Nat.le_of_eq zp.symm)
  have z3k : zk < zb := Nat.lt_of_lt_of_le z3j.lt (Nat.le_of_eq zp.symm)
  have z6y := z1f.ext z3
  have z6z := z39.ext z3
  have z70 : Arv Z z6q zb z1g .int 16 [] (.int 0) := Arv.new z3a (by decide)
  have z3l := (((((((((((((z41.ext zn).other zl (Or.inr (slot_ne (Or.inl (own_W hw 31 rfl)) (Or.inl (own_W hw 15 rfl)) (by decide) (t := (.array .int)) (t' := (.array .double)) (by decide) (by decide)))).ext zm).other zf (Or.inr (slot_ne (Or.inl (own_W hw 31 rfl)) (Or.inl (own_W hw 18 rfl)) (by decide) (t := (.array .int)) (t' := (.array .long)) (by decide) (by decide)))).ext zg).other z9 (Or.inr (slot_ne (Or.inl (own_W hw 31 rfl)) (Or.inl (own_W hw 21 rfl)) (by decide) (t := (.array .int)) (t' := (.array .int)) (by decide) (by decide)))).ext za).other z7 (Or.inr (slot_ne (Or.inl (own_W hw 31 rfl)) (Or.inl (own_W hw 23 rfl)) (by decide) (t := (.array .int)) (t' := (.array .int)) (by decide) (by decide)))).ext z8).other z5 (Or.inr (slot_ne (Or.inl (own_W hw 31 rfl)) (Or.inl (own_W hw 25 rfl)) (by decide) (t := (.array .int)) (t' := (.array .int)) (by decide) (by decide)))).ext z6).other z2 (Or.inr (slot_ne (Or.inl (own_W hw 31 rfl)) (Or.inl (own_W hw 29 rfl)) (by decide) (t := (.array .int)) (t' := (.array (.object y_s2))) (by decide) (by decide)))).ext z3)
  have z3m := (z3d.ext z3)
  obtain ⟨z71, z3n, z17, z3o, z1, z72⟩ := putF z6r hx hZ hown (host := "") (Or.inl (own_W hw 30 rfl)) Via.refl z6s z3l z3m (Or.inl (own_W hw 31 rfl)) (own_W hw 5 rfl) (ty := (.array .int)) (by decide) rfl rfl (g := (mkF m 58 #[.val (.ref z0)] [(.ref zb), (.ref z0)])) rfl rfl (hb hby ya_58)
  have z73 := Fr.snoc z17 z6n zc
  have z3p := z6y.wr z1 zc
  have z74 := z6z.wr z1 (own_Ix 0 rfl)
  have z3q : Fld Z z3n z0 y_s0 "free" "[I" (.ref zb) := z3l.same z1
  have z75 := (z70.other z1 (Ne.symm (Nat.ne_of_lt zo)))
  have z3r := (z3m.wr z1)
  obtain ⟨cq737, z76, q737'⟩ := z3r.cell
  obtain ⟨_, _, ⟨z3s, L737, z81, n737⟩, -, zy, ⟨Lc737, z3t, l737, y737, z737⟩, z3u⟩ := z17.privateBack hx (y := own_m10) hown (mvT hZ (own_W hw 32 rfl)) (mvT hZ (own_W hw 33 rfl)) (own_selpS (y := own_m10) (mvT hZ (own_W hw 39 rfl)) rfl (mvP (args := #[]) hZ (own_W hw 34 rfl)) (mvT hZ (own_W hw 33 rfl)) (by decide)) (Cond.privateMethod_at (mvP hZ (own_W hw 34 rfl) (args := #[]))) (mvT hZ (own_W hw 35 rfl)) (by decide) (backOf (W := 0) (rmL2 l Z a0 hw [] z3n n0 p1 p2 p3 p4 p5 p6 A K z0 zb z1g EN z3p z3q z75 (Nat.ne_of_lt zo) z1h) hZ (own_W hw 35 rfl) (own_W hw 6 rfl) (by decide) (by decide)) (g := (mkF m 63 #[.val (.ref z0)] [(.int 0), (.ref z0)])) rfl (by rw [hml]; rfl) (Steps.refl _) (a := z0) (by rw [z3o]; exact z76) q737' (argsL := [(.int 0)]) (rest := []) (lenOf own_pd5 rfl) rfl (by show 2 * 0 + _ ≤ _; exact Nat.le_of_eq rfl) (hb hby ya_63) (fun _ _ => ⟨rfl, z3o, (by decide : 7 + 0 ≤ _), (by decide : 112 + 0 ≤ _)⟩)
  dsimp only [Pt.U, Pt.locs, Pt.cells, Pt.slots] at zy l737 y737 z737 z3u z3t
  replace zy := own_sub zy l737 y737 z737
  obtain ⟨rfl, z77, z4, z78⟩ := z3t
  have z79 := Fr.app z73 z77
  have z82 := z3p.keep z4 (allS z1h all0)
  have z7a := z74.trans z4 (allS (Or.inr z3c) all0)
  have z7b := (z3r.keep z4)
  have z7c := (((((((((((((z4k.ext zm).other zf (Or.inr (slot_ne (Or.inl (own_W hw 15 rfl)) (Or.inl (own_W hw 18 rfl)) (by decide) (t := (.array .double)) (t' := (.array .long)) (by decide) (by decide)))).ext zg).other z9 (Or.inr (slot_ne (Or.inl (own_W hw 15 rfl)) (Or.inl (own_W hw 21 rfl)) (by decide) (t := (.array .double)) (t' := (.array .int)) (by decide) (by decide)))).ext za).other z7 (Or.inr (slot_ne (Or.inl (own_W hw 15 rfl)) (Or.inl (own_W hw 23 rfl)) (by decide) (t := (.array .double)) (t' := (.array .int)) (by decide) (by decide)))).ext z8).other z5 (Or.inr (slot_ne (Or.inl (own_W hw 15 rfl)) (Or.inl (own_W hw 25 rfl)) (by decide) (t := (.array .double)) (t' := (.array .int)) (by decide) (by decide)))).ext z6).other z2 (Or.inr (slot_ne (Or.inl (own_W hw 15 rfl)) (Or.inl (own_W hw 29 rfl)) (by decide) (t := (.array .double)) (t' := (.array (.object y_s2))) (by decide) (by decide)))).ext z3).other z1 (Or.inr (slot_ne (Or.inl (own_W hw 15 rfl)) (Or.inl (own_W hw 31 rfl)) (by decide) (t := (.array .double)) (t' := (.array .int)) (by decide) (by decide)))).keep z4 (ninS (Nat.ne_of_lt zo) nin0))
  have z7d := (((((((((((z4z.ext zg).other z9 (Or.inr (slot_ne (Or.inl (own_W hw 18 rfl)) (Or.inl (own_W hw 21 rfl)) (by decide) (t := (.array .long)) (t' := (.array .int)) (by decide) (by decide)))).ext za).other z7 (Or.inr (slot_ne (Or.inl (own_W hw 18 rfl)) (Or.inl (own_W hw 23 rfl)) (by decide) (t := (.array .long)) (t' := (.array .int)) (by decide) (by decide)))).ext z8).other z5 (Or.inr (slot_ne (Or.inl (own_W hw 18 rfl)) (Or.inl (own_W hw 25 rfl)) (by decide) (t := (.array .long)) (t' := (.array .int)) (by decide) (by decide)))).ext z6).other z2 (Or.inr (slot_ne (Or.inl (own_W hw 18 rfl)) (Or.inl (own_W hw 29 rfl)) (by decide) (t := (.array .long)) (t' := (.array (.object y_s2))) (by decide) (by decide)))).ext z3).other z1 (Or.inr (slot_ne (Or.inl (own_W hw 18 rfl)) (Or.inl (own_W hw 31 rfl)) (by decide) (t := (.array .long)) (t' := (.array .int)) (by decide) (by decide)))).keep z4 (ninS (Nat.ne_of_lt zo) nin0))
  have z7e := (((((((((z5e.ext za).other z7 (Or.inr (slot_ne (Or.inl (own_W hw 21 rfl)) (Or.inl (own_W hw 23 rfl)) (by decide) (t := (.array .int)) (t' := (.array .int)) (by decide) (by decide)))).ext z8).other z5 (Or.inr (slot_ne (Or.inl (own_W hw 21 rfl)) (Or.inl (own_W hw 25 rfl)) (by decide) (t := (.array .int)) (t' := (.array .int)) (by decide) (by decide)))).ext z6).other z2 (Or.inr (slot_ne (Or.inl (own_W hw 21 rfl)) (Or.inl (own_W hw 29 rfl)) (by decide) (t := (.array .int)) (t' := (.array (.object y_s2))) (by decide) (by decide)))).ext z3).other z1 (Or.inr (slot_ne (Or.inl (own_W hw 21 rfl)) (Or.inl (own_W hw 31 rfl)) (by decide) (t := (.array .int)) (t' := (.array .int)) (by decide) (by decide)))).keep z4 (ninS (Nat.ne_of_lt zo) nin0))
  have z7f := (((((((z5t.ext z8).other z5 (Or.inr (slot_ne (Or.inl (own_W hw 23 rfl)) (Or.inl (own_W hw 25 rfl)) (by decide) (t := (.array .int)) (t' := (.array .int)) (by decide) (by decide)))).ext z6).other z2 (Or.inr (slot_ne (Or.inl (own_W hw 23 rfl)) (Or.inl (own_W hw 29 rfl)) (by decide) (t := (.array .int)) (t' := (.array (.object y_s2))) (by decide) (by decide)))).ext z3).other z1 (Or.inr (slot_ne (Or.inl (own_W hw 23 rfl)) (Or.inl (own_W hw 31 rfl)) (by decide) (t := (.array .int)) (t' := (.array .int)) (by decide) (by decide)))).keep z4 (ninS (Nat.ne_of_lt zo) nin0))
  have z7g := (((((z68.ext z6).other z2 (Or.inr (slot_ne (Or.inl (own_W hw 25 rfl)) (Or.inl (own_W hw 29 rfl)) (by decide) (t := (.array .int)) (t' := (.array (.object y_s2))) (by decide) (by decide)))).ext z3).other z1 (Or.inr (slot_ne (Or.inl (own_W hw 25 rfl)) (Or.inl (own_W hw 31 rfl)) (by decide) (t := (.array .int)) (t' := (.array .int)) (by decide) (by decide)))).keep z4 (ninS (Nat.ne_of_lt zo) nin0))
  have z7h := (((z6o.ext z3).other z1 (Or.inr (slot_ne (Or.inl (own_W hw 29 rfl)) (Or.inl (own_W hw 31 rfl)) (by decide) (t := (.array (.object y_s2))) (t' := (.array .int)) (by decide) (by decide)))).keep z4 (ninS (Nat.ne_of_lt zo) nin0))
  have z7i := (z3q.keep z4 (ninS (Nat.ne_of_lt zo) nin0))
  have z7j := (((((((((((((((z42.ext zn).other zl (Or.inr (slot_ne (Or.inl (own_W hw 42 rfl)) (Or.inl (own_W hw 15 rfl)) (by decide) (t := .int) (t' := (.array .double)) (by decide) (by decide)))).ext zm).other zf (Or.inr (slot_ne (Or.inl (own_W hw 42 rfl)) (Or.inl (own_W hw 18 rfl)) (by decide) (t := .int) (t' := (.array .long)) (by decide) (by decide)))).ext zg).other z9 (Or.inr (slot_ne (Or.inl (own_W hw 42 rfl)) (Or.inl (own_W hw 21 rfl)) (by decide) (t := .int) (t' := (.array .int)) (by decide) (by decide)))).ext za).other z7 (Or.inr (slot_ne (Or.inl (own_W hw 42 rfl)) (Or.inl (own_W hw 23 rfl)) (by decide) (t := .int) (t' := (.array .int)) (by decide) (by decide)))).ext z8).other z5 (Or.inr (slot_ne (Or.inl (own_W hw 42 rfl)) (Or.inl (own_W hw 25 rfl)) (by decide) (t := .int) (t' := (.array .int)) (by decide) (by decide)))).ext z6).other z2 (Or.inr (slot_ne (Or.inl (own_W hw 42 rfl)) (Or.inl (own_W hw 29 rfl)) (by decide) (t := .int) (t' := (.array (.object y_s2))) (by decide) (by decide)))).ext z3).other z1 (Or.inr (slot_ne (Or.inl (own_W hw 42 rfl)) (Or.inl (own_W hw 31 rfl)) (by decide) (t := .int) (t' := (.array .int)) (by decide) (by decide)))).keep z4 (ninS (Nat.ne_of_lt zo) nin0))
  have z7k := (((((((((((((((z43.ext zn).other zl (Or.inr (slot_ne (Or.inl (own_W hw 44 rfl)) (Or.inl (own_W hw 15 rfl)) (by decide) (t := .long) (t' := (.array .double)) (by decide) (by decide)))).ext zm).other zf (Or.inr (slot_ne (Or.inl (own_W hw 44 rfl)) (Or.inl (own_W hw 18 rfl)) (by decide) (t := .long) (t' := (.array .long)) (by decide) (by decide)))).ext zg).other z9 (Or.inr (slot_ne (Or.inl (own_W hw 44 rfl)) (Or.inl (own_W hw 21 rfl)) (by decide) (t := .long) (t' := (.array .int)) (by decide) (by decide)))).ext za).other z7 (Or.inr (slot_ne (Or.inl (own_W hw 44 rfl)) (Or.inl (own_W hw 23 rfl)) (by decide) (t := .long) (t' := (.array .int)) (by decide) (by decide)))).ext z8).other z5 (Or.inr (slot_ne (Or.inl (own_W hw 44 rfl)) (Or.inl (own_W hw 25 rfl)) (by decide) (t := .long) (t' := (.array .int)) (by decide) (by decide)))).ext z6).other z2 (Or.inr (slot_ne (Or.inl (own_W hw 44 rfl)) (Or.inl (own_W hw 29 rfl)) (by decide) (t := .long) (t' := (.array (.object y_s2))) (by decide) (by decide)))).ext z3).other z1 (Or.inr (slot_ne (Or.inl (own_W hw 44 rfl)) (Or.inl (own_W hw 31 rfl)) (by decide) (t := .long) (t' := (.array .int)) (by decide) (by decide)))).keep z4 (ninS (Nat.ne_of_lt zo) nin0))
  have z7l := (((z3e.ext z3).other z1 (Ne.symm (Nat.ne_of_lt zs))).keep z4 (ninS (Nat.ne_of_lt z6t) nin0))
  have z7m := (((z3f.ext z3).other z1 (Ne.symm (Nat.ne_of_lt zu))).keep z4 (ninS (Nat.ne_of_lt z6u) nin0))
  have z7n := (((z3g.ext z3).other z1 (Ne.symm (Nat.ne_of_lt zx))).keep z4 (ninS (Nat.ne_of_lt z6v) nin0))
  have z7o := (((z3h.ext z3).other z1 (Ne.symm (Nat.ne_of_lt z13))).keep z4 (ninS (Nat.ne_of_lt z6w) nin0))
  have z7p := (((z3i.ext z3).other z1 (Ne.symm (Nat.ne_of_lt z1d))).keep z4 (ninS (Nat.ne_of_lt z6x) nin0))
  have z7q := (((z3j.ext z3).other z1 (Ne.symm (Nat.ne_of_lt z35))).keep z4 (ninS (Nat.ne_of_lt z3k) nin0))
  obtain ⟨fs, hr, hrun, hended, hW, hsame⟩ := zy.leave (v := none) (fun _ => rfl)
  refine ⟨_, _, pre0 _ ?_, hrun, hended, _, _, rfl, ?_, ⟨_, rfl⟩, hW, hsame.mono (by decide) (by decide)⟩
  · show Steps p.tables e below (s₁.setTop (mkF m 0 #[.val (.ref z0)] [])) _
    refine XS.aloadN X0.here hx rfl (hb hby ya_0) rfl rfl ?_
    refine z46 _ ?_
    show Steps p.tables e below (z44.setTop (mkF m 4 #[.val (.ref z0)] [])) _
    refine XS.aloadN z18.here hx rfl (hb hby ya_4) rfl rfl ?_
    refine XS.bipush z18.here hx rfl (hb hby ya_5) ?_
    refine z1l _ ?_
    show Steps p.tables e below (z47.setTop (mkF m 9 #[.val (.ref z0)] [(.ref zd), (.ref z0)])) _
    refine z4i _ ?_
    show Steps p.tables e below (z4g.setTop (mkF m 12 #[.val (.ref z0)] [])) _
    refine XS.aloadN z10.here hx rfl (hb hby ya_12) rfl rfl ?_
    refine XS.bipush z10.here hx rfl (hb hby ya_13) ?_
    refine z1s _ ?_
    show Steps p.tables e below (z4l.setTop (mkF m 17 #[.val (.ref z0)] [(.ref ze), (.ref z0)])) _
    refine z4x _ ?_
    show Steps p.tables e below (z4v.setTop (mkF m 20 #[.val (.ref z0)] [])) _
    refine XS.aloadN z11.here hx rfl (hb hby ya_20) rfl rfl ?_
    refine XS.bipush z11.here hx rfl (hb hby ya_21) ?_
    refine z21 _ ?_
    show Steps p.tables e below (z50.setTop (mkF m 25 #[.val (.ref z0)] [(.ref zh), (.ref z0)])) _
    refine z5c _ ?_
    show Steps p.tables e below (z5a.setTop (mkF m 28 #[.val (.ref z0)] [])) _
    refine XS.aloadN z12.here hx rfl (hb hby ya_28) rfl rfl ?_
    refine XS.bipush z12.here hx rfl (hb hby ya_29) ?_
    refine z2b _ ?_
    show Steps p.tables e below (z5f.setTop (mkF m 33 #[.val (.ref z0)] [(.ref zi), (.ref z0)])) _
    refine z5r _ ?_
    show Steps p.tables e below (z5p.setTop (mkF m 36 #[.val (.ref z0)] [])) _
    refine XS.aloadN z14.here hx rfl (hb hby ya_36) rfl rfl ?_
    refine XS.bipush z14.here hx rfl (hb hby ya_37) ?_
    refine z2m _ ?_
    show Steps p.tables e below (z5u.setTop (mkF m 41 #[.val (.ref z0)] [(.ref zj), (.ref z0)])) _
    refine z66 _ ?_
    show Steps p.tables e below (z64.setTop (mkF m 44 #[.val (.ref z0)] [])) _
    refine XS.aloadN z15.here hx rfl (hb hby ya_44) rfl rfl ?_
    refine XS.bipush z15.here hx rfl (hb hby ya_45) ?_
    refine z2y _ ?_
    show Steps p.tables e below (z69.setTop (mkF m 50 #[.val (.ref z0)] [(.ref zk), (.ref z0)])) _
    refine z6m _ ?_
    show Steps p.tables e below (z6k.setTop (mkF m 53 #[.val (.ref z0)] [])) _
    refine XS.aloadN z16.here hx rfl (hb hby ya_53) rfl rfl ?_
    refine XS.bipush z16.here hx rfl (hb hby ya_54) ?_
    refine z3b _ ?_
    show Steps p.tables e below (z6p.setTop (mkF m 58 #[.val (.ref z0)] [(.ref zb), (.ref z0)])) _
    refine z72 _ ?_
    show Steps p.tables e below (z71.setTop (mkF m 61 #[.val (.ref z0)] [])) _
    refine XS.aloadN z17.here hx rfl (hb hby ya_61) rfl rfl ?_
    refine XS.iconst z17.here hx rfl (hb hby ya_62) ?_
    refine z3u.trans ?_
    show Steps p.tables e below (z3s.setTop (mkF m 66 #[.val (.ref z0)] [])) _
    exact zy.returnOut hx Bd.returns (hb hby ya_66) hr
  · show Q_rmL1 Z p1 p2 p3 p4 p5 p6 A K z0 h0 n0 _ z3s.heap _
    exact ⟨zd, ze, zh, zi, zj, zk, zb, z1j, z1q, z1z, z29, z2k, z2w, z1g, rfl, z79, z7a, ⟨z4b, z4c⟩, ⟨z4p, z4q⟩, ⟨z54, z55⟩, ⟨z5j, z5k⟩, ⟨z5y, z5z⟩, ⟨z6e, z6f⟩, ⟨z1h, z3c⟩, z4r, z56, z5l, z60, z6g, z3k, z7b, z7c, z7d, z7e, z7f, z7g, z7h, z7i, z7j, z7k, z7l, z7m, z7n, z7o, z7p, z7q, z6d, z78⟩
set_option maxRecDepth 65536 in
set_option maxHeartbeats 40000000 in
theorem rm0 (l : Launch) (Z : State) (a0 : Array Value) (hw : ∀ d ∈ tables_1, d.before a0 Z = true) (ws : List Jvm.Cond) (h0 : Heap) (n0 : Nat) (p1 : Int32) (p2 : Int32) (p3 : Int32) (p4 : Int32) (p5 : Int32) (p6 : Int32) (A : Nat → Addr) (K : Nat → ClassId) (EN : own_St Z A K) (OL0 : Old Z n0 h0) :
    MetFree l x (head1 (Jvm.Cond.code x code maxLocals ret :: ws) room_1) (fun a U => a = #[(.int p1), (.int p2), (.int p3), (.int p4), (.int p5), (.int p6)] ∧ Z.Warmed39 U.vm ∧ U.heap = h0) (fun _ _ _ _ _ => True) (fun _ U o U' => ∃ v L, o = .returned v ∧ (LQ n0) v U'.heap L ∧ FrameEnd U o U' L room_1.cells room_1.slots) := by
  refine MetFree.of_bodySF (plainFor_of_name own_pn1) hisR ?_
  intro p e s m args below meth c s₁ Bd hml0 hP hK
  obtain ⟨rfl, hZ, hh⟩ := hP
  have hx := Bd.exec
  have hby := Bd.bytes
  have hml : c.maxLocals = 16 := hml0
  have hown : s.vm.findClass "com/example/ringleader/ringleader/engine/EventQueueFirstFromPinLaw" = some m.cls := findClass_of_methodNamed Bd.named
  have hnm := (name_of_methodNamed Bd.named Bd.method).1
  have X0 : Stand p l e room_1 s m #[(.int p1), (.int p2), (.int p3), (.int p4), (.int p5), (.int p6)] below meth c s₁ [] 0 0 := Stand.of_body Bd
  have e0 : s₁.heap = h0 := by rw [← hh, Bd.state]; rfl
  have N0 := Fr.nil n0
  have pre0 : ∀ t, Steps p.tables e below (s₁.setTop (mkF m 0 #[.val (.int p1), .val (.int p2), .val (.int p3), .val (.int p4), .val (.int p5), .val (.int p6), .unset, .unset, .unset, .unset, .unset, .unset, .unset, .unset, .unset, .unset] [])) t → Steps p.tables e below (s₁.setTop (entryFrame m #[(.int p1), (.int p2), (.int p3), (.int p4), (.int p5), (.int p6)] maxLocals)) t := fun t k => castTop (by first | (simp [entryFrame, mkF, argsToLocals, Value.category, maxLocals]; done) | rfl) k
  have KK0 : Keep h0 h0 [] := Keep.refl _ _
  by_cases z16 : (p2 % 3) < (p1 % 3)
  · by_cases z55 : (p3 % 3) < (p1 % 3)
    · by_cases z6l : (p3 % 3) < (p2 % 3)
      · obtain ⟨_, _, ⟨zei, L543, z1i1, n543⟩, -, z27, ⟨Lc543, zej, l543, y543, z543⟩, zek⟩ := Jvm.LawKit.callS X0 hx (y := own_m2) hown (mvT hZ (own_W hw 0 rfl)) (mvT hZ (own_W hw 1 rfl)) (mvT hZ (own_W hw 2 rfl)) (mvT hZ (own_W hw 3 rfl)) (by decide) (backOf (W := 0) (rmB l Z a0 hw [] h0 n0 A K (p2 % 3) (1 : Int32) (p1 % 3) (0 : Int32) EN OL0) hZ (own_W hw 3 rfl) (own_W hw 2 rfl) (by decide) (by decide)) (g := (mkF m 21 #[.val (.int p1), .val (.int p2), .val (.int p3), .val (.int p4), .val (.int p5), .val (.int p6), .val (.int (p1 % 3)), .val (.int (p2 % 3)), .val (.int (p3 % 3)), .unset, .unset, .unset, .unset, .unset, .unset, .unset] [(.int 0), (.int (p1 % 3)), (.int 1), (.int (p2 % 3))])) rfl (by rw [hml]; rfl) (argsL := [(.int (p2 % 3)), (.int 1), (.int (p1 % 3)), (.int 0)]) (rest := []) (lenOf own_pd4 rfl) rfl (by show 2 * 0 + _ ≤ _; exact Nat.le_of_eq rfl) (hb hby at_21) (fun _ _ => ⟨rfl, e0, (by decide : 0 + 0 ≤ _), (by decide : 0 + 0 ≤ _)⟩)
        dsimp only [Pt.U, Pt.locs, Pt.cells, Pt.slots] at z27 l543 y543 z543 zek zej
        replace z27 := own_sub z27 l543 y543 z543
        obtain ⟨rfl, zqp, zqq⟩ := zej
        have zqr := Fr.app N0 zqp
        obtain ⟨_, _, ⟨zb5, L544, z1i2, n544⟩, -, z17, ⟨Lc544, zel, l544, y544, z544⟩, zem⟩ := Jvm.LawKit.callS z27 hx (y := own_m2) hown (mvT hZ (own_W hw 0 rfl)) (mvT hZ (own_W hw 1 rfl)) (mvT hZ (own_W hw 2 rfl)) (mvT hZ (own_W hw 3 rfl)) (by decide) (backOf (W := 1) (rmB l Z a0 hw [] h0 n0 A K (p3 % 3) (2 : Int32) (p1 % 3) (0 : Int32) EN OL0) hZ (own_W hw 3 rfl) (own_W hw 2 rfl) (by decide) (by decide)) (g := (mkF m 38 #[.val (.int p1), .val (.int p2), .val (.int p3), .val (.int p4), .val (.int p5), .val (.int p6), .val (.int (p1 % 3)), .val (.int (p2 % 3)), .val (.int (p3 % 3)), .unset, .unset, .unset, .unset, .unset, .unset, .unset] [(.int 0), (.int (p1 % 3)), (.int 2), (.int (p3 % 3)), (.int 1)])) rfl (by rw [hml]; rfl) (argsL := [(.int (p3 % 3)), (.int 2), (.int (p1 % 3)), (.int 0)]) (rest := [(.int 1)]) (lenOf own_pd4 rfl) rfl (by show 2 * 0 + _ ≤ _; exact Nat.le_of_eq rfl) (hb hby at_38) (fun _ _ => ⟨rfl, zqq, (by decide : 0 + 0 ≤ _), (by decide : 0 + 0 ≤ _)⟩)
        dsimp only [Pt.U, Pt.locs, Pt.cells, Pt.slots] at z17 l544 y544 z544 zem zel
        replace z17 := own_sub z17 l544 y544 z544
        obtain ⟨rfl, zqs, zqt⟩ := zel
        have zqu := Fr.app zqr zqs
        obtain ⟨_, _, ⟨zen, L545, z1i3, n545⟩, -, z2y, ⟨Lc545, zeo, l545, y545, z545⟩, zep⟩ := Jvm.LawKit.callS z17 hx (y := own_m2) hown (mvT hZ (own_W hw 0 rfl)) (mvT hZ (own_W hw 1 rfl)) (mvT hZ (own_W hw 2 rfl)) (mvT hZ (own_W hw 3 rfl)) (by decide) (backOf (W := 0) (rmB l Z a0 hw [] h0 n0 A K (p1 % 3) (0 : Int32) (p2 % 3) (1 : Int32) EN OL0) hZ (own_W hw 3 rfl) (own_W hw 2 rfl) (by decide) (by decide)) (g := (mkF m 58 #[.val (.int p1), .val (.int p2), .val (.int p3), .val (.int p4), .val (.int p5), .val (.int p6), .val (.int (p1 % 3)), .val (.int (p2 % 3)), .val (.int (p3 % 3)), .val (.int 2), .unset, .unset, .unset, .unset, .unset, .unset] [(.int 1), (.int (p2 % 3)), (.int 0), (.int (p1 % 3))])) rfl (by rw [hml]; rfl) (argsL := [(.int (p1 % 3)), (.int 0), (.int (p2 % 3)), (.int 1)]) (rest := []) (lenOf own_pd4 rfl) rfl (by show 2 * 0 + _ ≤ _; exact Nat.le_of_eq rfl) (hb hby at_58) (fun _ _ => ⟨rfl, zqt, (by decide : 0 + 0 ≤ _), (by decide : 0 + 0 ≤ _)⟩)
        dsimp only [Pt.U, Pt.locs, Pt.cells, Pt.slots] at z2y l545 y545 z545 zep zeo
        replace z2y := own_sub z2y l545 y545 z545
        obtain ⟨rfl, zqv, zqw⟩ := zeo
        have zqx := Fr.app zqu zqv
        obtain ⟨_, _, ⟨zb6, L546, z1i4, n546⟩, -, z18, ⟨Lc546, zeq, l546, y546, z546⟩, zer⟩ := Jvm.LawKit.callS z2y hx (y := own_m2) hown (mvT hZ (own_W hw 0 rfl)) (mvT hZ (own_W hw 1 rfl)) (mvT hZ (own_W hw 2 rfl)) (mvT hZ (own_W hw 3 rfl)) (by decide) (backOf (W := 1) (rmB l Z a0 hw [] h0 n0 A K (p3 % 3) (2 : Int32) (p2 % 3) (1 : Int32) EN OL0) hZ (own_W hw 3 rfl) (own_W hw 2 rfl) (by decide) (by decide)) (g := (mkF m 75 #[.val (.int p1), .val (.int p2), .val (.int p3), .val (.int p4), .val (.int p5), .val (.int p6), .val (.int (p1 % 3)), .val (.int (p2 % 3)), .val (.int (p3 % 3)), .val (.int 2), .unset, .unset, .unset, .unset, .unset, .unset] [(.int 1), (.int (p2 % 3)), (.int 2), (.int (p3 % 3)), (.int 0)])) rfl (by rw [hml]; rfl) (argsL := [(.int (p3 % 3)), (.int 2), (.int (p2 % 3)), (.int 1)]) (rest := [(.int 0)]) (lenOf own_pd4 rfl) rfl (by show 2 * 0 + _ ≤ _; exact Nat.le_of_eq rfl) (hb hby at_75) (fun _ _ => ⟨rfl, zqw, (by decide : 0 + 0 ≤ _), (by decide : 0 + 0 ≤ _)⟩)
        dsimp only [Pt.U, Pt.locs, Pt.cells, Pt.slots] at z18 l546 y546 z546 zer zeq
        replace z18 := own_sub z18 l546 y546 z546
        obtain ⟨rfl, zqy, zqz⟩ := zeq
        have zr0 := Fr.app zqx zqy
        obtain ⟨_, _, ⟨zes, L547, z1i5, n547⟩, -, z2z, ⟨Lc547, zet, l547, y547, z547⟩, zeu⟩ := Jvm.LawKit.callS z18 hx (y := own_m2) hown (mvT hZ (own_W hw 0 rfl)) (mvT hZ (own_W hw 1 rfl)) (mvT hZ (own_W hw 2 rfl)) (mvT hZ (own_W hw 3 rfl)) (by decide) (backOf (W := 0) (rmB l Z a0 hw [] h0 n0 A K (p1 % 3) (0 : Int32) (p3 % 3) (2 : Int32) EN OL0) hZ (own_W hw 3 rfl) (own_W hw 2 rfl) (by decide) (by decide)) (g := (mkF m 95 #[.val (.int p1), .val (.int p2), .val (.int p3), .val (.int p4), .val (.int p5), .val (.int p6), .val (.int (p1 % 3)), .val (.int (p2 % 3)), .val (.int (p3 % 3)), .val (.int 2), .val (.int 1), .unset, .unset, .unset, .unset, .unset] [(.int 2), (.int (p3 % 3)), (.int 0), (.int (p1 % 3))])) rfl (by rw [hml]; rfl) (argsL := [(.int (p1 % 3)), (.int 0), (.int (p3 % 3)), (.int 2)]) (rest := []) (lenOf own_pd4 rfl) rfl (by show 2 * 0 + _ ≤ _; exact Nat.le_of_eq rfl) (hb hby at_95) (fun _ _ => ⟨rfl, zqz, (by decide : 0 + 0 ≤ _), (by decide : 0 + 0 ≤ _)⟩)
        dsimp only [Pt.U, Pt.locs, Pt.cells, Pt.slots] at z2z l547 y547 z547 zeu zet
        replace z2z := own_sub z2z l547 y547 z547
        obtain ⟨rfl, zr1, zr2⟩ := zet
        have zr3 := Fr.app zr0 zr1
        obtain ⟨_, _, ⟨zb7, L548, z1i6, n548⟩, -, z56, ⟨Lc548, zev, l548, y548, z548⟩, zew⟩ := Jvm.LawKit.callS z2z hx (y := own_m2) hown (mvT hZ (own_W hw 0 rfl)) (mvT hZ (own_W hw 1 rfl)) (mvT hZ (own_W hw 2 rfl)) (mvT hZ (own_W hw 3 rfl)) (by decide) (backOf (W := 1) (rmB l Z a0 hw [] h0 n0 A K (p2 % 3) (1 : Int32) (p3 % 3) (2 : Int32) EN OL0) hZ (own_W hw 3 rfl) (own_W hw 2 rfl) (by decide) (by decide)) (g := (mkF m 112 #[.val (.int p1), .val (.int p2), .val (.int p3), .val (.int p4), .val (.int p5), .val (.int p6), .val (.int (p1 % 3)), .val (.int (p2 % 3)), .val (.int (p3 % 3)), .val (.int 2), .val (.int 1), .unset, .unset, .unset, .unset, .unset] [(.int 2), (.int (p3 % 3)), (.int 1), (.int (p2 % 3)), (.int 0)])) rfl (by rw [hml]; rfl) (argsL := [(.int (p2 % 3)), (.int 1), (.int (p3 % 3)), (.int 2)]) (rest := [(.int 0)]) (lenOf own_pd4 rfl) rfl (by show 2 * 0 + _ ≤ _; exact Nat.le_of_eq rfl) (hb hby at_112) (fun _ _ => ⟨rfl, zr2, (by decide : 0 + 0 ≤ _), (by decide : 0 + 0 ≤ _)⟩)
        dsimp only [Pt.U, Pt.locs, Pt.cells, Pt.slots] at z56 l548 y548 z548 zew zev
        replace z56 := own_sub z56 l548 y548 z548
        obtain ⟨rfl, zr4, zr5⟩ := zev
        have zr6 := Fr.app zr3 zr4
        obtain ⟨zr7, z30, zex, zr8, zey, z4j, z31, -, zez⟩ := newO z56 hx hZ hown (own_W hw 4 rfl) (own_W hw 5 rfl) (own_W hw 6 rfl) zr5 (g := (mkF m 126 #[.val (.int p1), .val (.int p2), .val (.int p3), .val (.int p4), .val (.int p5), .val (.int p6), .val (.int (p1 % 3)), .val (.int (p2 % 3)), .val (.int (p3 % 3)), .val (.int 2), .val (.int 1), .val (.int 0), .unset, .unset, .unset, .unset] [])) rfl (hb hby at_126) (by decide) (by decide)
        obtain ⟨z0, zb8⟩ : ∃ z, z = h0.size := ⟨_, rfl⟩
        rw [← zb8] at z4j z31 zez
        have z1v : n0 ≤ z0 := Nat.le_trans (OL0.1 ▸ OL0.2.1) (Nat.le_of_eq zb8.symm)
        have z6m : h0.size ≤ z0 := Nat.le_trans KK0.1 (Nat.le_of_eq zb8.symm)
        have zf0 := OL0.ext zey
        have z57 := KK0.ext zey
        have zr9 : Fld Z z30 z0 y_s0 "at" "[D" .null := z31 (Or.inl (own_W hw 15 rfl)) (ty := (.array .double)) (by decide)
        have zra : Fld Z z30 z0 y_s0 "added" "[J" .null := z31 (Or.inl (own_W hw 18 rfl)) (ty := (.array .long)) (by decide)
        have zrb : Fld Z z30 z0 y_s0 "slot" "[I" .null := z31 (Or.inl (own_W hw 21 rfl)) (ty := (.array .int)) (by decide)
        have zrc : Fld Z z30 z0 y_s0 "from" "[I" .null := z31 (Or.inl (own_W hw 23 rfl)) (ty := (.array .int)) (by decide)
        have zrd : Fld Z z30 z0 y_s0 "to" "[I" .null := z31 (Or.inl (own_W hw 25 rfl)) (ty := (.array .int)) (by decide)
        have zre : Fld Z z30 z0 y_s0 "message" y_s1 .null := z31 (Or.inl (own_W hw 29 rfl)) (ty := (.array (.object y_s2))) (by decide)
        have zrf : Fld Z z30 z0 y_s0 "free" "[I" .null := z31 (Or.inl (own_W hw 31 rfl)) (ty := (.array .int)) (by decide)
        have zrg : Fld Z z30 z0 y_s0 "size" "I" (.int 0) := z31 (Or.inl (own_W hw 42 rfl)) (ty := .int) (by decide)
        have zrh : Fld Z z30 z0 y_s0 "additions" "J" (.long 0) := z31 (Or.inl (own_W hw 44 rfl)) (ty := .long) (by decide)
        obtain ⟨_, _, ⟨z4k, L755, z1i7, n755⟩, -, z28, ⟨Lc755, zf1, l755, y755, z755⟩, zf2⟩ := zex.specialBack hx (y := own_m7) rfl hown (mvT hZ (own_W hw 7 rfl)) (mvT hZ (own_W hw 8 rfl)) (mvT hZ (own_W hw 9 rfl)) (by decide) (backOf (W := 1) (rmL1 l Z a0 hw [] z30 n0 p1 p2 p3 p4 p5 p6 A K z0 EN zf0 z4j zr9 zra zrb zrc zrd zre zrf zrg zrh z1v) hZ (own_W hw 9 rfl) (own_W hw 6 rfl) (by decide) (by decide)) (g := (mkF m 130 #[.val (.int p1), .val (.int p2), .val (.int p3), .val (.int p4), .val (.int p5), .val (.int p6), .val (.int (p1 % 3)), .val (.int (p2 % 3)), .val (.int (p3 % 3)), .val (.int 2), .val (.int 1), .val (.int 0), .unset, .unset, .unset, .unset] [(.ref z0), (.ref z0)])) rfl (by rw [hml]; rfl) (Steps.refl _) (a := z0) (argsL := []) (rest := [(.ref z0)]) (lenOf own_pd6 rfl) rfl (by show 2 * 0 + _ ≤ _; exact Nat.le_of_eq rfl) (hb hby at_130) (fun _ _ => ⟨rfl, zr8, (by decide : 1 + 7 ≤ _), (by decide : 9 + 112 ≤ _)⟩)
        dsimp only [Pt.U, Pt.locs, Pt.cells, Pt.slots] at z28 l755 y755 z755 zf2 zf1
        replace z28 := own_sub z28 l755 y755 z755
        obtain ⟨z58, z59, z29, z2a, z5a, z5b, z5c, z6n, z6o, z4l, z6f, zah, z6p, z6q, rfl, zri, zf3, ⟨z32, zf4⟩, ⟨z33, zf5⟩, ⟨z34, zf6⟩, ⟨z6r, zf7⟩, ⟨z6s, zf8⟩, ⟨z35, zf9⟩, ⟨zai, zfa⟩, zu, zi, z6, zc, zj, zv, zfb, zrj, zrk, zrl, zrm, zrn, zro, zrp, zrq, zrr, zrs, zrt, zru, zrv, zrw, zrx, zry, zfc⟩ := zf1
        have zrz := Fr.app zr6 zri
        have z85 : z0 < z58 := Nat.lt_of_lt_of_le z4j.lt zf4
        have z86 : z0 < z59 := Nat.lt_of_lt_of_le z4j.lt zf5
        have z87 : z0 < z29 := Nat.lt_of_lt_of_le z4j.lt zf6
        have z88 : z0 < z2a := Nat.lt_of_lt_of_le z4j.lt zf7
        have zb9 : z0 < z5a := Nat.lt_of_lt_of_le z4j.lt zf8
        have z89 : z0 < z5b := Nat.lt_of_lt_of_le z4j.lt zf9
        have z8a : z0 < z5c := Nat.lt_of_lt_of_le z4j.lt zfa
        have z8b : h0.size ≤ z58 := Nat.le_trans z57.1 zf4
        have z8c : h0.size ≤ z59 := Nat.le_trans z57.1 zf5
        have z8d : h0.size ≤ z29 := Nat.le_trans z57.1 zf6
        have zba : h0.size ≤ z2a := Nat.le_trans z57.1 zf7
        have zbb : h0.size ≤ z5a := Nat.le_trans z57.1 zf8
        have z8e : h0.size ≤ z5b := Nat.le_trans z57.1 zf9
        have zfd : h0.size ≤ z5c := Nat.le_trans z57.1 zfa
        have zfe := zf0.keep zf3 (allS z1v all0)
        have zs0 := z57.trans zf3 (allS (Or.inr z6m) all0)
        have zs1 : Arv Z z4k.heap z58 z6n .double (16 : Int32) [(.double (Jvm.FP.l2d ((0 : Int32).toInt64))), (.double (Jvm.FP.l2d ((0 : Int32).toInt64))), (.double (Jvm.FP.l2d ((0 : Int32).toInt64)))] (.double (Jvm.FP.l2d ((0 : Int32).toInt64))) := Arv.pad zrs (pad_rep [] (.double (Jvm.FP.l2d ((0 : Int32).toInt64))) 3)
        have zs2 : Arv Z z4k.heap z59 z6o .long (16 : Int32) [(.long 0), (.long 0), (.long 0)] (.long 0) := Arv.pad zrt (pad_rep [] (.long 0) 3)
        have zs3 : Arv Z z4k.heap z29 z4l .int 16 [(.int 0), (.int 0), (.int 0)] (.int 0) := Arv.pad zru (pad_rep [] (.int 0) 3)
        have zs4 : Arv Z z4k.heap z2a z6f .int 16 [(.int 0), (.int 0), (.int 0)] (.int 0) := Arv.pad zrv (pad_rep [] (.int 0) 3)
        have zs5 : Arv Z z4k.heap z5a zah .int 16 [(.int 0), (.int 0), (.int 0)] (.int 0) := Arv.pad zrw (pad_rep [] (.int 0) 3)
        have zs6 : own_AM Z z4k.heap z5b z6p (.object y_s2) := ⟨_, _, zrx⟩
        obtain ⟨cq762, kq762, zs7, z1i8, zs8⟩ := isOf hZ rfl zfb
        obtain ⟨_, _, ⟨zbc, L762, z1i9, n762⟩, -, z36, ⟨Lc762, zff, l762, y762, z762⟩, zfg⟩ := z28.virtualBack hx (y := own_m0) (z := own_m0) hown (mvT hZ (own_W hw 36 rfl)) (mvT hZ (own_W hw 37 rfl)) (notFace_of_selects (args := #[]) (mvT hZ (own_W hw 39 rfl))) (mvT hZ (own_W hw 39 rfl)) (mvT hZ (own_W hw 38 rfl)) (by decide) (backOf (W := 0) (rmA0 l Z a0 hw [] z4k.heap n0 A K (0 : Int32) (0 : Int32) (0 : Int32) (0 : Int64) (0 : Int64) (0 : Int64) (0 : Int32) (0 : Int32) (0 : Int32) (0 : Int32) (0 : Int32) (0 : Int32) (0 : Int32) (0 : Int32) (0 : Int32) (0 : Int64) (p1 % 3) p4 (0 : Int32) z0 z58 z59 z29 z2a z5a z5b z5c z6n z6o z4l z6f zah z6p z6q EN zfe zrq zrl zs3 zrp zfc zrm zs4 zrn zs5 zro zs6 zfb zrr zrj zs1 zrk zs2 zry (Nat.ne_of_lt z88) (Nat.ne_of_lt zc) (Nat.ne_of_lt zb9) (Nat.ne_of_lt (Nat.lt_trans zc zj)) (Nat.ne_of_lt zj) (Nat.ne_of_lt z89) (Nat.ne_of_lt (Nat.lt_trans (Nat.lt_trans zu zi) z6)) (Nat.ne_of_lt (Nat.lt_trans (Nat.lt_trans (Nat.lt_trans zu zi) z6) zc)) (Nat.ne_of_lt (Nat.lt_trans (Nat.lt_trans (Nat.lt_trans (Nat.lt_trans zu zi) z6) zc) zj)) (Nat.ne_of_lt z85) (Nat.ne_of_lt (Nat.lt_trans zi z6)) (Nat.ne_of_lt (Nat.lt_trans (Nat.lt_trans zi z6) zc)) (Nat.ne_of_lt (Nat.lt_trans (Nat.lt_trans (Nat.lt_trans zi z6) zc) zj)) (Nat.ne_of_lt z86) (Nat.ne_of_lt z6) (Nat.ne_of_lt (Nat.lt_trans z6 zc)) (Nat.ne_of_lt (Nat.lt_trans (Nat.lt_trans z6 zc) zj)) (Nat.ne_of_lt z87) (Nat.ne_of_lt zu) (Nat.ne_of_lt (Nat.lt_trans zu zi)) (Nat.ne_of_lt zi) z6r z6s z35 z1v z32 z33 z34) hZ (own_W hw 40 rfl) (own_W hw 6 rfl) (by decide) (by decide)) zs7 zs8 (g := (mkF m 143 #[.val (.int p1), .val (.int p2), .val (.int p3), .val (.int p4), .val (.int p5), .val (.int p6), .val (.int (p1 % 3)), .val (.int (p2 % 3)), .val (.int (p3 % 3)), .val (.int 2), .val (.int 1), .val (.int 0), .val (.ref z0), .unset, .unset, .unset] [.null, (.int 0), (.int p4), (.double (Jvm.FP.l2d ((p1 % 3).toInt64))), (.ref z0)])) rfl (by rw [hml]; rfl) (Steps.refl _) (argsL := [(.double (Jvm.FP.l2d ((p1 % 3).toInt64))), (.int p4), (.int 0), .null]) (rest := []) (lenOf own_pd7 rfl) rfl (by show 2 * 0 + _ ≤ _; exact Nat.le_of_eq rfl) (hb hby at_143) (fun _ _ => ⟨rfl, rfl, (by decide : 8 + 0 ≤ _), (by decide : 121 + 0 ≤ _)⟩)
        dsimp only [Pt.U, Pt.locs, Pt.cells, Pt.slots] at z36 l762 y762 z762 zfg zff
        replace z36 := own_sub z36 l762 y762 z762
        obtain ⟨rfl, zs9, zbd, zfh, zsa, zsb, zsc, zsd, zse, zsf, zsg, zsh, zsi, zsj, zsk, zsl, zsm, zsn, zso, zsp⟩ := zff
        have zsq := Fr.app zrz zs9
        have zfi := zfe.keep zbd (allS z6r (allS z6s (allS z35 (allS z1v (allS z34 (allS z33 (allS z32 all0)))))))
        have zsr := zs0.trans zbd (allS (Or.inr zba) (allS (Or.inr zbb) (allS (Or.inr z8e) (allS (Or.inr z6m) (allS (Or.inr z8d) (allS (Or.inr z8c) (allS (Or.inr z8b) all0)))))))
        have zfj := (zfc.keep zbd (ninS (Ne.symm (Nat.ne_of_lt (Nat.lt_trans (Nat.lt_trans zc zj) zv))) (ninS (Ne.symm (Nat.ne_of_lt (Nat.lt_trans zj zv))) (ninS (Ne.symm (Nat.ne_of_lt zv)) (ninS (Ne.symm (Nat.ne_of_lt z8a)) (ninS (Ne.symm (Nat.ne_of_lt (Nat.lt_trans (Nat.lt_trans (Nat.lt_trans z6 zc) zj) zv))) (ninS (Ne.symm (Nat.ne_of_lt (Nat.lt_trans (Nat.lt_trans (Nat.lt_trans (Nat.lt_trans zi z6) zc) zj) zv))) (ninS (Ne.symm (Nat.ne_of_lt (Nat.lt_trans (Nat.lt_trans (Nat.lt_trans (Nat.lt_trans (Nat.lt_trans zu zi) z6) zc) zj) zv))) nin0))))))))
        obtain ⟨cq764, kq764, zss, z1ia, zst⟩ := isOf hZ rfl zfh
        obtain ⟨_, _, ⟨zbe, L764, z1ib, n764⟩, -, z37, ⟨Lc764, zfk, l764, y764, z764⟩, zfl⟩ := z36.virtualBack hx (y := own_m0) (z := own_m0) hown (mvT hZ (own_W hw 36 rfl)) (mvT hZ (own_W hw 37 rfl)) (notFace_of_selects (args := #[]) (mvT hZ (own_W hw 39 rfl))) (mvT hZ (own_W hw 39 rfl)) (mvT hZ (own_W hw 38 rfl)) (by decide) (backOf (W := 0) (rmA1y l Z a0 hw [] zbc.heap n0 A K (p1 % 3) (0 : Int32) (0 : Int32) (0 : Int64) (0 : Int64) (0 : Int64) (0 : Int32) (0 : Int32) (0 : Int32) p4 (0 : Int32) (0 : Int32) (0 : Int32) (0 : Int32) (0 : Int32) ((0 : Int64) + (1 : Int64)) (p2 % 3) p5 (1 : Int32) z0 z58 z59 z29 z2a z5a z5b z5c z6n z6o z4l z6f zah z6p z6q EN zfi zsh zsc zsl zsg zfj zsd zsm zse zsn zsf zso zfh zsa zsj zsb zsk zsi zsp z16 (Nat.ne_of_lt z88) (Nat.ne_of_lt zc) (Nat.ne_of_lt zb9) (Nat.ne_of_lt (Nat.lt_trans zc zj)) (Nat.ne_of_lt zj) (Nat.ne_of_lt z89) (Nat.ne_of_lt (Nat.lt_trans (Nat.lt_trans zu zi) z6)) (Nat.ne_of_lt (Nat.lt_trans (Nat.lt_trans (Nat.lt_trans zu zi) z6) zc)) (Nat.ne_of_lt (Nat.lt_trans (Nat.lt_trans (Nat.lt_trans (Nat.lt_trans zu zi) z6) zc) zj)) (Nat.ne_of_lt z85) (Nat.ne_of_lt (Nat.lt_trans zi z6)) (Nat.ne_of_lt (Nat.lt_trans (Nat.lt_trans zi z6) zc)) (Nat.ne_of_lt (Nat.lt_trans (Nat.lt_trans (Nat.lt_trans zi z6) zc) zj)) (Nat.ne_of_lt z86) (Nat.ne_of_lt z6) (Nat.ne_of_lt (Nat.lt_trans z6 zc)) (Nat.ne_of_lt (Nat.lt_trans (Nat.lt_trans z6 zc) zj)) (Nat.ne_of_lt z87) (Nat.ne_of_lt zu) (Nat.ne_of_lt (Nat.lt_trans zu zi)) (Nat.ne_of_lt zi) z6r z6s z35 z1v z32 z33 z34) hZ (own_W hw 40 rfl) (own_W hw 6 rfl) (by decide) (by decide)) zss zst (g := (mkF m 155 #[.val (.int p1), .val (.int p2), .val (.int p3), .val (.int p4), .val (.int p5), .val (.int p6), .val (.int (p1 % 3)), .val (.int (p2 % 3)), .val (.int (p3 % 3)), .val (.int 2), .val (.int 1), .val (.int 0), .val (.ref z0), .unset, .unset, .unset] [.null, (.int 1), (.int p5), (.double (Jvm.FP.l2d ((p2 % 3).toInt64))), (.ref z0)])) rfl (by rw [hml]; rfl) (Steps.refl _) (argsL := [(.double (Jvm.FP.l2d ((p2 % 3).toInt64))), (.int p5), (.int 1), .null]) (rest := []) (lenOf own_pd7 rfl) rfl (by show 2 * 0 + _ ≤ _; exact Nat.le_of_eq rfl) (hb hby at_155) (fun _ _ => ⟨rfl, rfl, (by decide : 8 + 0 ≤ _), (by decide : 121 + 0 ≤ _)⟩)
        dsimp only [Pt.U, Pt.locs, Pt.cells, Pt.slots] at z37 l764 y764 z764 zfl zfk
        replace z37 := own_sub z37 l764 y764 z764
        obtain ⟨rfl, zsu, zbf, zfm, zsv, zsw, zsx, zsy, zsz, zt0, zt1, zt2, zt3, zt4, zt5, zt6, zt7, zt8, zt9, zta⟩ := zfk
        have ztb := Fr.app zsq zsu
        have zfn := zfi.keep zbf (allS z6r (allS z6s (allS z35 (allS z1v (allS z32 (allS z33 (allS z34 all0)))))))
        have ztc := zsr.trans zbf (allS (Or.inr zba) (allS (Or.inr zbb) (allS (Or.inr z8e) (allS (Or.inr z6m) (allS (Or.inr z8b) (allS (Or.inr z8c) (allS (Or.inr z8d) all0)))))))
        have zfo := (zfj.keep zbf (ninS (Ne.symm (Nat.ne_of_lt (Nat.lt_trans (Nat.lt_trans zc zj) zv))) (ninS (Ne.symm (Nat.ne_of_lt (Nat.lt_trans zj zv))) (ninS (Ne.symm (Nat.ne_of_lt zv)) (ninS (Ne.symm (Nat.ne_of_lt z8a)) (ninS (Ne.symm (Nat.ne_of_lt (Nat.lt_trans (Nat.lt_trans (Nat.lt_trans (Nat.lt_trans (Nat.lt_trans zu zi) z6) zc) zj) zv))) (ninS (Ne.symm (Nat.ne_of_lt (Nat.lt_trans (Nat.lt_trans (Nat.lt_trans (Nat.lt_trans zi z6) zc) zj) zv))) (ninS (Ne.symm (Nat.ne_of_lt (Nat.lt_trans (Nat.lt_trans (Nat.lt_trans z6 zc) zj) zv))) nin0))))))))
        obtain ⟨cq766, kq766, ztd, z1ic, zte⟩ := isOf hZ rfl zfm
        obtain ⟨_, _, ⟨zaj, L766, z1id, n766⟩, -, z8f, ⟨Lc766, zfp, l766, y766, z766⟩, zfq⟩ := z37.virtualBack hx (y := own_m0) (z := own_m0) hown (mvT hZ (own_W hw 36 rfl)) (mvT hZ (own_W hw 37 rfl)) (notFace_of_selects (args := #[]) (mvT hZ (own_W hw 39 rfl))) (mvT hZ (own_W hw 39 rfl)) (mvT hZ (own_W hw 38 rfl)) (by decide) (backOf (W := 0) (rmA2y l Z a0 hw [] zbe.heap n0 A K (p2 % 3) (p1 % 3) (0 : Int32) ((0 : Int64) + (1 : Int64)) (0 : Int64) (0 : Int64) (1 : Int32) (0 : Int32) (0 : Int32) p4 p5 (0 : Int32) (0 : Int32) (1 : Int32) (0 : Int32) (((0 : Int64) + (1 : Int64)) + (1 : Int64)) (p3 % 3) p6 (2 : Int32) z0 z58 z59 z29 z2a z5a z5b z5c z6n z6o z4l z6f zah z6p z6q EN zfn zt2 zsx zt6 zt1 zfo zsy zt7 zsz zt8 zt0 zt9 zfm zsv zt4 zsw zt5 zt3 zta z6l (Nat.ne_of_lt z88) (Nat.ne_of_lt zc) (Nat.ne_of_lt zb9) (Nat.ne_of_lt (Nat.lt_trans zc zj)) (Nat.ne_of_lt zj) (Nat.ne_of_lt z89) (Nat.ne_of_lt (Nat.lt_trans (Nat.lt_trans zu zi) z6)) (Nat.ne_of_lt (Nat.lt_trans (Nat.lt_trans (Nat.lt_trans zu zi) z6) zc)) (Nat.ne_of_lt (Nat.lt_trans (Nat.lt_trans (Nat.lt_trans (Nat.lt_trans zu zi) z6) zc) zj)) (Nat.ne_of_lt z85) (Nat.ne_of_lt (Nat.lt_trans zi z6)) (Nat.ne_of_lt (Nat.lt_trans (Nat.lt_trans zi z6) zc)) (Nat.ne_of_lt (Nat.lt_trans (Nat.lt_trans (Nat.lt_trans zi z6) zc) zj)) (Nat.ne_of_lt z86) (Nat.ne_of_lt z6) (Nat.ne_of_lt (Nat.lt_trans z6 zc)) (Nat.ne_of_lt (Nat.lt_trans (Nat.lt_trans z6 zc) zj)) (Nat.ne_of_lt z87) (Nat.ne_of_lt zu) (Nat.ne_of_lt (Nat.lt_trans zu zi)) (Nat.ne_of_lt zi) z6r z6s z35 z1v z32 z33 z34) hZ (own_W hw 40 rfl) (own_W hw 6 rfl) (by decide) (by decide)) ztd zte (g := (mkF m 167 #[.val (.int p1), .val (.int p2), .val (.int p3), .val (.int p4), .val (.int p5), .val (.int p6), .val (.int (p1 % 3)), .val (.int (p2 % 3)), .val (.int (p3 % 3)), .val (.int 2), .val (.int 1), .val (.int 0), .val (.ref z0), .unset, .unset, .unset] [.null, (.int 2), (.int p6), (.double (Jvm.FP.l2d ((p3 % 3).toInt64))), (.ref z0)])) rfl (by rw [hml]; rfl) (Steps.refl _) (argsL := [(.double (Jvm.FP.l2d ((p3 % 3).toInt64))), (.int p6), (.int 2), .null]) (rest := []) (lenOf own_pd7 rfl) rfl (by show 2 * 0 + _ ≤ _; exact Nat.le_of_eq rfl) (hb hby at_167) (fun _ _ => ⟨rfl, rfl, (by decide : 8 + 0 ≤ _), (by decide : 121 + 0 ≤ _)⟩)
        dsimp only [Pt.U, Pt.locs, Pt.cells, Pt.slots] at z8f l766 y766 z766 zfq zfp
        replace z8f := own_sub z8f l766 y766 z766
        obtain ⟨rfl, ztf, zbg, zbh, ztg, zth, zfr, zfs, zti, ztj, ztk, ztl, ztm, ztn, zto, zft, zfu, z1ie, ztp, ztq⟩ := zfp
        have ztr := Fr.app ztb ztf
        have zbi := zfn.keep zbg (allS z6r (allS z6s (allS z35 (allS z1v (allS z32 (allS z33 (allS z34 all0)))))))
        have zts := ztc.trans zbg (allS (Or.inr zba) (allS (Or.inr zbb) (allS (Or.inr z8e) (allS (Or.inr z6m) (allS (Or.inr z8b) (allS (Or.inr z8c) (allS (Or.inr z8d) all0)))))))
        obtain ⟨cq767, kq767, ztt, z1if, ztu⟩ := isOf hZ rfl zbh
        obtain ⟨_, _, ⟨ztv, L767, z1ig, n767⟩, -, z6t, ⟨Lc767, zfv, l767, y767, z767⟩, zfw⟩ := z8f.virtualBack hx (y := own_m1) (z := own_m1) hown (mvT hZ (own_W hw 49 rfl)) (mvT hZ (own_W hw 50 rfl)) (notFace_of_selects (args := #[]) (mvT hZ (own_W hw 52 rfl))) (mvT hZ (own_W hw 52 rfl)) (mvT hZ (own_W hw 51 rfl)) (by decide) (backOf (W := 0) (rmF2 l Z a0 hw [] zaj.heap n0 A K (0 : Int32) (0 : Int32) (1 : Int32) p4 p5 p6 z0 z29 z2a z4l z6f EN zbi zfs zfr zft zfu) hZ (own_W hw 53 rfl) (own_W hw 6 rfl) (by decide) (by decide)) ztt ztu (g := (mkF m 172 #[.val (.int p1), .val (.int p2), .val (.int p3), .val (.int p4), .val (.int p5), .val (.int p6), .val (.int (p1 % 3)), .val (.int (p2 % 3)), .val (.int (p3 % 3)), .val (.int 2), .val (.int 1), .val (.int 0), .val (.ref z0), .unset, .unset, .unset] [(.ref z0)])) rfl (by rw [hml]; rfl) (Steps.refl _) (argsL := []) (rest := []) (lenOf own_pd8 rfl) rfl (by show 2 * 0 + _ ≤ _; exact Nat.le_of_eq rfl) (hb hby at_172) (fun _ _ => ⟨rfl, rfl, (by decide : 8 + 0 ≤ _), (by decide : 121 + 0 ≤ _)⟩)
        dsimp only [Pt.U, Pt.locs, Pt.cells, Pt.slots] at z6t l767 y767 z767 zfw zfv
        replace z6t := own_sub z6t l767 y767 z767
        obtain ⟨rfl, ztw, zfx⟩ := zfv
        have ztx := Fr.app ztr ztw
        have zty := (zfo.keep zbg (ninS (Ne.symm (Nat.ne_of_lt (Nat.lt_trans (Nat.lt_trans zc zj) zv))) (ninS (Ne.symm (Nat.ne_of_lt (Nat.lt_trans zj zv))) (ninS (Ne.symm (Nat.ne_of_lt zv)) (ninS (Ne.symm (Nat.ne_of_lt z8a)) (ninS (Ne.symm (Nat.ne_of_lt (Nat.lt_trans (Nat.lt_trans (Nat.lt_trans (Nat.lt_trans (Nat.lt_trans zu zi) z6) zc) zj) zv))) (ninS (Ne.symm (Nat.ne_of_lt (Nat.lt_trans (Nat.lt_trans (Nat.lt_trans (Nat.lt_trans zi z6) zc) zj) zv))) (ninS (Ne.symm (Nat.ne_of_lt (Nat.lt_trans (Nat.lt_trans (Nat.lt_trans z6 zc) zj) zv))) nin0))))))))
        have ztz : own_AM Z zaj.heap z5c z6q .int := ⟨_, _, zty⟩
        obtain ⟨cq770, kq770, zu0, z1ih, zu1⟩ := isOf hZ zfx zbh
        obtain ⟨_, _, ⟨zbj, L770, z1ii, n770⟩, -, z8g, ⟨Lc770, zfy, l770, y770, z770⟩, zfz⟩ := z6t.virtualBack hx (y := own_m3) (z := own_m3) hown (mvT hZ (own_W hw 54 rfl)) (mvT hZ (own_W hw 55 rfl)) (notFace_of_selects (args := #[]) (mvT hZ (own_W hw 57 rfl))) (mvT hZ (own_W hw 57 rfl)) (mvT hZ (own_W hw 56 rfl)) (by decide) (backOf (W := 0) (rmR3n l Z a0 hw [] zaj.heap n0 A K (p3 % 3) (p1 % 3) (p2 % 3) (((0 : Int64) + (1 : Int64)) + (1 : Int64)) (0 : Int64) ((0 : Int64) + (1 : Int64)) (2 : Int32) (0 : Int32) (1 : Int32) (0 : Int32) (0 : Int32) (0 : Int32) (0 : Int32) (0 : Int32) (0 : Int32) ((((0 : Int64) + (1 : Int64)) + (1 : Int64)) + (1 : Int64)) z0 z58 z59 z29 z2a z5a z5b z5c z6n z6o z4l z6p z6q EN zbi zfr zft ztj ztp ztk ztl ztz zbh ztg ztn zth zto zfs zti ztm ztq (by decide) (by decide) (own_ib_n1 z16) (Nat.ne_of_lt z89) (Nat.ne_of_lt (Nat.lt_trans (Nat.lt_trans z6 zc) zj)) (Nat.ne_of_lt zv) (Nat.ne_of_lt z8a) (Nat.ne_of_lt (Nat.lt_trans (Nat.lt_trans (Nat.lt_trans (Nat.lt_trans zu zi) z6) zc) zj)) (Nat.ne_of_lt (Nat.lt_trans (Nat.lt_trans (Nat.lt_trans (Nat.lt_trans (Nat.lt_trans zu zi) z6) zc) zj) zv)) (Nat.ne_of_lt z85) (Nat.ne_of_lt (Nat.lt_trans (Nat.lt_trans (Nat.lt_trans zi z6) zc) zj)) (Nat.ne_of_lt (Nat.lt_trans (Nat.lt_trans (Nat.lt_trans (Nat.lt_trans zi z6) zc) zj) zv)) (Nat.ne_of_lt z86) (Nat.ne_of_lt (Nat.lt_trans (Nat.lt_trans (Nat.lt_trans z6 zc) zj) zv)) (Nat.ne_of_lt z87) (Nat.ne_of_lt zu) (Nat.ne_of_lt (Nat.lt_trans zu zi)) (Nat.ne_of_lt zi) z35 zai z1v z32 z33 z34) hZ (own_W hw 58 rfl) (own_W hw 6 rfl) (by decide) (by decide)) zu0 zu1 (g := (mkF m 179 #[.val (.int p1), .val (.int p2), .val (.int p3), .val (.int p4), .val (.int p5), .val (.int p6), .val (.int (p1 % 3)), .val (.int (p2 % 3)), .val (.int (p3 % 3)), .val (.int 2), .val (.int 1), .val (.int 0), .val (.ref z0), .val (.int p6), .unset, .unset] [(.ref z0)])) rfl (by rw [hml]; rfl) (Steps.refl _) (argsL := []) (rest := []) (lenOf own_pd6 rfl) rfl (by show 2 * 0 + _ ≤ _; exact Nat.le_of_eq rfl) (hb hby at_179) (fun _ _ => ⟨rfl, zfx, (by decide : 8 + 0 ≤ _), (by decide : 121 + 0 ≤ _)⟩)
        dsimp only [Pt.U, Pt.locs, Pt.cells, Pt.slots] at z8g l770 y770 z770 zfz zfy
        replace z8g := own_sub z8g l770 y770 z770
        obtain ⟨rfl, zu2, zbk, zbl, zu3, zu4, zg0, zg1, zu5, zu6, zu7, zu8, zu9, zua, zub, zg2, zuc, zud, zue⟩ := zfy
        have zuf := Fr.app ztx zu2
        have zbm := zbi.keep zbk (allS z35 (allS zai (allS z1v (allS z34 (allS z33 (allS z32 all0))))))
        have zug := zts.trans zbk (allS (Or.inr z8e) (allS (Or.inr zfd) (allS (Or.inr z6m) (allS (Or.inr z8d) (allS (Or.inr z8c) (allS (Or.inr z8b) all0))))))
        have zg3 := (zfu.keep zbk (ninS (Nat.ne_of_lt (Nat.lt_trans zc zj)) (ninS (Nat.ne_of_lt (Nat.lt_trans (Nat.lt_trans zc zj) zv)) (ninS (Ne.symm (Nat.ne_of_lt z88)) (ninS (Ne.symm (Nat.ne_of_lt z6)) (ninS (Ne.symm (Nat.ne_of_lt (Nat.lt_trans zi z6))) (ninS (Ne.symm (Nat.ne_of_lt (Nat.lt_trans (Nat.lt_trans zu zi) z6))) nin0)))))))
        obtain ⟨cq772, kq772, zuh, z1ij, zui⟩ := isOf hZ rfl zbl
        obtain ⟨_, _, ⟨zuj, L772, z1ik, n772⟩, -, z6u, ⟨Lc772, zg4, l772, y772, z772⟩, zg5⟩ := z8g.virtualBack hx (y := own_m1) (z := own_m1) hown (mvT hZ (own_W hw 49 rfl)) (mvT hZ (own_W hw 50 rfl)) (notFace_of_selects (args := #[]) (mvT hZ (own_W hw 52 rfl))) (mvT hZ (own_W hw 52 rfl)) (mvT hZ (own_W hw 51 rfl)) (by decide) (backOf (W := 0) (rmF1 l Z a0 hw [] zbj.heap n0 A K (0 : Int32) (0 : Int32) (1 : Int32) p4 p5 p6 z0 z29 z2a z4l z6f EN zbm zg1 zg0 zg2 zg3) hZ (own_W hw 53 rfl) (own_W hw 6 rfl) (by decide) (by decide)) zuh zui (g := (mkF m 184 #[.val (.int p1), .val (.int p2), .val (.int p3), .val (.int p4), .val (.int p5), .val (.int p6), .val (.int (p1 % 3)), .val (.int (p2 % 3)), .val (.int (p3 % 3)), .val (.int 2), .val (.int 1), .val (.int 0), .val (.ref z0), .val (.int p6), .unset, .unset] [(.ref z0)])) rfl (by rw [hml]; rfl) (Steps.refl _) (argsL := []) (rest := []) (lenOf own_pd8 rfl) rfl (by show 2 * 0 + _ ≤ _; exact Nat.le_of_eq rfl) (hb hby at_184) (fun _ _ => ⟨rfl, rfl, (by decide : 8 + 0 ≤ _), (by decide : 121 + 0 ≤ _)⟩)
        dsimp only [Pt.U, Pt.locs, Pt.cells, Pt.slots] at z6u l772 y772 z772 zg5 zg4
        replace z6u := own_sub z6u l772 y772 z772
        obtain ⟨rfl, zuk, zg6⟩ := zg4
        have zul := Fr.app zuf zuk
        obtain ⟨cq773, kq773, zum, z1il, zun⟩ := isOf hZ zg6 zbl
        obtain ⟨_, _, ⟨z8h, L773, z1im, n773⟩, -, z8i, ⟨Lc773, zg7, l773, y773, z773⟩, zg8⟩ := z6u.virtualBack hx (y := own_m3) (z := own_m3) hown (mvT hZ (own_W hw 54 rfl)) (mvT hZ (own_W hw 55 rfl)) (notFace_of_selects (args := #[]) (mvT hZ (own_W hw 57 rfl))) (mvT hZ (own_W hw 57 rfl)) (mvT hZ (own_W hw 56 rfl)) (by decide) (backOf (W := 0) (rmR2 l Z a0 hw [] zbj.heap n0 A K (p2 % 3) (p1 % 3) (p2 % 3) ((0 : Int64) + (1 : Int64)) (0 : Int64) ((0 : Int64) + (1 : Int64)) (1 : Int32) (0 : Int32) (1 : Int32) (0 : Int32) (0 : Int32) (0 : Int32) (0 : Int32) (0 : Int32) (0 : Int32) ((((0 : Int64) + (1 : Int64)) + (1 : Int64)) + (1 : Int64)) z0 z58 z59 z29 z2a z5a z5b z5c z6n z6o z4l z6p z6q EN zbm zg0 zg2 zu6 zuc zu7 zu8 zue zbl zu3 zua zu4 zub zg1 zu5 zu9 zud (by decide) (by decide) (Nat.ne_of_lt z89) (Nat.ne_of_lt (Nat.lt_trans (Nat.lt_trans z6 zc) zj)) (Nat.ne_of_lt zv) (Nat.ne_of_lt z8a) (Nat.ne_of_lt (Nat.lt_trans (Nat.lt_trans (Nat.lt_trans (Nat.lt_trans zu zi) z6) zc) zj)) (Nat.ne_of_lt (Nat.lt_trans (Nat.lt_trans (Nat.lt_trans (Nat.lt_trans (Nat.lt_trans zu zi) z6) zc) zj) zv)) (Nat.ne_of_lt z85) (Nat.ne_of_lt (Nat.lt_trans (Nat.lt_trans (Nat.lt_trans zi z6) zc) zj)) (Nat.ne_of_lt (Nat.lt_trans (Nat.lt_trans (Nat.lt_trans (Nat.lt_trans zi z6) zc) zj) zv)) (Nat.ne_of_lt z86) (Nat.ne_of_lt (Nat.lt_trans (Nat.lt_trans (Nat.lt_trans z6 zc) zj) zv)) (Nat.ne_of_lt z87) (Nat.ne_of_lt zu) (Nat.ne_of_lt (Nat.lt_trans zu zi)) (Nat.ne_of_lt zi) z35 zai z1v z32 z33 z34) hZ (own_W hw 58 rfl) (own_W hw 6 rfl) (by decide) (by decide)) zum zun (g := (mkF m 191 #[.val (.int p1), .val (.int p2), .val (.int p3), .val (.int p4), .val (.int p5), .val (.int p6), .val (.int (p1 % 3)), .val (.int (p2 % 3)), .val (.int (p3 % 3)), .val (.int 2), .val (.int 1), .val (.int 0), .val (.ref z0), .val (.int p6), .val (.int p5), .unset] [(.ref z0)])) rfl (by rw [hml]; rfl) (Steps.refl _) (argsL := []) (rest := []) (lenOf own_pd6 rfl) rfl (by show 2 * 0 + _ ≤ _; exact Nat.le_of_eq rfl) (hb hby at_191) (fun _ _ => ⟨rfl, zg6, (by decide : 8 + 0 ≤ _), (by decide : 121 + 0 ≤ _)⟩)
        dsimp only [Pt.U, Pt.locs, Pt.cells, Pt.slots] at z8i l773 y773 z773 zg8 zg7
        replace z8i := own_sub z8i l773 y773 z773
        obtain ⟨rfl, zuo, zbn, zup, z1in, z1io, zuq, zur, z1ip, z1iq, z1ir, z1is, z1it, z1iu, z1iv, zus, z1iw, z1ix, z1iy⟩ := zg7
        have zut := Fr.app zul zuo
        have zak := zbm.keep zbn (allS z35 (allS zai (allS z1v (allS z34 (allS z33 (allS z32 all0))))))
        have z1iz := zug.trans zbn (allS (Or.inr z8e) (allS (Or.inr zfd) (allS (Or.inr z6m) (allS (Or.inr z8d) (allS (Or.inr z8c) (allS (Or.inr z8b) all0))))))
        have zuu := (zg3.keep zbn (ninS (Nat.ne_of_lt (Nat.lt_trans zc zj)) (ninS (Nat.ne_of_lt (Nat.lt_trans (Nat.lt_trans zc zj) zv)) (ninS (Ne.symm (Nat.ne_of_lt z88)) (ninS (Ne.symm (Nat.ne_of_lt z6)) (ninS (Ne.symm (Nat.ne_of_lt (Nat.lt_trans zi z6))) (ninS (Ne.symm (Nat.ne_of_lt (Nat.lt_trans (Nat.lt_trans zu zi) z6))) nin0)))))))
        obtain ⟨cq775, kq775, zuv, z1j0, zuw⟩ := isOf hZ rfl zup
        obtain ⟨_, _, ⟨zux, L775, z1j1, n775⟩, -, z19, ⟨Lc775, zg9, l775, y775, z775⟩, zga⟩ := z8i.virtualBack hx (y := own_m1) (z := own_m1) hown (mvT hZ (own_W hw 49 rfl)) (mvT hZ (own_W hw 50 rfl)) (notFace_of_selects (args := #[]) (mvT hZ (own_W hw 52 rfl))) (mvT hZ (own_W hw 52 rfl)) (mvT hZ (own_W hw 51 rfl)) (by decide) (backOf (W := 0) (rmF0 l Z a0 hw [] z8h.heap n0 A K (0 : Int32) (0 : Int32) (1 : Int32) p4 p5 p6 z0 z29 z2a z4l z6f EN zak zur zuq zus zuu) hZ (own_W hw 53 rfl) (own_W hw 6 rfl) (by decide) (by decide)) zuv zuw (g := (mkF m 196 #[.val (.int p1), .val (.int p2), .val (.int p3), .val (.int p4), .val (.int p5), .val (.int p6), .val (.int (p1 % 3)), .val (.int (p2 % 3)), .val (.int (p3 % 3)), .val (.int 2), .val (.int 1), .val (.int 0), .val (.ref z0), .val (.int p6), .val (.int p5), .unset] [(.ref z0)])) rfl (by rw [hml]; rfl) (Steps.refl _) (argsL := []) (rest := []) (lenOf own_pd8 rfl) rfl (by show 2 * 0 + _ ≤ _; exact Nat.le_of_eq rfl) (hb hby at_196) (fun _ _ => ⟨rfl, rfl, (by decide : 8 + 0 ≤ _), (by decide : 121 + 0 ≤ _)⟩)
        dsimp only [Pt.U, Pt.locs, Pt.cells, Pt.slots] at z19 l775 y775 z775 zga zg9
        replace z19 := own_sub z19 l775 y775 z775
        obtain ⟨rfl, zuy, zuz⟩ := zg9
        have zv0 := Fr.app zut zuy
        obtain ⟨_, _, ⟨zgb, L776, z1j2, n776⟩, -, z1a, ⟨Lc776, zgc, l776, y776, z776⟩, zgd⟩ := Jvm.LawKit.callS z19 hx (y := own_m5) hown (mvT hZ (own_W hw 70 rfl)) (mvT hZ (own_W hw 71 rfl)) (mvT hZ (own_W hw 2 rfl)) (mvT hZ (own_W hw 72 rfl)) (by decide) (backOf (W := 1) (rmK2 l Z a0 hw [] z8h.heap n0 A K (0 : Int32) (2 : Int32) (1 : Int32) (0 : Int32) p4 p5 p6 EN zak (by decide) (by decide)) hZ (own_W hw 72 rfl) (own_W hw 2 rfl) (by decide) (by decide)) (g := (mkF m 215 #[.val (.int p1), .val (.int p2), .val (.int p3), .val (.int p4), .val (.int p5), .val (.int p6), .val (.int (p1 % 3)), .val (.int (p2 % 3)), .val (.int (p3 % 3)), .val (.int 2), .val (.int 1), .val (.int 0), .val (.ref z0), .val (.int p6), .val (.int p5), .val (.int p4)] [(.int p6), (.int p5), (.int p4), (.int 0), (.int 1), (.int 2), (.int 0), (.int p6)])) rfl (by rw [hml]; rfl) (argsL := [(.int 0), (.int 2), (.int 1), (.int 0), (.int p4), (.int p5), (.int p6)]) (rest := [(.int p6)]) (lenOf own_pd9 rfl) rfl (by show 2 * 0 + _ ≤ _; exact Nat.le_of_eq rfl) (hb hby at_215) (fun _ _ => ⟨rfl, zuz, (by decide : 8 + 0 ≤ _), (by decide : 121 + 0 ≤ _)⟩)
        dsimp only [Pt.U, Pt.locs, Pt.cells, Pt.slots] at z1a l776 y776 z776 zgd zgc
        replace z1a := own_sub z1a l776 y776 z776
        obtain ⟨rfl, zv1, zv2⟩ := zgc
        have zv3 := Fr.app zv0 zv1
        obtain ⟨_, _, ⟨zge, L777, z1j3, n777⟩, -, z1b, ⟨Lc777, zgf, l777, y777, z777⟩, zgg⟩ := Jvm.LawKit.callS z1a hx (y := own_m5) hown (mvT hZ (own_W hw 70 rfl)) (mvT hZ (own_W hw 71 rfl)) (mvT hZ (own_W hw 2 rfl)) (mvT hZ (own_W hw 72 rfl)) (by decide) (backOf (W := 1) (rmK1 l Z a0 hw [] z8h.heap n0 A K (1 : Int32) (2 : Int32) (1 : Int32) (0 : Int32) p4 p5 p6 EN zak (by decide) (by decide)) hZ (own_W hw 72 rfl) (own_W hw 2 rfl) (by decide) (by decide)) (g := (mkF m 235 #[.val (.int p1), .val (.int p2), .val (.int p3), .val (.int p4), .val (.int p5), .val (.int p6), .val (.int (p1 % 3)), .val (.int (p2 % 3)), .val (.int (p3 % 3)), .val (.int 2), .val (.int 1), .val (.int 0), .val (.ref z0), .val (.int p6), .val (.int p5), .val (.int p4)] [(.int p6), (.int p5), (.int p4), (.int 0), (.int 1), (.int 2), (.int 1), (.int p5)])) rfl (by rw [hml]; rfl) (argsL := [(.int 1), (.int 2), (.int 1), (.int 0), (.int p4), (.int p5), (.int p6)]) (rest := [(.int p5)]) (lenOf own_pd9 rfl) rfl (by show 2 * 0 + _ ≤ _; exact Nat.le_of_eq rfl) (hb hby at_235) (fun _ _ => ⟨rfl, zv2, (by decide : 8 + 0 ≤ _), (by decide : 121 + 0 ≤ _)⟩)
        dsimp only [Pt.U, Pt.locs, Pt.cells, Pt.slots] at z1b l777 y777 z777 zgg zgf
        replace z1b := own_sub z1b l777 y777 z777
        obtain ⟨rfl, zv4, zv5⟩ := zgf
        have zv6 := Fr.app zv3 zv4
        obtain ⟨_, _, ⟨zbo, L778, z1j4, n778⟩, -, z5d, ⟨Lc778, zgh, l778, y778, z778⟩, zgi⟩ := Jvm.LawKit.callS z1b hx (y := own_m5) hown (mvT hZ (own_W hw 70 rfl)) (mvT hZ (own_W hw 71 rfl)) (mvT hZ (own_W hw 2 rfl)) (mvT hZ (own_W hw 72 rfl)) (by decide) (backOf (W := 1) (rmK0 l Z a0 hw [] z8h.heap n0 A K (2 : Int32) (2 : Int32) (1 : Int32) (0 : Int32) p4 p5 p6 EN zak (by decide)) hZ (own_W hw 72 rfl) (own_W hw 2 rfl) (by decide) (by decide)) (g := (mkF m 255 #[.val (.int p1), .val (.int p2), .val (.int p3), .val (.int p4), .val (.int p5), .val (.int p6), .val (.int (p1 % 3)), .val (.int (p2 % 3)), .val (.int (p3 % 3)), .val (.int 2), .val (.int 1), .val (.int 0), .val (.ref z0), .val (.int p6), .val (.int p5), .val (.int p4)] [(.int p6), (.int p5), (.int p4), (.int 0), (.int 1), (.int 2), (.int 2), (.int p4)])) rfl (by rw [hml]; rfl) (argsL := [(.int 2), (.int 2), (.int 1), (.int 0), (.int p4), (.int p5), (.int p6)]) (rest := [(.int p4)]) (lenOf own_pd9 rfl) rfl (by show 2 * 0 + _ ≤ _; exact Nat.le_of_eq rfl) (hb hby at_255) (fun _ _ => ⟨rfl, zv5, (by decide : 8 + 0 ≤ _), (by decide : 121 + 0 ≤ _)⟩)
        dsimp only [Pt.U, Pt.locs, Pt.cells, Pt.slots] at z5d l778 y778 z778 zgi zgh
        replace z5d := own_sub z5d l778 y778 z778
        obtain ⟨rfl, zv7, z1j5⟩ := zgh
        have zv8 := Fr.app zv6 zv7
        obtain ⟨fs, hr, hrun, hended, hW, hsame⟩ := z5d.leave (v := some (.int 1)) (fun h => by rw [Bd.returns] at h; cases h)
        refine ⟨_, _, pre0 _ ?_, hrun, hended, _, _, rfl, ?_, ⟨_, rfl⟩, hW, hsame.mono (by decide) (by decide)⟩
        · show Steps p.tables e below (s₁.setTop (mkF m 0 #[.val (.int p1), .val (.int p2), .val (.int p3), .val (.int p4), .val (.int p5), .val (.int p6), .unset, .unset, .unset, .unset, .unset, .unset, .unset, .unset, .unset, .unset] [])) _
          refine XS.iloadN X0.here hx rfl (hb hby at_0) rfl ?_
          refine XS.iconst X0.here hx rfl (hb hby at_1) ?_
          refine iremM X0 hx rfl (hb hby at_2) rfl (by decide) ?_
          show Steps p.tables e below (s₁.setTop (mkF m 3 #[.val (.int p1), .val (.int p2), .val (.int p3), .val (.int p4), .val (.int p5), .val (.int p6), .unset, .unset, .unset, .unset, .unset, .unset, .unset, .unset, .unset, .unset] [(.int (p1 % 3))])) _
          refine XS.istore X0.here hx rfl (hb hby at_3) rfl (l' := #[.val (.int p1), .val (.int p2), .val (.int p3), .val (.int p4), .val (.int p5), .val (.int p6), .val (.int (p1 % 3)), .unset, .unset, .unset, .unset, .unset, .unset, .unset, .unset, .unset]) rfl ?_
          refine XS.iloadN X0.here hx rfl (hb hby at_5) rfl ?_
          refine XS.iconst X0.here hx rfl (hb hby at_6) ?_
          refine iremM X0 hx rfl (hb hby at_7) rfl (by decide) ?_
          show Steps p.tables e below (s₁.setTop (mkF m 8 #[.val (.int p1), .val (.int p2), .val (.int p3), .val (.int p4), .val (.int p5), .val (.int p6), .val (.int (p1 % 3)), .unset, .unset, .unset, .unset, .unset, .unset, .unset, .unset, .unset] [(.int (p2 % 3))])) _
          refine XS.istore X0.here hx rfl (hb hby at_8) rfl (l' := #[.val (.int p1), .val (.int p2), .val (.int p3), .val (.int p4), .val (.int p5), .val (.int p6), .val (.int (p1 % 3)), .val (.int (p2 % 3)), .unset, .unset, .unset, .unset, .unset, .unset, .unset, .unset]) rfl ?_
          refine XS.iloadN X0.here hx rfl (hb hby at_10) rfl ?_
          refine XS.iconst X0.here hx rfl (hb hby at_11) ?_
          refine iremM X0 hx rfl (hb hby at_12) rfl (by decide) ?_
          show Steps p.tables e below (s₁.setTop (mkF m 13 #[.val (.int p1), .val (.int p2), .val (.int p3), .val (.int p4), .val (.int p5), .val (.int p6), .val (.int (p1 % 3)), .val (.int (p2 % 3)), .unset, .unset, .unset, .unset, .unset, .unset, .unset, .unset] [(.int (p3 % 3))])) _
          refine XS.istore X0.here hx rfl (hb hby at_13) rfl (l' := #[.val (.int p1), .val (.int p2), .val (.int p3), .val (.int p4), .val (.int p5), .val (.int p6), .val (.int (p1 % 3)), .val (.int (p2 % 3)), .val (.int (p3 % 3)), .unset, .unset, .unset, .unset, .unset, .unset, .unset]) rfl ?_
          refine XS.iload X0.here hx rfl (hb hby at_15) rfl ?_
          refine XS.iconst X0.here hx rfl (hb hby at_17) ?_
          refine XS.iload X0.here hx rfl (hb hby at_18) rfl ?_
          refine XS.iconst X0.here hx rfl (hb hby at_20) ?_
          refine zek _ ?_
          show Steps p.tables e below (zei.setTop (mkF m 24 #[.val (.int p1), .val (.int p2), .val (.int p3), .val (.int p4), .val (.int p5), .val (.int p6), .val (.int (p1 % 3)), .val (.int (p2 % 3)), .val (.int (p3 % 3)), .unset, .unset, .unset, .unset, .unset, .unset, .unset] [(.int (own_f_rmB (p2 % 3) (1 : Int32) (p1 % 3) (0 : Int32)))])) _
          refine XS.ifNo z27.here hx rfl (hb hby at_24) rfl ((if0 _ _).trans (feq (own_bf_y1 z16)).1) ?_
          show Steps p.tables e below (zei.setTop (mkF m 27 #[.val (.int p1), .val (.int p2), .val (.int p3), .val (.int p4), .val (.int p5), .val (.int p6), .val (.int (p1 % 3)), .val (.int (p2 % 3)), .val (.int (p3 % 3)), .unset, .unset, .unset, .unset, .unset, .unset, .unset] [])) _
          refine XS.iconst z27.here hx rfl (hb hby at_27) ?_
          refine XS.goto z27.here hx rfl (pc0 := 28) (pc' := 32) rfl (hb hby at_28) (by decide) (by decide) ?_
          refine XS.iload z27.here hx rfl (hb hby at_32) rfl ?_
          refine XS.iconst z27.here hx rfl (hb hby at_34) ?_
          refine XS.iload z27.here hx rfl (hb hby at_35) rfl ?_
          refine XS.iconst z27.here hx rfl (hb hby at_37) ?_
          refine zem _ ?_
          show Steps p.tables e below (zb5.setTop (mkF m 41 #[.val (.int p1), .val (.int p2), .val (.int p3), .val (.int p4), .val (.int p5), .val (.int p6), .val (.int (p1 % 3)), .val (.int (p2 % 3)), .val (.int (p3 % 3)), .unset, .unset, .unset, .unset, .unset, .unset, .unset] [(.int (own_f_rmB (p3 % 3) (2 : Int32) (p1 % 3) (0 : Int32))), (.int 1)])) _
          refine XS.ifNo z17.here hx rfl (hb hby at_41) rfl ((if0 _ _).trans (feq (own_bf_y1 z55)).1) ?_
          show Steps p.tables e below (zb5.setTop (mkF m 44 #[.val (.int p1), .val (.int p2), .val (.int p3), .val (.int p4), .val (.int p5), .val (.int p6), .val (.int (p1 % 3)), .val (.int (p2 % 3)), .val (.int (p3 % 3)), .unset, .unset, .unset, .unset, .unset, .unset, .unset] [(.int 1)])) _
          refine XS.iconst z17.here hx rfl (hb hby at_44) ?_
          refine XS.goto z17.here hx rfl (pc0 := 45) (pc' := 49) rfl (hb hby at_45) (by decide) (by decide) ?_
          refine XS.iadd z17.here hx rfl (hb hby at_49) rfl ?_
          show Steps p.tables e below (zb5.setTop (mkF m 50 #[.val (.int p1), .val (.int p2), .val (.int p3), .val (.int p4), .val (.int p5), .val (.int p6), .val (.int (p1 % 3)), .val (.int (p2 % 3)), .val (.int (p3 % 3)), .unset, .unset, .unset, .unset, .unset, .unset, .unset] [(.int 2)])) _
          refine XS.istore z17.here hx rfl (hb hby at_50) rfl (l' := #[.val (.int p1), .val (.int p2), .val (.int p3), .val (.int p4), .val (.int p5), .val (.int p6), .val (.int (p1 % 3)), .val (.int (p2 % 3)), .val (.int (p3 % 3)), .val (.int 2), .unset, .unset, .unset, .unset, .unset, .unset]) rfl ?_
          refine XS.iload z17.here hx rfl (hb hby at_52) rfl ?_
          refine XS.iconst z17.here hx rfl (hb hby at_54) ?_
          refine XS.iload z17.here hx rfl (hb hby at_55) rfl ?_
          refine XS.iconst z17.here hx rfl (hb hby at_57) ?_
          refine zep _ ?_
          show Steps p.tables e below (zen.setTop (mkF m 61 #[.val (.int p1), .val (.int p2), .val (.int p3), .val (.int p4), .val (.int p5), .val (.int p6), .val (.int (p1 % 3)), .val (.int (p2 % 3)), .val (.int (p3 % 3)), .val (.int 2), .unset, .unset, .unset, .unset, .unset, .unset] [(.int (own_f_rmB (p1 % 3) (0 : Int32) (p2 % 3) (1 : Int32)))])) _
          refine XS.ifYes z2y.here hx rfl (pc0 := 61) (pc' := 68) rfl (hb hby at_61) rfl ((if0 _ _).trans (teq (own_bf_n1 z16)).1) (by decide) (by decide) ?_
          show Steps p.tables e below (zen.setTop (mkF m 68 #[.val (.int p1), .val (.int p2), .val (.int p3), .val (.int p4), .val (.int p5), .val (.int p6), .val (.int (p1 % 3)), .val (.int (p2 % 3)), .val (.int (p3 % 3)), .val (.int 2), .unset, .unset, .unset, .unset, .unset, .unset] [])) _
          refine XS.iconst z2y.here hx rfl (hb hby at_68) ?_
          refine XS.iload z2y.here hx rfl (hb hby at_69) rfl ?_
          refine XS.iconst z2y.here hx rfl (hb hby at_71) ?_
          refine XS.iload z2y.here hx rfl (hb hby at_72) rfl ?_
          refine XS.iconst z2y.here hx rfl (hb hby at_74) ?_
          refine zer _ ?_
          show Steps p.tables e below (zb6.setTop (mkF m 78 #[.val (.int p1), .val (.int p2), .val (.int p3), .val (.int p4), .val (.int p5), .val (.int p6), .val (.int (p1 % 3)), .val (.int (p2 % 3)), .val (.int (p3 % 3)), .val (.int 2), .unset, .unset, .unset, .unset, .unset, .unset] [(.int (own_f_rmB (p3 % 3) (2 : Int32) (p2 % 3) (1 : Int32))), (.int 0)])) _
          refine XS.ifNo z18.here hx rfl (hb hby at_78) rfl ((if0 _ _).trans (feq (own_bf_y1 z6l)).1) ?_
          show Steps p.tables e below (zb6.setTop (mkF m 81 #[.val (.int p1), .val (.int p2), .val (.int p3), .val (.int p4), .val (.int p5), .val (.int p6), .val (.int (p1 % 3)), .val (.int (p2 % 3)), .val (.int (p3 % 3)), .val (.int 2), .unset, .unset, .unset, .unset, .unset, .unset] [(.int 0)])) _
          refine XS.iconst z18.here hx rfl (hb hby at_81) ?_
          refine XS.goto z18.here hx rfl (pc0 := 82) (pc' := 86) rfl (hb hby at_82) (by decide) (by decide) ?_
          refine XS.iadd z18.here hx rfl (hb hby at_86) rfl ?_
          show Steps p.tables e below (zb6.setTop (mkF m 87 #[.val (.int p1), .val (.int p2), .val (.int p3), .val (.int p4), .val (.int p5), .val (.int p6), .val (.int (p1 % 3)), .val (.int (p2 % 3)), .val (.int (p3 % 3)), .val (.int 2), .unset, .unset, .unset, .unset, .unset, .unset] [(.int 1)])) _
          refine XS.istore z18.here hx rfl (hb hby at_87) rfl (l' := #[.val (.int p1), .val (.int p2), .val (.int p3), .val (.int p4), .val (.int p5), .val (.int p6), .val (.int (p1 % 3)), .val (.int (p2 % 3)), .val (.int (p3 % 3)), .val (.int 2), .val (.int 1), .unset, .unset, .unset, .unset, .unset]) rfl ?_
          refine XS.iload z18.here hx rfl (hb hby at_89) rfl ?_
          refine XS.iconst z18.here hx rfl (hb hby at_91) ?_
          refine XS.iload z18.here hx rfl (hb hby at_92) rfl ?_
          refine XS.iconst z18.here hx rfl (hb hby at_94) ?_
          refine zeu _ ?_
          show Steps p.tables e below (zes.setTop (mkF m 98 #[.val (.int p1), .val (.int p2), .val (.int p3), .val (.int p4), .val (.int p5), .val (.int p6), .val (.int (p1 % 3)), .val (.int (p2 % 3)), .val (.int (p3 % 3)), .val (.int 2), .val (.int 1), .unset, .unset, .unset, .unset, .unset] [(.int (own_f_rmB (p1 % 3) (0 : Int32) (p3 % 3) (2 : Int32)))])) _
          refine XS.ifYes z2z.here hx rfl (pc0 := 98) (pc' := 105) rfl (hb hby at_98) rfl ((if0 _ _).trans (teq (own_bf_n1 z55)).1) (by decide) (by decide) ?_
          show Steps p.tables e below (zes.setTop (mkF m 105 #[.val (.int p1), .val (.int p2), .val (.int p3), .val (.int p4), .val (.int p5), .val (.int p6), .val (.int (p1 % 3)), .val (.int (p2 % 3)), .val (.int (p3 % 3)), .val (.int 2), .val (.int 1), .unset, .unset, .unset, .unset, .unset] [])) _
          refine XS.iconst z2z.here hx rfl (hb hby at_105) ?_
          refine XS.iload z2z.here hx rfl (hb hby at_106) rfl ?_
          refine XS.iconst z2z.here hx rfl (hb hby at_108) ?_
          refine XS.iload z2z.here hx rfl (hb hby at_109) rfl ?_
          refine XS.iconst z2z.here hx rfl (hb hby at_111) ?_
          refine zew _ ?_
          show Steps p.tables e below (zb7.setTop (mkF m 115 #[.val (.int p1), .val (.int p2), .val (.int p3), .val (.int p4), .val (.int p5), .val (.int p6), .val (.int (p1 % 3)), .val (.int (p2 % 3)), .val (.int (p3 % 3)), .val (.int 2), .val (.int 1), .unset, .unset, .unset, .unset, .unset] [(.int (own_f_rmB (p2 % 3) (1 : Int32) (p3 % 3) (2 : Int32))), (.int 0)])) _
          refine XS.ifYes z56.here hx rfl (pc0 := 115) (pc' := 122) rfl (hb hby at_115) rfl ((if0 _ _).trans (teq (own_bf_n1 z6l)).1) (by decide) (by decide) ?_
          show Steps p.tables e below (zb7.setTop (mkF m 122 #[.val (.int p1), .val (.int p2), .val (.int p3), .val (.int p4), .val (.int p5), .val (.int p6), .val (.int (p1 % 3)), .val (.int (p2 % 3)), .val (.int (p3 % 3)), .val (.int 2), .val (.int 1), .unset, .unset, .unset, .unset, .unset] [(.int 0)])) _
          refine XS.iconst z56.here hx rfl (hb hby at_122) ?_
          refine XS.iadd z56.here hx rfl (hb hby at_123) rfl ?_
          show Steps p.tables e below (zb7.setTop (mkF m 124 #[.val (.int p1), .val (.int p2), .val (.int p3), .val (.int p4), .val (.int p5), .val (.int p6), .val (.int (p1 % 3)), .val (.int (p2 % 3)), .val (.int (p3 % 3)), .val (.int 2), .val (.int 1), .unset, .unset, .unset, .unset, .unset] [(.int 0)])) _
          refine XS.istore z56.here hx rfl (hb hby at_124) rfl (l' := #[.val (.int p1), .val (.int p2), .val (.int p3), .val (.int p4), .val (.int p5), .val (.int p6), .val (.int (p1 % 3)), .val (.int (p2 % 3)), .val (.int (p3 % 3)), .val (.int 2), .val (.int 1), .val (.int 0), .unset, .unset, .unset, .unset]) rfl ?_
          refine zez _ ?_
          show Steps p.tables e below (zr7.setTop (mkF m 129 #[.val (.int p1), .val (.int p2), .val (.int p3), .val (.int p4), .val (.int p5), .val (.int p6), .val (.int (p1 % 3)), .val (.int (p2 % 3)), .val (.int (p3 % 3)), .val (.int 2), .val (.int 1), .val (.int 0), .unset, .unset, .unset, .unset] [(.ref z0)])) _
          refine XS.dup zex.here hx rfl (hb hby at_129) rfl rfl ?_
          refine zf2.trans ?_
          show Steps p.tables e below (z4k.setTop (mkF m 133 #[.val (.int p1), .val (.int p2), .val (.int p3), .val (.int p4), .val (.int p5), .val (.int p6), .val (.int (p1 % 3)), .val (.int (p2 % 3)), .val (.int (p3 % 3)), .val (.int 2), .val (.int 1), .val (.int 0), .unset, .unset, .unset, .unset] [(.ref z0)])) _
          refine XS.astore z28.here hx rfl (hb hby at_133) rfl rfl (l' := #[.val (.int p1), .val (.int p2), .val (.int p3), .val (.int p4), .val (.int p5), .val (.int p6), .val (.int (p1 % 3)), .val (.int (p2 % 3)), .val (.int (p3 % 3)), .val (.int 2), .val (.int 1), .val (.int 0), .val (.ref z0), .unset, .unset, .unset]) rfl ?_
          refine XS.aload z28.here hx rfl (hb hby at_135) rfl rfl ?_
          refine XS.iload z28.here hx rfl (hb hby at_137) rfl ?_
          refine XS.i2dS z28.here hx rfl (hb hby at_139) rfl (i2d_w _) ?_
          show Steps p.tables e below (z4k.setTop (mkF m 140 #[.val (.int p1), .val (.int p2), .val (.int p3), .val (.int p4), .val (.int p5), .val (.int p6), .val (.int (p1 % 3)), .val (.int (p2 % 3)), .val (.int (p3 % 3)), .val (.int 2), .val (.int 1), .val (.int 0), .val (.ref z0), .unset, .unset, .unset] [(.double (Jvm.FP.l2d ((p1 % 3).toInt64))), (.ref z0)])) _
          refine XS.iloadN z28.here hx rfl (hb hby at_140) rfl ?_
          refine XS.iconst z28.here hx rfl (hb hby at_141) ?_
          refine XS.aconstNull z28.here hx rfl (hb hby at_142) ?_
          refine zfg.trans ?_
          show Steps p.tables e below (zbc.setTop (mkF m 146 #[.val (.int p1), .val (.int p2), .val (.int p3), .val (.int p4), .val (.int p5), .val (.int p6), .val (.int (p1 % 3)), .val (.int (p2 % 3)), .val (.int (p3 % 3)), .val (.int 2), .val (.int 1), .val (.int 0), .val (.ref z0), .unset, .unset, .unset] [])) _
          refine XS.aload z36.here hx rfl (hb hby at_146) rfl rfl ?_
          refine XS.iload z36.here hx rfl (hb hby at_148) rfl ?_
          refine XS.i2dS z36.here hx rfl (hb hby at_150) rfl (i2d_w _) ?_
          show Steps p.tables e below (zbc.setTop (mkF m 151 #[.val (.int p1), .val (.int p2), .val (.int p3), .val (.int p4), .val (.int p5), .val (.int p6), .val (.int (p1 % 3)), .val (.int (p2 % 3)), .val (.int (p3 % 3)), .val (.int 2), .val (.int 1), .val (.int 0), .val (.ref z0), .unset, .unset, .unset] [(.double (Jvm.FP.l2d ((p2 % 3).toInt64))), (.ref z0)])) _
          refine XS.iload z36.here hx rfl (hb hby at_151) rfl ?_
          refine XS.iconst z36.here hx rfl (hb hby at_153) ?_
          refine XS.aconstNull z36.here hx rfl (hb hby at_154) ?_
          refine zfl.trans ?_
          show Steps p.tables e below (zbe.setTop (mkF m 158 #[.val (.int p1), .val (.int p2), .val (.int p3), .val (.int p4), .val (.int p5), .val (.int p6), .val (.int (p1 % 3)), .val (.int (p2 % 3)), .val (.int (p3 % 3)), .val (.int 2), .val (.int 1), .val (.int 0), .val (.ref z0), .unset, .unset, .unset] [])) _
          refine XS.aload z37.here hx rfl (hb hby at_158) rfl rfl ?_
          refine XS.iload z37.here hx rfl (hb hby at_160) rfl ?_
          refine XS.i2dS z37.here hx rfl (hb hby at_162) rfl (i2d_w _) ?_
          show Steps p.tables e below (zbe.setTop (mkF m 163 #[.val (.int p1), .val (.int p2), .val (.int p3), .val (.int p4), .val (.int p5), .val (.int p6), .val (.int (p1 % 3)), .val (.int (p2 % 3)), .val (.int (p3 % 3)), .val (.int 2), .val (.int 1), .val (.int 0), .val (.ref z0), .unset, .unset, .unset] [(.double (Jvm.FP.l2d ((p3 % 3).toInt64))), (.ref z0)])) _
          refine XS.iload z37.here hx rfl (hb hby at_163) rfl ?_
          refine XS.iconst z37.here hx rfl (hb hby at_165) ?_
          refine XS.aconstNull z37.here hx rfl (hb hby at_166) ?_
          refine zfq.trans ?_
          show Steps p.tables e below (zaj.setTop (mkF m 170 #[.val (.int p1), .val (.int p2), .val (.int p3), .val (.int p4), .val (.int p5), .val (.int p6), .val (.int (p1 % 3)), .val (.int (p2 % 3)), .val (.int (p3 % 3)), .val (.int 2), .val (.int 1), .val (.int 0), .val (.ref z0), .unset, .unset, .unset] [])) _
          refine XS.aload z8f.here hx rfl (hb hby at_170) rfl rfl ?_
          refine zfw.trans ?_
          show Steps p.tables e below (ztv.setTop (mkF m 175 #[.val (.int p1), .val (.int p2), .val (.int p3), .val (.int p4), .val (.int p5), .val (.int p6), .val (.int (p1 % 3)), .val (.int (p2 % 3)), .val (.int (p3 % 3)), .val (.int 2), .val (.int 1), .val (.int 0), .val (.ref z0), .unset, .unset, .unset] [(.int p6)])) _
          refine XS.istore z6t.here hx rfl (hb hby at_175) rfl (l' := #[.val (.int p1), .val (.int p2), .val (.int p3), .val (.int p4), .val (.int p5), .val (.int p6), .val (.int (p1 % 3)), .val (.int (p2 % 3)), .val (.int (p3 % 3)), .val (.int 2), .val (.int 1), .val (.int 0), .val (.ref z0), .val (.int p6), .unset, .unset]) rfl ?_
          refine XS.aload z6t.here hx rfl (hb hby at_177) rfl rfl ?_
          refine zfz.trans ?_
          show Steps p.tables e below (zbj.setTop (mkF m 182 #[.val (.int p1), .val (.int p2), .val (.int p3), .val (.int p4), .val (.int p5), .val (.int p6), .val (.int (p1 % 3)), .val (.int (p2 % 3)), .val (.int (p3 % 3)), .val (.int 2), .val (.int 1), .val (.int 0), .val (.ref z0), .val (.int p6), .unset, .unset] [])) _
          refine XS.aload z8g.here hx rfl (hb hby at_182) rfl rfl ?_
          refine zg5.trans ?_
          show Steps p.tables e below (zuj.setTop (mkF m 187 #[.val (.int p1), .val (.int p2), .val (.int p3), .val (.int p4), .val (.int p5), .val (.int p6), .val (.int (p1 % 3)), .val (.int (p2 % 3)), .val (.int (p3 % 3)), .val (.int 2), .val (.int 1), .val (.int 0), .val (.ref z0), .val (.int p6), .unset, .unset] [(.int p5)])) _
          refine XS.istore z6u.here hx rfl (hb hby at_187) rfl (l' := #[.val (.int p1), .val (.int p2), .val (.int p3), .val (.int p4), .val (.int p5), .val (.int p6), .val (.int (p1 % 3)), .val (.int (p2 % 3)), .val (.int (p3 % 3)), .val (.int 2), .val (.int 1), .val (.int 0), .val (.ref z0), .val (.int p6), .val (.int p5), .unset]) rfl ?_
          refine XS.aload z6u.here hx rfl (hb hby at_189) rfl rfl ?_
          refine zg8.trans ?_
          show Steps p.tables e below (z8h.setTop (mkF m 194 #[.val (.int p1), .val (.int p2), .val (.int p3), .val (.int p4), .val (.int p5), .val (.int p6), .val (.int (p1 % 3)), .val (.int (p2 % 3)), .val (.int (p3 % 3)), .val (.int 2), .val (.int 1), .val (.int 0), .val (.ref z0), .val (.int p6), .val (.int p5), .unset] [])) _
          refine XS.aload z8i.here hx rfl (hb hby at_194) rfl rfl ?_
          refine zga.trans ?_
          show Steps p.tables e below (zux.setTop (mkF m 199 #[.val (.int p1), .val (.int p2), .val (.int p3), .val (.int p4), .val (.int p5), .val (.int p6), .val (.int (p1 % 3)), .val (.int (p2 % 3)), .val (.int (p3 % 3)), .val (.int 2), .val (.int 1), .val (.int 0), .val (.ref z0), .val (.int p6), .val (.int p5), .unset] [(.int p4)])) _
          refine XS.istore z19.here hx rfl (hb hby at_199) rfl (l' := #[.val (.int p1), .val (.int p2), .val (.int p3), .val (.int p4), .val (.int p5), .val (.int p6), .val (.int (p1 % 3)), .val (.int (p2 % 3)), .val (.int (p3 % 3)), .val (.int 2), .val (.int 1), .val (.int 0), .val (.ref z0), .val (.int p6), .val (.int p5), .val (.int p4)]) rfl ?_
          refine XS.iload z19.here hx rfl (hb hby at_201) rfl ?_
          refine XS.iconst z19.here hx rfl (hb hby at_203) ?_
          refine XS.iload z19.here hx rfl (hb hby at_204) rfl ?_
          refine XS.iload z19.here hx rfl (hb hby at_206) rfl ?_
          refine XS.iload z19.here hx rfl (hb hby at_208) rfl ?_
          refine XS.iloadN z19.here hx rfl (hb hby at_210) rfl ?_
          refine XS.iload z19.here hx rfl (hb hby at_211) rfl ?_
          refine XS.iload z19.here hx rfl (hb hby at_213) rfl ?_
          refine zgd _ ?_
          show Steps p.tables e below (zgb.setTop (mkF m 218 #[.val (.int p1), .val (.int p2), .val (.int p3), .val (.int p4), .val (.int p5), .val (.int p6), .val (.int (p1 % 3)), .val (.int (p2 % 3)), .val (.int (p3 % 3)), .val (.int 2), .val (.int 1), .val (.int 0), .val (.ref z0), .val (.int p6), .val (.int p5), .val (.int p4)] [(.int p6), (.int p6)])) _
          refine XS.icmpNo z1a.here hx rfl (hb hby at_218) rfl (teq (rfl : p6 = p6)).2 ?_
          show Steps p.tables e below (zgb.setTop (mkF m 221 #[.val (.int p1), .val (.int p2), .val (.int p3), .val (.int p4), .val (.int p5), .val (.int p6), .val (.int (p1 % 3)), .val (.int (p2 % 3)), .val (.int (p3 % 3)), .val (.int 2), .val (.int 1), .val (.int 0), .val (.ref z0), .val (.int p6), .val (.int p5), .val (.int p4)] [])) _
          refine XS.iload z1a.here hx rfl (hb hby at_221) rfl ?_
          refine XS.iconst z1a.here hx rfl (hb hby at_223) ?_
          refine XS.iload z1a.here hx rfl (hb hby at_224) rfl ?_
          refine XS.iload z1a.here hx rfl (hb hby at_226) rfl ?_
          refine XS.iload z1a.here hx rfl (hb hby at_228) rfl ?_
          refine XS.iloadN z1a.here hx rfl (hb hby at_230) rfl ?_
          refine XS.iload z1a.here hx rfl (hb hby at_231) rfl ?_
          refine XS.iload z1a.here hx rfl (hb hby at_233) rfl ?_
          refine zgg _ ?_
          show Steps p.tables e below (zge.setTop (mkF m 238 #[.val (.int p1), .val (.int p2), .val (.int p3), .val (.int p4), .val (.int p5), .val (.int p6), .val (.int (p1 % 3)), .val (.int (p2 % 3)), .val (.int (p3 % 3)), .val (.int 2), .val (.int 1), .val (.int 0), .val (.ref z0), .val (.int p6), .val (.int p5), .val (.int p4)] [(.int p5), (.int p5)])) _
          refine XS.icmpNo z1b.here hx rfl (hb hby at_238) rfl (teq (rfl : p5 = p5)).2 ?_
          show Steps p.tables e below (zge.setTop (mkF m 241 #[.val (.int p1), .val (.int p2), .val (.int p3), .val (.int p4), .val (.int p5), .val (.int p6), .val (.int (p1 % 3)), .val (.int (p2 % 3)), .val (.int (p3 % 3)), .val (.int 2), .val (.int 1), .val (.int 0), .val (.ref z0), .val (.int p6), .val (.int p5), .val (.int p4)] [])) _
          refine XS.iload z1b.here hx rfl (hb hby at_241) rfl ?_
          refine XS.iconst z1b.here hx rfl (hb hby at_243) ?_
          refine XS.iload z1b.here hx rfl (hb hby at_244) rfl ?_
          refine XS.iload z1b.here hx rfl (hb hby at_246) rfl ?_
          refine XS.iload z1b.here hx rfl (hb hby at_248) rfl ?_
          refine XS.iloadN z1b.here hx rfl (hb hby at_250) rfl ?_
          refine XS.iload z1b.here hx rfl (hb hby at_251) rfl ?_
          refine XS.iload z1b.here hx rfl (hb hby at_253) rfl ?_
          refine zgi _ ?_
          show Steps p.tables e below (zbo.setTop (mkF m 258 #[.val (.int p1), .val (.int p2), .val (.int p3), .val (.int p4), .val (.int p5), .val (.int p6), .val (.int (p1 % 3)), .val (.int (p2 % 3)), .val (.int (p3 % 3)), .val (.int 2), .val (.int 1), .val (.int 0), .val (.ref z0), .val (.int p6), .val (.int p5), .val (.int p4)] [(.int p4), (.int p4)])) _
          refine XS.icmpNo z5d.here hx rfl (hb hby at_258) rfl (teq (rfl : p4 = p4)).2 ?_
          show Steps p.tables e below (zbo.setTop (mkF m 261 #[.val (.int p1), .val (.int p2), .val (.int p3), .val (.int p4), .val (.int p5), .val (.int p6), .val (.int (p1 % 3)), .val (.int (p2 % 3)), .val (.int (p3 % 3)), .val (.int 2), .val (.int 1), .val (.int 0), .val (.ref z0), .val (.int p6), .val (.int p5), .val (.int p4)] [])) _
          refine XS.iconst z5d.here hx rfl (hb hby at_261) ?_
          refine XS.goto z5d.here hx rfl (pc0 := 262) (pc' := 266) rfl (hb hby at_262) (by decide) (by decide) ?_
          exact retN z5d hx (t := .boolean) Bd.returns (by simp) (hb hby at_266) hr
        · show LQ n0 _ zbo.heap _
          exact ⟨rfl, zv8, trivial⟩
      · obtain ⟨_, _, ⟨zgj, L779, z1j6, n779⟩, -, z2b, ⟨Lc779, zgk, l779, y779, z779⟩, zgl⟩ := Jvm.LawKit.callS X0 hx (y := own_m2) hown (mvT hZ (own_W hw 0 rfl)) (mvT hZ (own_W hw 1 rfl)) (mvT hZ (own_W hw 2 rfl)) (mvT hZ (own_W hw 3 rfl)) (by decide) (backOf (W := 0) (rmB l Z a0 hw [] h0 n0 A K (p2 % 3) (1 : Int32) (p1 % 3) (0 : Int32) EN OL0) hZ (own_W hw 3 rfl) (own_W hw 2 rfl) (by decide) (by decide)) (g := (mkF m 21 #[.val (.int p1), .val (.int p2), .val (.int p3), .val (.int p4), .val (.int p5), .val (.int p6), .val (.int (p1 % 3)), .val (.int (p2 % 3)), .val (.int (p3 % 3)), .unset, .unset, .unset, .unset, .unset, .unset, .unset] [(.int 0), (.int (p1 % 3)), (.int 1), (.int (p2 % 3))])) rfl (by rw [hml]; rfl) (argsL := [(.int (p2 % 3)), (.int 1), (.int (p1 % 3)), (.int 0)]) (rest := []) (lenOf own_pd4 rfl) rfl (by show 2 * 0 + _ ≤ _; exact Nat.le_of_eq rfl) (hb hby at_21) (fun _ _ => ⟨rfl, e0, (by decide : 0 + 0 ≤ _), (by decide : 0 + 0 ≤ _)⟩)
        dsimp only [Pt.U, Pt.locs, Pt.cells, Pt.slots] at z2b l779 y779 z779 zgl zgk
        replace z2b := own_sub z2b l779 y779 z779
        obtain ⟨rfl, zv9, zva⟩ := zgk
        have zvb := Fr.app N0 zv9
        obtain ⟨_, _, ⟨zbp, L780, z1j7, n780⟩, -, z1c, ⟨Lc780, zgm, l780, y780, z780⟩, zgn⟩ := Jvm.LawKit.callS z2b hx (y := own_m2) hown (mvT hZ (own_W hw 0 rfl)) (mvT hZ (own_W hw 1 rfl)) (mvT hZ (own_W hw 2 rfl)) (mvT hZ (own_W hw 3 rfl)) (by decide) (backOf (W := 1) (rmB l Z a0 hw [] h0 n0 A K (p3 % 3) (2 : Int32) (p1 % 3) (0 : Int32) EN OL0) hZ (own_W hw 3 rfl) (own_W hw 2 rfl) (by decide) (by decide)) (g := (mkF m 38 #[.val (.int p1), .val (.int p2), .val (.int p3), .val (.int p4), .val (.int p5), .val (.int p6), .val (.int (p1 % 3)), .val (.int (p2 % 3)), .val (.int (p3 % 3)), .unset, .unset, .unset, .unset, .unset, .unset, .unset] [(.int 0), (.int (p1 % 3)), (.int 2), (.int (p3 % 3)), (.int 1)])) rfl (by rw [hml]; rfl) (argsL := [(.int (p3 % 3)), (.int 2), (.int (p1 % 3)), (.int 0)]) (rest := [(.int 1)]) (lenOf own_pd4 rfl) rfl (by show 2 * 0 + _ ≤ _; exact Nat.le_of_eq rfl) (hb hby at_38) (fun _ _ => ⟨rfl, zva, (by decide : 0 + 0 ≤ _), (by decide : 0 + 0 ≤ _)⟩)
        dsimp only [Pt.U, Pt.locs, Pt.cells, Pt.slots] at z1c l780 y780 z780 zgn zgm
        replace z1c := own_sub z1c l780 y780 z780
        obtain ⟨rfl, zvc, zvd⟩ := zgm
        have zve := Fr.app zvb zvc
        obtain ⟨_, _, ⟨zgo, L781, z1j8, n781⟩, -, z38, ⟨Lc781, zgp, l781, y781, z781⟩, zgq⟩ := Jvm.LawKit.callS z1c hx (y := own_m2) hown (mvT hZ (own_W hw 0 rfl)) (mvT hZ (own_W hw 1 rfl)) (mvT hZ (own_W hw 2 rfl)) (mvT hZ (own_W hw 3 rfl)) (by decide) (backOf (W := 0) (rmB l Z a0 hw [] h0 n0 A K (p1 % 3) (0 : Int32) (p2 % 3) (1 : Int32) EN OL0) hZ (own_W hw 3 rfl) (own_W hw 2 rfl) (by decide) (by decide)) (g := (mkF m 58 #[.val (.int p1), .val (.int p2), .val (.int p3), .val (.int p4), .val (.int p5), .val (.int p6), .val (.int (p1 % 3)), .val (.int (p2 % 3)), .val (.int (p3 % 3)), .val (.int 2), .unset, .unset, .unset, .unset, .unset, .unset] [(.int 1), (.int (p2 % 3)), (.int 0), (.int (p1 % 3))])) rfl (by rw [hml]; rfl) (argsL := [(.int (p1 % 3)), (.int 0), (.int (p2 % 3)), (.int 1)]) (rest := []) (lenOf own_pd4 rfl) rfl (by show 2 * 0 + _ ≤ _; exact Nat.le_of_eq rfl) (hb hby at_58) (fun _ _ => ⟨rfl, zvd, (by decide : 0 + 0 ≤ _), (by decide : 0 + 0 ≤ _)⟩)
        dsimp only [Pt.U, Pt.locs, Pt.cells, Pt.slots] at z38 l781 y781 z781 zgq zgp
        replace z38 := own_sub z38 l781 y781 z781
        obtain ⟨rfl, zvf, zvg⟩ := zgp
        have zvh := Fr.app zve zvf
        obtain ⟨_, _, ⟨zbq, L782, z1j9, n782⟩, -, z1w, ⟨Lc782, zgr, l782, y782, z782⟩, zgs⟩ := Jvm.LawKit.callS z38 hx (y := own_m2) hown (mvT hZ (own_W hw 0 rfl)) (mvT hZ (own_W hw 1 rfl)) (mvT hZ (own_W hw 2 rfl)) (mvT hZ (own_W hw 3 rfl)) (by decide) (backOf (W := 1) (rmB l Z a0 hw [] h0 n0 A K (p3 % 3) (2 : Int32) (p2 % 3) (1 : Int32) EN OL0) hZ (own_W hw 3 rfl) (own_W hw 2 rfl) (by decide) (by decide)) (g := (mkF m 75 #[.val (.int p1), .val (.int p2), .val (.int p3), .val (.int p4), .val (.int p5), .val (.int p6), .val (.int (p1 % 3)), .val (.int (p2 % 3)), .val (.int (p3 % 3)), .val (.int 2), .unset, .unset, .unset, .unset, .unset, .unset] [(.int 1), (.int (p2 % 3)), (.int 2), (.int (p3 % 3)), (.int 0)])) rfl (by rw [hml]; rfl) (argsL := [(.int (p3 % 3)), (.int 2), (.int (p2 % 3)), (.int 1)]) (rest := [(.int 0)]) (lenOf own_pd4 rfl) rfl (by show 2 * 0 + _ ≤ _; exact Nat.le_of_eq rfl) (hb hby at_75) (fun _ _ => ⟨rfl, zvg, (by decide : 0 + 0 ≤ _), (by decide : 0 + 0 ≤ _)⟩)
        dsimp only [Pt.U, Pt.locs, Pt.cells, Pt.slots] at z1w l782 y782 z782 zgs zgr
        replace z1w := own_sub z1w l782 y782 z782
        obtain ⟨rfl, zvi, zvj⟩ := zgr
        have zvk := Fr.app zvh zvi
        obtain ⟨_, _, ⟨zgt, L783, z1ja, n783⟩, -, z39, ⟨Lc783, zgu, l783, y783, z783⟩, zgv⟩ := Jvm.LawKit.callS z1w hx (y := own_m2) hown (mvT hZ (own_W hw 0 rfl)) (mvT hZ (own_W hw 1 rfl)) (mvT hZ (own_W hw 2 rfl)) (mvT hZ (own_W hw 3 rfl)) (by decide) (backOf (W := 0) (rmB l Z a0 hw [] h0 n0 A K (p1 % 3) (0 : Int32) (p3 % 3) (2 : Int32) EN OL0) hZ (own_W hw 3 rfl) (own_W hw 2 rfl) (by decide) (by decide)) (g := (mkF m 95 #[.val (.int p1), .val (.int p2), .val (.int p3), .val (.int p4), .val (.int p5), .val (.int p6), .val (.int (p1 % 3)), .val (.int (p2 % 3)), .val (.int (p3 % 3)), .val (.int 2), .val (.int 0), .unset, .unset, .unset, .unset, .unset] [(.int 2), (.int (p3 % 3)), (.int 0), (.int (p1 % 3))])) rfl (by rw [hml]; rfl) (argsL := [(.int (p1 % 3)), (.int 0), (.int (p3 % 3)), (.int 2)]) (rest := []) (lenOf own_pd4 rfl) rfl (by show 2 * 0 + _ ≤ _; exact Nat.le_of_eq rfl) (hb hby at_95) (fun _ _ => ⟨rfl, zvj, (by decide : 0 + 0 ≤ _), (by decide : 0 + 0 ≤ _)⟩)
        dsimp only [Pt.U, Pt.locs, Pt.cells, Pt.slots] at z39 l783 y783 z783 zgv zgu
        replace z39 := own_sub z39 l783 y783 z783
        obtain ⟨rfl, zvl, zvm⟩ := zgu
        have zvn := Fr.app zvk zvl
        obtain ⟨_, _, ⟨zbr, L784, z1jb, n784⟩, -, z4m, ⟨Lc784, zgw, l784, y784, z784⟩, zgx⟩ := Jvm.LawKit.callS z39 hx (y := own_m2) hown (mvT hZ (own_W hw 0 rfl)) (mvT hZ (own_W hw 1 rfl)) (mvT hZ (own_W hw 2 rfl)) (mvT hZ (own_W hw 3 rfl)) (by decide) (backOf (W := 1) (rmB l Z a0 hw [] h0 n0 A K (p2 % 3) (1 : Int32) (p3 % 3) (2 : Int32) EN OL0) hZ (own_W hw 3 rfl) (own_W hw 2 rfl) (by decide) (by decide)) (g := (mkF m 112 #[.val (.int p1), .val (.int p2), .val (.int p3), .val (.int p4), .val (.int p5), .val (.int p6), .val (.int (p1 % 3)), .val (.int (p2 % 3)), .val (.int (p3 % 3)), .val (.int 2), .val (.int 0), .unset, .unset, .unset, .unset, .unset] [(.int 2), (.int (p3 % 3)), (.int 1), (.int (p2 % 3)), (.int 0)])) rfl (by rw [hml]; rfl) (argsL := [(.int (p2 % 3)), (.int 1), (.int (p3 % 3)), (.int 2)]) (rest := [(.int 0)]) (lenOf own_pd4 rfl) rfl (by show 2 * 0 + _ ≤ _; exact Nat.le_of_eq rfl) (hb hby at_112) (fun _ _ => ⟨rfl, zvm, (by decide : 0 + 0 ≤ _), (by decide : 0 + 0 ≤ _)⟩)
        dsimp only [Pt.U, Pt.locs, Pt.cells, Pt.slots] at z4m l784 y784 z784 zgx zgw
        replace z4m := own_sub z4m l784 y784 z784
        obtain ⟨rfl, zvo, zvp⟩ := zgw
        have zvq := Fr.app zvn zvo
        obtain ⟨zvr, z3a, zgy, zvs, zgz, z4n, z3b, -, zh0⟩ := newO z4m hx hZ hown (own_W hw 4 rfl) (own_W hw 5 rfl) (own_W hw 6 rfl) zvp (g := (mkF m 126 #[.val (.int p1), .val (.int p2), .val (.int p3), .val (.int p4), .val (.int p5), .val (.int p6), .val (.int (p1 % 3)), .val (.int (p2 % 3)), .val (.int (p3 % 3)), .val (.int 2), .val (.int 0), .val (.int 1), .unset, .unset, .unset, .unset] [])) rfl (hb hby at_126) (by decide) (by decide)
        obtain ⟨z1, zbs⟩ : ∃ z, z = h0.size := ⟨_, rfl⟩
        rw [← zbs] at z4n z3b zh0
        have z1x : n0 ≤ z1 := Nat.le_trans (OL0.1 ▸ OL0.2.1) (Nat.le_of_eq zbs.symm)
        have z6v : h0.size ≤ z1 := Nat.le_trans KK0.1 (Nat.le_of_eq zbs.symm)
        have zh1 := OL0.ext zgz
        have z5e := KK0.ext zgz
        have zvt : Fld Z z3a z1 y_s0 "at" "[D" .null := z3b (Or.inl (own_W hw 15 rfl)) (ty := (.array .double)) (by decide)
        have zvu : Fld Z z3a z1 y_s0 "added" "[J" .null := z3b (Or.inl (own_W hw 18 rfl)) (ty := (.array .long)) (by decide)
        have zvv : Fld Z z3a z1 y_s0 "slot" "[I" .null := z3b (Or.inl (own_W hw 21 rfl)) (ty := (.array .int)) (by decide)
        have zvw : Fld Z z3a z1 y_s0 "from" "[I" .null := z3b (Or.inl (own_W hw 23 rfl)) (ty := (.array .int)) (by decide)
        have zvx : Fld Z z3a z1 y_s0 "to" "[I" .null := z3b (Or.inl (own_W hw 25 rfl)) (ty := (.array .int)) (by decide)
        have zvy : Fld Z z3a z1 y_s0 "message" y_s1 .null := z3b (Or.inl (own_W hw 29 rfl)) (ty := (.array (.object y_s2))) (by decide)
        have zvz : Fld Z z3a z1 y_s0 "free" "[I" .null := z3b (Or.inl (own_W hw 31 rfl)) (ty := (.array .int)) (by decide)
        have zw0 : Fld Z z3a z1 y_s0 "size" "I" (.int 0) := z3b (Or.inl (own_W hw 42 rfl)) (ty := .int) (by decide)
        have zw1 : Fld Z z3a z1 y_s0 "additions" "J" (.long 0) := z3b (Or.inl (own_W hw 44 rfl)) (ty := .long) (by decide)
        obtain ⟨_, _, ⟨z4o, L786, z1jc, n786⟩, -, z2c, ⟨Lc786, zh2, l786, y786, z786⟩, zh3⟩ := zgy.specialBack hx (y := own_m7) rfl hown (mvT hZ (own_W hw 7 rfl)) (mvT hZ (own_W hw 8 rfl)) (mvT hZ (own_W hw 9 rfl)) (by decide) (backOf (W := 1) (rmL1 l Z a0 hw [] z3a n0 p1 p2 p3 p4 p5 p6 A K z1 EN zh1 z4n zvt zvu zvv zvw zvx zvy zvz zw0 zw1 z1x) hZ (own_W hw 9 rfl) (own_W hw 6 rfl) (by decide) (by decide)) (g := (mkF m 130 #[.val (.int p1), .val (.int p2), .val (.int p3), .val (.int p4), .val (.int p5), .val (.int p6), .val (.int (p1 % 3)), .val (.int (p2 % 3)), .val (.int (p3 % 3)), .val (.int 2), .val (.int 0), .val (.int 1), .unset, .unset, .unset, .unset] [(.ref z1), (.ref z1)])) rfl (by rw [hml]; rfl) (Steps.refl _) (a := z1) (argsL := []) (rest := [(.ref z1)]) (lenOf own_pd6 rfl) rfl (by show 2 * 0 + _ ≤ _; exact Nat.le_of_eq rfl) (hb hby at_130) (fun _ _ => ⟨rfl, zvs, (by decide : 1 + 7 ≤ _), (by decide : 9 + 112 ≤ _)⟩)
        dsimp only [Pt.U, Pt.locs, Pt.cells, Pt.slots] at z2c l786 y786 z786 zh3 zh2
        replace z2c := own_sub z2c l786 y786 z786
        obtain ⟨z5f, z5g, z2d, z2e, z5h, z5i, z5j, z6w, z6x, z4p, z6g, zal, z6y, z6z, rfl, zw2, zh4, ⟨z3c, zh5⟩, ⟨z3d, zh6⟩, ⟨z3e, zh7⟩, ⟨z70, zh8⟩, ⟨z71, zh9⟩, ⟨z3f, zha⟩, ⟨zam, zhb⟩, zw, zk, z7, zd, zl, zx, zhc, zw3, zw4, zw5, zw6, zw7, zw8, zw9, zwa, zwb, zwc, zwd, zwe, zwf, zwg, zwh, zwi, zhd⟩ := zh2
        have zwj := Fr.app zvq zw2
        have z8j : z1 < z5f := Nat.lt_of_lt_of_le z4n.lt zh5
        have z8k : z1 < z5g := Nat.lt_of_lt_of_le z4n.lt zh6
        have z8l : z1 < z2d := Nat.lt_of_lt_of_le z4n.lt zh7
        have z8m : z1 < z2e := Nat.lt_of_lt_of_le z4n.lt zh8
        have zbt : z1 < z5h := Nat.lt_of_lt_of_le z4n.lt zh9
        have z8n : z1 < z5i := Nat.lt_of_lt_of_le z4n.lt zha
        have z8o : z1 < z5j := Nat.lt_of_lt_of_le z4n.lt zhb
        have z8p : h0.size ≤ z5f := Nat.le_trans z5e.1 zh5
        have z8q : h0.size ≤ z5g := Nat.le_trans z5e.1 zh6
        have z8r : h0.size ≤ z2d := Nat.le_trans z5e.1 zh7
        have zbu : h0.size ≤ z2e := Nat.le_trans z5e.1 zh8
        have zbv : h0.size ≤ z5h := Nat.le_trans z5e.1 zh9
        have z8s : h0.size ≤ z5i := Nat.le_trans z5e.1 zha
        have zhe : h0.size ≤ z5j := Nat.le_trans z5e.1 zhb
        have zhf := zh1.keep zh4 (allS z1x all0)
        have zwk := z5e.trans zh4 (allS (Or.inr z6v) all0)
        have zwl : Arv Z z4o.heap z5f z6w .double (16 : Int32) [(.double (Jvm.FP.l2d ((0 : Int32).toInt64))), (.double (Jvm.FP.l2d ((0 : Int32).toInt64))), (.double (Jvm.FP.l2d ((0 : Int32).toInt64)))] (.double (Jvm.FP.l2d ((0 : Int32).toInt64))) := Arv.pad zwc (pad_rep [] (.double (Jvm.FP.l2d ((0 : Int32).toInt64))) 3)
        have zwm : Arv Z z4o.heap z5g z6x .long (16 : Int32) [(.long 0), (.long 0), (.long 0)] (.long 0) := Arv.pad zwd (pad_rep [] (.long 0) 3)
        have zwn : Arv Z z4o.heap z2d z4p .int 16 [(.int 0), (.int 0), (.int 0)] (.int 0) := Arv.pad zwe (pad_rep [] (.int 0) 3)
        have zwo : Arv Z z4o.heap z2e z6g .int 16 [(.int 0), (.int 0), (.int 0)] (.int 0) := Arv.pad zwf (pad_rep [] (.int 0) 3)
        have zwp : Arv Z z4o.heap z5h zal .int 16 [(.int 0), (.int 0), (.int 0)] (.int 0) := Arv.pad zwg (pad_rep [] (.int 0) 3)
        have zwq : own_AM Z z4o.heap z5i z6y (.object y_s2) := ⟨_, _, zwh⟩
        obtain ⟨cq793, kq793, zwr, z1jd, zws⟩ := isOf hZ rfl zhc
        obtain ⟨_, _, ⟨zbw, L793, z1je, n793⟩, -, z3g, ⟨Lc793, zhg, l793, y793, z793⟩, zhh⟩ := z2c.virtualBack hx (y := own_m0) (z := own_m0) hown (mvT hZ (own_W hw 36 rfl)) (mvT hZ (own_W hw 37 rfl)) (notFace_of_selects (args := #[]) (mvT hZ (own_W hw 39 rfl))) (mvT hZ (own_W hw 39 rfl)) (mvT hZ (own_W hw 38 rfl)) (by decide) (backOf (W := 0) (rmA0 l Z a0 hw [] z4o.heap n0 A K (0 : Int32) (0 : Int32) (0 : Int32) (0 : Int64) (0 : Int64) (0 : Int64) (0 : Int32) (0 : Int32) (0 : Int32) (0 : Int32) (0 : Int32) (0 : Int32) (0 : Int32) (0 : Int32) (0 : Int32) (0 : Int64) (p1 % 3) p4 (0 : Int32) z1 z5f z5g z2d z2e z5h z5i z5j z6w z6x z4p z6g zal z6y z6z EN zhf zwa zw5 zwn zw9 zhd zw6 zwo zw7 zwp zw8 zwq zhc zwb zw3 zwl zw4 zwm zwi (Nat.ne_of_lt z8m) (Nat.ne_of_lt zd) (Nat.ne_of_lt zbt) (Nat.ne_of_lt (Nat.lt_trans zd zl)) (Nat.ne_of_lt zl) (Nat.ne_of_lt z8n) (Nat.ne_of_lt (Nat.lt_trans (Nat.lt_trans zw zk) z7)) (Nat.ne_of_lt (Nat.lt_trans (Nat.lt_trans (Nat.lt_trans zw zk) z7) zd)) (Nat.ne_of_lt (Nat.lt_trans (Nat.lt_trans (Nat.lt_trans (Nat.lt_trans zw zk) z7) zd) zl)) (Nat.ne_of_lt z8j) (Nat.ne_of_lt (Nat.lt_trans zk z7)) (Nat.ne_of_lt (Nat.lt_trans (Nat.lt_trans zk z7) zd)) (Nat.ne_of_lt (Nat.lt_trans (Nat.lt_trans (Nat.lt_trans zk z7) zd) zl)) (Nat.ne_of_lt z8k) (Nat.ne_of_lt z7) (Nat.ne_of_lt (Nat.lt_trans z7 zd)) (Nat.ne_of_lt (Nat.lt_trans (Nat.lt_trans z7 zd) zl)) (Nat.ne_of_lt z8l) (Nat.ne_of_lt zw) (Nat.ne_of_lt (Nat.lt_trans zw zk)) (Nat.ne_of_lt zk) z70 z71 z3f z1x z3c z3d z3e) hZ (own_W hw 40 rfl) (own_W hw 6 rfl) (by decide) (by decide)) zwr zws (g := (mkF m 143 #[.val (.int p1), .val (.int p2), .val (.int p3), .val (.int p4), .val (.int p5), .val (.int p6), .val (.int (p1 % 3)), .val (.int (p2 % 3)), .val (.int (p3 % 3)), .val (.int 2), .val (.int 0), .val (.int 1), .val (.ref z1), .unset, .unset, .unset] [.null, (.int 0), (.int p4), (.double (Jvm.FP.l2d ((p1 % 3).toInt64))), (.ref z1)])) rfl (by rw [hml]; rfl) (Steps.refl _) (argsL := [(.double (Jvm.FP.l2d ((p1 % 3).toInt64))), (.int p4), (.int 0), .null]) (rest := []) (lenOf own_pd7 rfl) rfl (by show 2 * 0 + _ ≤ _; exact Nat.le_of_eq rfl) (hb hby at_143) (fun _ _ => ⟨rfl, rfl, (by decide : 8 + 0 ≤ _), (by decide : 121 + 0 ≤ _)⟩)
        dsimp only [Pt.U, Pt.locs, Pt.cells, Pt.slots] at z3g l793 y793 z793 zhh zhg
        replace z3g := own_sub z3g l793 y793 z793
        obtain ⟨rfl, zwt, zbx, zhi, zwu, zwv, zww, zwx, zwy, zwz, zx0, zx1, zx2, zx3, zx4, zx5, zx6, zx7, zx8, zx9⟩ := zhg
        have zxa := Fr.app zwj zwt
        have zhj := zhf.keep zbx (allS z70 (allS z71 (allS z3f (allS z1x (allS z3e (allS z3d (allS z3c all0)))))))
        have zxb := zwk.trans zbx (allS (Or.inr zbu) (allS (Or.inr zbv) (allS (Or.inr z8s) (allS (Or.inr z6v) (allS (Or.inr z8r) (allS (Or.inr z8q) (allS (Or.inr z8p) all0)))))))
        have zhk := (zhd.keep zbx (ninS (Ne.symm (Nat.ne_of_lt (Nat.lt_trans (Nat.lt_trans zd zl) zx))) (ninS (Ne.symm (Nat.ne_of_lt (Nat.lt_trans zl zx))) (ninS (Ne.symm (Nat.ne_of_lt zx)) (ninS (Ne.symm (Nat.ne_of_lt z8o)) (ninS (Ne.symm (Nat.ne_of_lt (Nat.lt_trans (Nat.lt_trans (Nat.lt_trans z7 zd) zl) zx))) (ninS (Ne.symm (Nat.ne_of_lt (Nat.lt_trans (Nat.lt_trans (Nat.lt_trans (Nat.lt_trans zk z7) zd) zl) zx))) (ninS (Ne.symm (Nat.ne_of_lt (Nat.lt_trans (Nat.lt_trans (Nat.lt_trans (Nat.lt_trans (Nat.lt_trans zw zk) z7) zd) zl) zx))) nin0))))))))
        obtain ⟨cq795, kq795, zxc, z1jf, zxd⟩ := isOf hZ rfl zhi
        obtain ⟨_, _, ⟨zby, L795, z1jg, n795⟩, -, z3h, ⟨Lc795, zhl, l795, y795, z795⟩, zhm⟩ := z3g.virtualBack hx (y := own_m0) (z := own_m0) hown (mvT hZ (own_W hw 36 rfl)) (mvT hZ (own_W hw 37 rfl)) (notFace_of_selects (args := #[]) (mvT hZ (own_W hw 39 rfl))) (mvT hZ (own_W hw 39 rfl)) (mvT hZ (own_W hw 38 rfl)) (by decide) (backOf (W := 0) (rmA1y l Z a0 hw [] zbw.heap n0 A K (p1 % 3) (0 : Int32) (0 : Int32) (0 : Int64) (0 : Int64) (0 : Int64) (0 : Int32) (0 : Int32) (0 : Int32) p4 (0 : Int32) (0 : Int32) (0 : Int32) (0 : Int32) (0 : Int32) ((0 : Int64) + (1 : Int64)) (p2 % 3) p5 (1 : Int32) z1 z5f z5g z2d z2e z5h z5i z5j z6w z6x z4p z6g zal z6y z6z EN zhj zx1 zww zx5 zx0 zhk zwx zx6 zwy zx7 zwz zx8 zhi zwu zx3 zwv zx4 zx2 zx9 z16 (Nat.ne_of_lt z8m) (Nat.ne_of_lt zd) (Nat.ne_of_lt zbt) (Nat.ne_of_lt (Nat.lt_trans zd zl)) (Nat.ne_of_lt zl) (Nat.ne_of_lt z8n) (Nat.ne_of_lt (Nat.lt_trans (Nat.lt_trans zw zk) z7)) (Nat.ne_of_lt (Nat.lt_trans (Nat.lt_trans (Nat.lt_trans zw zk) z7) zd)) (Nat.ne_of_lt (Nat.lt_trans (Nat.lt_trans (Nat.lt_trans (Nat.lt_trans zw zk) z7) zd) zl)) (Nat.ne_of_lt z8j) (Nat.ne_of_lt (Nat.lt_trans zk z7)) (Nat.ne_of_lt (Nat.lt_trans (Nat.lt_trans zk z7) zd)) (Nat.ne_of_lt (Nat.lt_trans (Nat.lt_trans (Nat.lt_trans zk z7) zd) zl)) (Nat.ne_of_lt z8k) (Nat.ne_of_lt z7) (Nat.ne_of_lt (Nat.lt_trans z7 zd)) (Nat.ne_of_lt (Nat.lt_trans (Nat.lt_trans z7 zd) zl)) (Nat.ne_of_lt z8l) (Nat.ne_of_lt zw) (Nat.ne_of_lt (Nat.lt_trans zw zk)) (Nat.ne_of_lt zk) z70 z71 z3f z1x z3c z3d z3e) hZ (own_W hw 40 rfl) (own_W hw 6 rfl) (by decide) (by decide)) zxc zxd (g := (mkF m 155 #[.val (.int p1), .val (.int p2), .val (.int p3), .val (.int p4), .val (.int p5), .val (.int p6), .val (.int (p1 % 3)), .val (.int (p2 % 3)), .val (.int (p3 % 3)), .val (.int 2), .val (.int 0), .val (.int 1), .val (.ref z1), .unset, .unset, .unset] [.null, (.int 1), (.int p5), (.double (Jvm.FP.l2d ((p2 % 3).toInt64))), (.ref z1)])) rfl (by rw [hml]; rfl) (Steps.refl _) (argsL := [(.double (Jvm.FP.l2d ((p2 % 3).toInt64))), (.int p5), (.int 1), .null]) (rest := []) (lenOf own_pd7 rfl) rfl (by show 2 * 0 + _ ≤ _; exact Nat.le_of_eq rfl) (hb hby at_155) (fun _ _ => ⟨rfl, rfl, (by decide : 8 + 0 ≤ _), (by decide : 121 + 0 ≤ _)⟩)
        dsimp only [Pt.U, Pt.locs, Pt.cells, Pt.slots] at z3h l795 y795 z795 zhm zhl
        replace z3h := own_sub z3h l795 y795 z795
        obtain ⟨rfl, zxe, zbz, zhn, zxf, zxg, zxh, zxi, zxj, zxk, zxl, zxm, zxn, zxo, zxp, zxq, zxr, zxs, zxt, zxu⟩ := zhl
        have zxv := Fr.app zxa zxe
        have zho := zhj.keep zbz (allS z70 (allS z71 (allS z3f (allS z1x (allS z3c (allS z3d (allS z3e all0)))))))
        have zxw := zxb.trans zbz (allS (Or.inr zbu) (allS (Or.inr zbv) (allS (Or.inr z8s) (allS (Or.inr z6v) (allS (Or.inr z8p) (allS (Or.inr z8q) (allS (Or.inr z8r) all0)))))))
        have zhp := (zhk.keep zbz (ninS (Ne.symm (Nat.ne_of_lt (Nat.lt_trans (Nat.lt_trans zd zl) zx))) (ninS (Ne.symm (Nat.ne_of_lt (Nat.lt_trans zl zx))) (ninS (Ne.symm (Nat.ne_of_lt zx)) (ninS (Ne.symm (Nat.ne_of_lt z8o)) (ninS (Ne.symm (Nat.ne_of_lt (Nat.lt_trans (Nat.lt_trans (Nat.lt_trans (Nat.lt_trans (Nat.lt_trans zw zk) z7) zd) zl) zx))) (ninS (Ne.symm (Nat.ne_of_lt (Nat.lt_trans (Nat.lt_trans (Nat.lt_trans (Nat.lt_trans zk z7) zd) zl) zx))) (ninS (Ne.symm (Nat.ne_of_lt (Nat.lt_trans (Nat.lt_trans (Nat.lt_trans z7 zd) zl) zx))) nin0))))))))
        obtain ⟨cq797, kq797, zxx, z1jh, zxy⟩ := isOf hZ rfl zhn
        obtain ⟨_, _, ⟨zan, L797, z1ji, n797⟩, -, z8t, ⟨Lc797, zhq, l797, y797, z797⟩, zhr⟩ := z3h.virtualBack hx (y := own_m0) (z := own_m0) hown (mvT hZ (own_W hw 36 rfl)) (mvT hZ (own_W hw 37 rfl)) (notFace_of_selects (args := #[]) (mvT hZ (own_W hw 39 rfl))) (mvT hZ (own_W hw 39 rfl)) (mvT hZ (own_W hw 38 rfl)) (by decide) (backOf (W := 0) (rmA2n l Z a0 hw [] zby.heap n0 A K (p2 % 3) (p1 % 3) (0 : Int32) ((0 : Int64) + (1 : Int64)) (0 : Int64) (0 : Int64) (1 : Int32) (0 : Int32) (0 : Int32) p4 p5 (0 : Int32) (0 : Int32) (1 : Int32) (0 : Int32) (((0 : Int64) + (1 : Int64)) + (1 : Int64)) (p3 % 3) p6 (2 : Int32) z1 z5f z5g z2d z2e z5h z5i z5j z6w z6x z4p z6g zal z6y z6z EN zho zxm zxh zxq zxl zhp zxi zxr zxj zxs zxk zxt zhn zxf zxo zxn zxg zxp zxu z6l (Nat.ne_of_lt z8m) (Nat.ne_of_lt zd) (Nat.ne_of_lt zbt) (Nat.ne_of_lt (Nat.lt_trans zd zl)) (Nat.ne_of_lt zl) (Nat.ne_of_lt z8n) (Nat.ne_of_lt (Nat.lt_trans (Nat.lt_trans zw zk) z7)) (Nat.ne_of_lt (Nat.lt_trans (Nat.lt_trans (Nat.lt_trans zw zk) z7) zd)) (Nat.ne_of_lt (Nat.lt_trans (Nat.lt_trans (Nat.lt_trans (Nat.lt_trans zw zk) z7) zd) zl)) (Nat.ne_of_lt z8j) (Nat.ne_of_lt (Nat.lt_trans zk z7)) (Nat.ne_of_lt (Nat.lt_trans (Nat.lt_trans zk z7) zd)) (Nat.ne_of_lt (Nat.lt_trans (Nat.lt_trans (Nat.lt_trans zk z7) zd) zl)) (Nat.ne_of_lt z8k) (Nat.ne_of_lt z7) (Nat.ne_of_lt (Nat.lt_trans z7 zd)) (Nat.ne_of_lt (Nat.lt_trans (Nat.lt_trans z7 zd) zl)) (Nat.ne_of_lt z8l) (Nat.ne_of_lt zw) (Nat.ne_of_lt (Nat.lt_trans zw zk)) (Nat.ne_of_lt zk) z70 z71 z3f z1x z3c z3d z3e) hZ (own_W hw 40 rfl) (own_W hw 6 rfl) (by decide) (by decide)) zxx zxy (g := (mkF m 167 #[.val (.int p1), .val (.int p2), .val (.int p3), .val (.int p4), .val (.int p5), .val (.int p6), .val (.int (p1 % 3)), .val (.int (p2 % 3)), .val (.int (p3 % 3)), .val (.int 2), .val (.int 0), .val (.int 1), .val (.ref z1), .unset, .unset, .unset] [.null, (.int 2), (.int p6), (.double (Jvm.FP.l2d ((p3 % 3).toInt64))), (.ref z1)])) rfl (by rw [hml]; rfl) (Steps.refl _) (argsL := [(.double (Jvm.FP.l2d ((p3 % 3).toInt64))), (.int p6), (.int 2), .null]) (rest := []) (lenOf own_pd7 rfl) rfl (by show 2 * 0 + _ ≤ _; exact Nat.le_of_eq rfl) (hb hby at_167) (fun _ _ => ⟨rfl, rfl, (by decide : 8 + 0 ≤ _), (by decide : 121 + 0 ≤ _)⟩)
        dsimp only [Pt.U, Pt.locs, Pt.cells, Pt.slots] at z8t l797 y797 z797 zhr zhq
        replace z8t := own_sub z8t l797 y797 z797
        obtain ⟨rfl, zxz, zc0, zc1, zy0, zy1, zhs, zht, zy2, zy3, zy4, zy5, zy6, zy7, zy8, zhu, zhv, z1jj, zy9, zya⟩ := zhq
        have zyb := Fr.app zxv zxz
        have zc2 := zho.keep zc0 (allS z70 (allS z71 (allS z3f (allS z1x (allS z3e (allS z3d (allS z3c all0)))))))
        have zyc := zxw.trans zc0 (allS (Or.inr zbu) (allS (Or.inr zbv) (allS (Or.inr z8s) (allS (Or.inr z6v) (allS (Or.inr z8r) (allS (Or.inr z8q) (allS (Or.inr z8p) all0)))))))
        obtain ⟨cq798, kq798, zyd, z1jk, zye⟩ := isOf hZ rfl zc1
        obtain ⟨_, _, ⟨zyf, L798, z1jl, n798⟩, -, z72, ⟨Lc798, zhw, l798, y798, z798⟩, zhx⟩ := z8t.virtualBack hx (y := own_m1) (z := own_m1) hown (mvT hZ (own_W hw 49 rfl)) (mvT hZ (own_W hw 50 rfl)) (notFace_of_selects (args := #[]) (mvT hZ (own_W hw 52 rfl))) (mvT hZ (own_W hw 52 rfl)) (mvT hZ (own_W hw 51 rfl)) (by decide) (backOf (W := 0) (rmF1 l Z a0 hw [] zan.heap n0 A K (0 : Int32) (0 : Int32) (2 : Int32) p4 p5 p6 z1 z2d z2e z4p z6g EN zc2 zht zhs zhu zhv) hZ (own_W hw 53 rfl) (own_W hw 6 rfl) (by decide) (by decide)) zyd zye (g := (mkF m 172 #[.val (.int p1), .val (.int p2), .val (.int p3), .val (.int p4), .val (.int p5), .val (.int p6), .val (.int (p1 % 3)), .val (.int (p2 % 3)), .val (.int (p3 % 3)), .val (.int 2), .val (.int 0), .val (.int 1), .val (.ref z1), .unset, .unset, .unset] [(.ref z1)])) rfl (by rw [hml]; rfl) (Steps.refl _) (argsL := []) (rest := []) (lenOf own_pd8 rfl) rfl (by show 2 * 0 + _ ≤ _; exact Nat.le_of_eq rfl) (hb hby at_172) (fun _ _ => ⟨rfl, rfl, (by decide : 8 + 0 ≤ _), (by decide : 121 + 0 ≤ _)⟩)
        dsimp only [Pt.U, Pt.locs, Pt.cells, Pt.slots] at z72 l798 y798 z798 zhx zhw
        replace z72 := own_sub z72 l798 y798 z798
        obtain ⟨rfl, zyg, zhy⟩ := zhw
        have zyh := Fr.app zyb zyg
        have zyi := (zhp.keep zc0 (ninS (Ne.symm (Nat.ne_of_lt (Nat.lt_trans (Nat.lt_trans zd zl) zx))) (ninS (Ne.symm (Nat.ne_of_lt (Nat.lt_trans zl zx))) (ninS (Ne.symm (Nat.ne_of_lt zx)) (ninS (Ne.symm (Nat.ne_of_lt z8o)) (ninS (Ne.symm (Nat.ne_of_lt (Nat.lt_trans (Nat.lt_trans (Nat.lt_trans z7 zd) zl) zx))) (ninS (Ne.symm (Nat.ne_of_lt (Nat.lt_trans (Nat.lt_trans (Nat.lt_trans (Nat.lt_trans zk z7) zd) zl) zx))) (ninS (Ne.symm (Nat.ne_of_lt (Nat.lt_trans (Nat.lt_trans (Nat.lt_trans (Nat.lt_trans (Nat.lt_trans zw zk) z7) zd) zl) zx))) nin0))))))))
        have zyj : own_AM Z zan.heap z5j z6z .int := ⟨_, _, zyi⟩
        obtain ⟨cq801, kq801, zyk, z1jm, zyl⟩ := isOf hZ zhy zc1
        obtain ⟨_, _, ⟨zc3, L801, z1jn, n801⟩, -, z8u, ⟨Lc801, zhz, l801, y801, z801⟩, zi0⟩ := z72.virtualBack hx (y := own_m3) (z := own_m3) hown (mvT hZ (own_W hw 54 rfl)) (mvT hZ (own_W hw 55 rfl)) (notFace_of_selects (args := #[]) (mvT hZ (own_W hw 57 rfl))) (mvT hZ (own_W hw 57 rfl)) (mvT hZ (own_W hw 56 rfl)) (by decide) (backOf (W := 0) (rmR3n l Z a0 hw [] zan.heap n0 A K (p2 % 3) (p1 % 3) (p3 % 3) ((0 : Int64) + (1 : Int64)) (0 : Int64) (((0 : Int64) + (1 : Int64)) + (1 : Int64)) (1 : Int32) (0 : Int32) (2 : Int32) (0 : Int32) (0 : Int32) (0 : Int32) (0 : Int32) (0 : Int32) (0 : Int32) ((((0 : Int64) + (1 : Int64)) + (1 : Int64)) + (1 : Int64)) z1 z5f z5g z2d z2e z5h z5i z5j z6w z6x z4p z6y z6z EN zc2 zhs zhu zy3 zy9 zy4 zy5 zyj zc1 zy0 zy7 zy1 zy8 zht zy2 zy6 zya (by decide) (by decide) (own_ib_n1 z55) (Nat.ne_of_lt z8n) (Nat.ne_of_lt (Nat.lt_trans (Nat.lt_trans z7 zd) zl)) (Nat.ne_of_lt zx) (Nat.ne_of_lt z8o) (Nat.ne_of_lt (Nat.lt_trans (Nat.lt_trans (Nat.lt_trans (Nat.lt_trans zw zk) z7) zd) zl)) (Nat.ne_of_lt (Nat.lt_trans (Nat.lt_trans (Nat.lt_trans (Nat.lt_trans (Nat.lt_trans zw zk) z7) zd) zl) zx)) (Nat.ne_of_lt z8j) (Nat.ne_of_lt (Nat.lt_trans (Nat.lt_trans (Nat.lt_trans zk z7) zd) zl)) (Nat.ne_of_lt (Nat.lt_trans (Nat.lt_trans (Nat.lt_trans (Nat.lt_trans zk z7) zd) zl) zx)) (Nat.ne_of_lt z8k) (Nat.ne_of_lt (Nat.lt_trans (Nat.lt_trans (Nat.lt_trans z7 zd) zl) zx)) (Nat.ne_of_lt z8l) (Nat.ne_of_lt zw) (Nat.ne_of_lt (Nat.lt_trans zw zk)) (Nat.ne_of_lt zk) z3f zam z1x z3c z3d z3e) hZ (own_W hw 58 rfl) (own_W hw 6 rfl) (by decide) (by decide)) zyk zyl (g := (mkF m 179 #[.val (.int p1), .val (.int p2), .val (.int p3), .val (.int p4), .val (.int p5), .val (.int p6), .val (.int (p1 % 3)), .val (.int (p2 % 3)), .val (.int (p3 % 3)), .val (.int 2), .val (.int 0), .val (.int 1), .val (.ref z1), .val (.int p5), .unset, .unset] [(.ref z1)])) rfl (by rw [hml]; rfl) (Steps.refl _) (argsL := []) (rest := []) (lenOf own_pd6 rfl) rfl (by show 2 * 0 + _ ≤ _; exact Nat.le_of_eq rfl) (hb hby at_179) (fun _ _ => ⟨rfl, zhy, (by decide : 8 + 0 ≤ _), (by decide : 121 + 0 ≤ _)⟩)
        dsimp only [Pt.U, Pt.locs, Pt.cells, Pt.slots] at z8u l801 y801 z801 zi0 zhz
        replace z8u := own_sub z8u l801 y801 z801
        obtain ⟨rfl, zym, zc4, zc5, zyn, zyo, zi1, zi2, zyp, zyq, zyr, zys, zyt, zyu, zyv, zi3, zyw, zyx, zyy⟩ := zhz
        have zyz := Fr.app zyh zym
        have zc6 := zc2.keep zc4 (allS z3f (allS zam (allS z1x (allS z3e (allS z3d (allS z3c all0))))))
        have zz0 := zyc.trans zc4 (allS (Or.inr z8s) (allS (Or.inr zhe) (allS (Or.inr z6v) (allS (Or.inr z8r) (allS (Or.inr z8q) (allS (Or.inr z8p) all0))))))
        have zi4 := (zhv.keep zc4 (ninS (Nat.ne_of_lt (Nat.lt_trans zd zl)) (ninS (Nat.ne_of_lt (Nat.lt_trans (Nat.lt_trans zd zl) zx)) (ninS (Ne.symm (Nat.ne_of_lt z8m)) (ninS (Ne.symm (Nat.ne_of_lt z7)) (ninS (Ne.symm (Nat.ne_of_lt (Nat.lt_trans zk z7))) (ninS (Ne.symm (Nat.ne_of_lt (Nat.lt_trans (Nat.lt_trans zw zk) z7))) nin0)))))))
        obtain ⟨cq803, kq803, zz1, z1jo, zz2⟩ := isOf hZ rfl zc5
        obtain ⟨_, _, ⟨zz3, L803, z1jp, n803⟩, -, z73, ⟨Lc803, zi5, l803, y803, z803⟩, zi6⟩ := z8u.virtualBack hx (y := own_m1) (z := own_m1) hown (mvT hZ (own_W hw 49 rfl)) (mvT hZ (own_W hw 50 rfl)) (notFace_of_selects (args := #[]) (mvT hZ (own_W hw 52 rfl))) (mvT hZ (own_W hw 52 rfl)) (mvT hZ (own_W hw 51 rfl)) (by decide) (backOf (W := 0) (rmF2 l Z a0 hw [] zc3.heap n0 A K (0 : Int32) (0 : Int32) (2 : Int32) p4 p5 p6 z1 z2d z2e z4p z6g EN zc6 zi2 zi1 zi3 zi4) hZ (own_W hw 53 rfl) (own_W hw 6 rfl) (by decide) (by decide)) zz1 zz2 (g := (mkF m 184 #[.val (.int p1), .val (.int p2), .val (.int p3), .val (.int p4), .val (.int p5), .val (.int p6), .val (.int (p1 % 3)), .val (.int (p2 % 3)), .val (.int (p3 % 3)), .val (.int 2), .val (.int 0), .val (.int 1), .val (.ref z1), .val (.int p5), .unset, .unset] [(.ref z1)])) rfl (by rw [hml]; rfl) (Steps.refl _) (argsL := []) (rest := []) (lenOf own_pd8 rfl) rfl (by show 2 * 0 + _ ≤ _; exact Nat.le_of_eq rfl) (hb hby at_184) (fun _ _ => ⟨rfl, rfl, (by decide : 8 + 0 ≤ _), (by decide : 121 + 0 ≤ _)⟩)
        dsimp only [Pt.U, Pt.locs, Pt.cells, Pt.slots] at z73 l803 y803 z803 zi6 zi5
        replace z73 := own_sub z73 l803 y803 z803
        obtain ⟨rfl, zz4, zi7⟩ := zi5
        have zz5 := Fr.app zyz zz4
        obtain ⟨cq804, kq804, zz6, z1jq, zz7⟩ := isOf hZ zi7 zc5
        obtain ⟨_, _, ⟨z8v, L804, z1jr, n804⟩, -, z8w, ⟨Lc804, zi8, l804, y804, z804⟩, zi9⟩ := z73.virtualBack hx (y := own_m3) (z := own_m3) hown (mvT hZ (own_W hw 54 rfl)) (mvT hZ (own_W hw 55 rfl)) (notFace_of_selects (args := #[]) (mvT hZ (own_W hw 57 rfl))) (mvT hZ (own_W hw 57 rfl)) (mvT hZ (own_W hw 56 rfl)) (by decide) (backOf (W := 0) (rmR2 l Z a0 hw [] zc3.heap n0 A K (p3 % 3) (p1 % 3) (p3 % 3) (((0 : Int64) + (1 : Int64)) + (1 : Int64)) (0 : Int64) (((0 : Int64) + (1 : Int64)) + (1 : Int64)) (2 : Int32) (0 : Int32) (2 : Int32) (0 : Int32) (0 : Int32) (0 : Int32) (0 : Int32) (0 : Int32) (0 : Int32) ((((0 : Int64) + (1 : Int64)) + (1 : Int64)) + (1 : Int64)) z1 z5f z5g z2d z2e z5h z5i z5j z6w z6x z4p z6y z6z EN zc6 zi1 zi3 zyq zyw zyr zys zyy zc5 zyn zyu zyo zyv zi2 zyp zyt zyx (by decide) (by decide) (Nat.ne_of_lt z8n) (Nat.ne_of_lt (Nat.lt_trans (Nat.lt_trans z7 zd) zl)) (Nat.ne_of_lt zx) (Nat.ne_of_lt z8o) (Nat.ne_of_lt (Nat.lt_trans (Nat.lt_trans (Nat.lt_trans (Nat.lt_trans zw zk) z7) zd) zl)) (Nat.ne_of_lt (Nat.lt_trans (Nat.lt_trans (Nat.lt_trans (Nat.lt_trans (Nat.lt_trans zw zk) z7) zd) zl) zx)) (Nat.ne_of_lt z8j) (Nat.ne_of_lt (Nat.lt_trans (Nat.lt_trans (Nat.lt_trans zk z7) zd) zl)) (Nat.ne_of_lt (Nat.lt_trans (Nat.lt_trans (Nat.lt_trans (Nat.lt_trans zk z7) zd) zl) zx)) (Nat.ne_of_lt z8k) (Nat.ne_of_lt (Nat.lt_trans (Nat.lt_trans (Nat.lt_trans z7 zd) zl) zx)) (Nat.ne_of_lt z8l) (Nat.ne_of_lt zw) (Nat.ne_of_lt (Nat.lt_trans zw zk)) (Nat.ne_of_lt zk) z3f zam z1x z3c z3d z3e) hZ (own_W hw 58 rfl) (own_W hw 6 rfl) (by decide) (by decide)) zz6 zz7 (g := (mkF m 191 #[.val (.int p1), .val (.int p2), .val (.int p3), .val (.int p4), .val (.int p5), .val (.int p6), .val (.int (p1 % 3)), .val (.int (p2 % 3)), .val (.int (p3 % 3)), .val (.int 2), .val (.int 0), .val (.int 1), .val (.ref z1), .val (.int p5), .val (.int p6), .unset] [(.ref z1)])) rfl (by rw [hml]; rfl) (Steps.refl _) (argsL := []) (rest := []) (lenOf own_pd6 rfl) rfl (by show 2 * 0 + _ ≤ _; exact Nat.le_of_eq rfl) (hb hby at_191) (fun _ _ => ⟨rfl, zi7, (by decide : 8 + 0 ≤ _), (by decide : 121 + 0 ≤ _)⟩)
        dsimp only [Pt.U, Pt.locs, Pt.cells, Pt.slots] at z8w l804 y804 z804 zi9 zi8
        replace z8w := own_sub z8w l804 y804 z804
        obtain ⟨rfl, zz8, zc7, zz9, z1js, z1jt, zza, zzb, z1ju, z1jv, z1jw, z1jx, z1jy, z1jz, z1k0, zzc, z1k1, z1k2, z1k3⟩ := zi8
        have zzd := Fr.app zz5 zz8
        have zao := zc6.keep zc7 (allS z3f (allS zam (allS z1x (allS z3e (allS z3d (allS z3c all0))))))
        have z1k4 := zz0.trans zc7 (allS (Or.inr z8s) (allS (Or.inr zhe) (allS (Or.inr z6v) (allS (Or.inr z8r) (allS (Or.inr z8q) (allS (Or.inr z8p) all0))))))
        have zze := (zi4.keep zc7 (ninS (Nat.ne_of_lt (Nat.lt_trans zd zl)) (ninS (Nat.ne_of_lt (Nat.lt_trans (Nat.lt_trans zd zl) zx)) (ninS (Ne.symm (Nat.ne_of_lt z8m)) (ninS (Ne.symm (Nat.ne_of_lt z7)) (ninS (Ne.symm (Nat.ne_of_lt (Nat.lt_trans zk z7))) (ninS (Ne.symm (Nat.ne_of_lt (Nat.lt_trans (Nat.lt_trans zw zk) z7))) nin0)))))))
        obtain ⟨cq806, kq806, zzf, z1k5, zzg⟩ := isOf hZ rfl zz9
        obtain ⟨_, _, ⟨zzh, L806, z1k6, n806⟩, -, z1d, ⟨Lc806, zia, l806, y806, z806⟩, zib⟩ := z8w.virtualBack hx (y := own_m1) (z := own_m1) hown (mvT hZ (own_W hw 49 rfl)) (mvT hZ (own_W hw 50 rfl)) (notFace_of_selects (args := #[]) (mvT hZ (own_W hw 52 rfl))) (mvT hZ (own_W hw 52 rfl)) (mvT hZ (own_W hw 51 rfl)) (by decide) (backOf (W := 0) (rmF0 l Z a0 hw [] z8v.heap n0 A K (0 : Int32) (0 : Int32) (2 : Int32) p4 p5 p6 z1 z2d z2e z4p z6g EN zao zzb zza zzc zze) hZ (own_W hw 53 rfl) (own_W hw 6 rfl) (by decide) (by decide)) zzf zzg (g := (mkF m 196 #[.val (.int p1), .val (.int p2), .val (.int p3), .val (.int p4), .val (.int p5), .val (.int p6), .val (.int (p1 % 3)), .val (.int (p2 % 3)), .val (.int (p3 % 3)), .val (.int 2), .val (.int 0), .val (.int 1), .val (.ref z1), .val (.int p5), .val (.int p6), .unset] [(.ref z1)])) rfl (by rw [hml]; rfl) (Steps.refl _) (argsL := []) (rest := []) (lenOf own_pd8 rfl) rfl (by show 2 * 0 + _ ≤ _; exact Nat.le_of_eq rfl) (hb hby at_196) (fun _ _ => ⟨rfl, rfl, (by decide : 8 + 0 ≤ _), (by decide : 121 + 0 ≤ _)⟩)
        dsimp only [Pt.U, Pt.locs, Pt.cells, Pt.slots] at z1d l806 y806 z806 zib zia
        replace z1d := own_sub z1d l806 y806 z806
        obtain ⟨rfl, zzi, zzj⟩ := zia
        have zzk := Fr.app zzd zzi
        obtain ⟨_, _, ⟨zic, L807, z1k7, n807⟩, -, z1e, ⟨Lc807, zid, l807, y807, z807⟩, zie⟩ := Jvm.LawKit.callS z1d hx (y := own_m5) hown (mvT hZ (own_W hw 70 rfl)) (mvT hZ (own_W hw 71 rfl)) (mvT hZ (own_W hw 2 rfl)) (mvT hZ (own_W hw 72 rfl)) (by decide) (backOf (W := 1) (rmK1 l Z a0 hw [] z8v.heap n0 A K (0 : Int32) (2 : Int32) (0 : Int32) (1 : Int32) p4 p5 p6 EN zao (by decide) (by decide)) hZ (own_W hw 72 rfl) (own_W hw 2 rfl) (by decide) (by decide)) (g := (mkF m 215 #[.val (.int p1), .val (.int p2), .val (.int p3), .val (.int p4), .val (.int p5), .val (.int p6), .val (.int (p1 % 3)), .val (.int (p2 % 3)), .val (.int (p3 % 3)), .val (.int 2), .val (.int 0), .val (.int 1), .val (.ref z1), .val (.int p5), .val (.int p6), .val (.int p4)] [(.int p6), (.int p5), (.int p4), (.int 1), (.int 0), (.int 2), (.int 0), (.int p5)])) rfl (by rw [hml]; rfl) (argsL := [(.int 0), (.int 2), (.int 0), (.int 1), (.int p4), (.int p5), (.int p6)]) (rest := [(.int p5)]) (lenOf own_pd9 rfl) rfl (by show 2 * 0 + _ ≤ _; exact Nat.le_of_eq rfl) (hb hby at_215) (fun _ _ => ⟨rfl, zzj, (by decide : 8 + 0 ≤ _), (by decide : 121 + 0 ≤ _)⟩)
        dsimp only [Pt.U, Pt.locs, Pt.cells, Pt.slots] at z1e l807 y807 z807 zie zid
        replace z1e := own_sub z1e l807 y807 z807
        obtain ⟨rfl, zzl, zzm⟩ := zid
        have zzn := Fr.app zzk zzl
        obtain ⟨_, _, ⟨zif, L808, z1k8, n808⟩, -, z1f, ⟨Lc808, zig, l808, y808, z808⟩, zih⟩ := Jvm.LawKit.callS z1e hx (y := own_m5) hown (mvT hZ (own_W hw 70 rfl)) (mvT hZ (own_W hw 71 rfl)) (mvT hZ (own_W hw 2 rfl)) (mvT hZ (own_W hw 72 rfl)) (by decide) (backOf (W := 1) (rmK2 l Z a0 hw [] z8v.heap n0 A K (1 : Int32) (2 : Int32) (0 : Int32) (1 : Int32) p4 p5 p6 EN zao (by decide) (by decide)) hZ (own_W hw 72 rfl) (own_W hw 2 rfl) (by decide) (by decide)) (g := (mkF m 235 #[.val (.int p1), .val (.int p2), .val (.int p3), .val (.int p4), .val (.int p5), .val (.int p6), .val (.int (p1 % 3)), .val (.int (p2 % 3)), .val (.int (p3 % 3)), .val (.int 2), .val (.int 0), .val (.int 1), .val (.ref z1), .val (.int p5), .val (.int p6), .val (.int p4)] [(.int p6), (.int p5), (.int p4), (.int 1), (.int 0), (.int 2), (.int 1), (.int p6)])) rfl (by rw [hml]; rfl) (argsL := [(.int 1), (.int 2), (.int 0), (.int 1), (.int p4), (.int p5), (.int p6)]) (rest := [(.int p6)]) (lenOf own_pd9 rfl) rfl (by show 2 * 0 + _ ≤ _; exact Nat.le_of_eq rfl) (hb hby at_235) (fun _ _ => ⟨rfl, zzm, (by decide : 8 + 0 ≤ _), (by decide : 121 + 0 ≤ _)⟩)
        dsimp only [Pt.U, Pt.locs, Pt.cells, Pt.slots] at z1f l808 y808 z808 zih zig
        replace z1f := own_sub z1f l808 y808 z808
        obtain ⟨rfl, zzo, zzp⟩ := zig
        have zzq := Fr.app zzn zzo
        obtain ⟨_, _, ⟨zc8, L809, z1k9, n809⟩, -, z5k, ⟨Lc809, zii, l809, y809, z809⟩, zij⟩ := Jvm.LawKit.callS z1f hx (y := own_m5) hown (mvT hZ (own_W hw 70 rfl)) (mvT hZ (own_W hw 71 rfl)) (mvT hZ (own_W hw 2 rfl)) (mvT hZ (own_W hw 72 rfl)) (by decide) (backOf (W := 1) (rmK0 l Z a0 hw [] z8v.heap n0 A K (2 : Int32) (2 : Int32) (0 : Int32) (1 : Int32) p4 p5 p6 EN zao (by decide)) hZ (own_W hw 72 rfl) (own_W hw 2 rfl) (by decide) (by decide)) (g := (mkF m 255 #[.val (.int p1), .val (.int p2), .val (.int p3), .val (.int p4), .val (.int p5), .val (.int p6), .val (.int (p1 % 3)), .val (.int (p2 % 3)), .val (.int (p3 % 3)), .val (.int 2), .val (.int 0), .val (.int 1), .val (.ref z1), .val (.int p5), .val (.int p6), .val (.int p4)] [(.int p6), (.int p5), (.int p4), (.int 1), (.int 0), (.int 2), (.int 2), (.int p4)])) rfl (by rw [hml]; rfl) (argsL := [(.int 2), (.int 2), (.int 0), (.int 1), (.int p4), (.int p5), (.int p6)]) (rest := [(.int p4)]) (lenOf own_pd9 rfl) rfl (by show 2 * 0 + _ ≤ _; exact Nat.le_of_eq rfl) (hb hby at_255) (fun _ _ => ⟨rfl, zzp, (by decide : 8 + 0 ≤ _), (by decide : 121 + 0 ≤ _)⟩)
        dsimp only [Pt.U, Pt.locs, Pt.cells, Pt.slots] at z5k l809 y809 z809 zij zii
        replace z5k := own_sub z5k l809 y809 z809
        obtain ⟨rfl, zzr, z1ka⟩ := zii
        have zzs := Fr.app zzq zzr
        obtain ⟨fs, hr, hrun, hended, hW, hsame⟩ := z5k.leave (v := some (.int 1)) (fun h => by rw [Bd.returns] at h; cases h)
        refine ⟨_, _, pre0 _ ?_, hrun, hended, _, _, rfl, ?_, ⟨_, rfl⟩, hW, hsame.mono (by decide) (by decide)⟩
        · show Steps p.tables e below (s₁.setTop (mkF m 0 #[.val (.int p1), .val (.int p2), .val (.int p3), .val (.int p4), .val (.int p5), .val (.int p6), .unset, .unset, .unset, .unset, .unset, .unset, .unset, .unset, .unset, .unset] [])) _
          refine XS.iloadN X0.here hx rfl (hb hby at_0) rfl ?_
          refine XS.iconst X0.here hx rfl (hb hby at_1) ?_
          refine iremM X0 hx rfl (hb hby at_2) rfl (by decide) ?_
          show Steps p.tables e below (s₁.setTop (mkF m 3 #[.val (.int p1), .val (.int p2), .val (.int p3), .val (.int p4), .val (.int p5), .val (.int p6), .unset, .unset, .unset, .unset, .unset, .unset, .unset, .unset, .unset, .unset] [(.int (p1 % 3))])) _
          refine XS.istore X0.here hx rfl (hb hby at_3) rfl (l' := #[.val (.int p1), .val (.int p2), .val (.int p3), .val (.int p4), .val (.int p5), .val (.int p6), .val (.int (p1 % 3)), .unset, .unset, .unset, .unset, .unset, .unset, .unset, .unset, .unset]) rfl ?_
          refine XS.iloadN X0.here hx rfl (hb hby at_5) rfl ?_
          refine XS.iconst X0.here hx rfl (hb hby at_6) ?_
          refine iremM X0 hx rfl (hb hby at_7) rfl (by decide) ?_
          show Steps p.tables e below (s₁.setTop (mkF m 8 #[.val (.int p1), .val (.int p2), .val (.int p3), .val (.int p4), .val (.int p5), .val (.int p6), .val (.int (p1 % 3)), .unset, .unset, .unset, .unset, .unset, .unset, .unset, .unset, .unset] [(.int (p2 % 3))])) _
          refine XS.istore X0.here hx rfl (hb hby at_8) rfl (l' := #[.val (.int p1), .val (.int p2), .val (.int p3), .val (.int p4), .val (.int p5), .val (.int p6), .val (.int (p1 % 3)), .val (.int (p2 % 3)), .unset, .unset, .unset, .unset, .unset, .unset, .unset, .unset]) rfl ?_
          refine XS.iloadN X0.here hx rfl (hb hby at_10) rfl ?_
          refine XS.iconst X0.here hx rfl (hb hby at_11) ?_
          refine iremM X0 hx rfl (hb hby at_12) rfl (by decide) ?_
          show Steps p.tables e below (s₁.setTop (mkF m 13 #[.val (.int p1), .val (.int p2), .val (.int p3), .val (.int p4), .val (.int p5), .val (.int p6), .val (.int (p1 % 3)), .val (.int (p2 % 3)), .unset, .unset, .unset, .unset, .unset, .unset, .unset, .unset] [(.int (p3 % 3))])) _
          refine XS.istore X0.here hx rfl (hb hby at_13) rfl (l' := #[.val (.int p1), .val (.int p2), .val (.int p3), .val (.int p4), .val (.int p5), .val (.int p6), .val (.int (p1 % 3)), .val (.int (p2 % 3)), .val (.int (p3 % 3)), .unset, .unset, .unset, .unset, .unset, .unset, .unset]) rfl ?_
          refine XS.iload X0.here hx rfl (hb hby at_15) rfl ?_
          refine XS.iconst X0.here hx rfl (hb hby at_17) ?_
          refine XS.iload X0.here hx rfl (hb hby at_18) rfl ?_
          refine XS.iconst X0.here hx rfl (hb hby at_20) ?_
          refine zgl _ ?_
          show Steps p.tables e below (zgj.setTop (mkF m 24 #[.val (.int p1), .val (.int p2), .val (.int p3), .val (.int p4), .val (.int p5), .val (.int p6), .val (.int (p1 % 3)), .val (.int (p2 % 3)), .val (.int (p3 % 3)), .unset, .unset, .unset, .unset, .unset, .unset, .unset] [(.int (own_f_rmB (p2 % 3) (1 : Int32) (p1 % 3) (0 : Int32)))])) _
          refine XS.ifNo z2b.here hx rfl (hb hby at_24) rfl ((if0 _ _).trans (feq (own_bf_y1 z16)).1) ?_
          show Steps p.tables e below (zgj.setTop (mkF m 27 #[.val (.int p1), .val (.int p2), .val (.int p3), .val (.int p4), .val (.int p5), .val (.int p6), .val (.int (p1 % 3)), .val (.int (p2 % 3)), .val (.int (p3 % 3)), .unset, .unset, .unset, .unset, .unset, .unset, .unset] [])) _
          refine XS.iconst z2b.here hx rfl (hb hby at_27) ?_
          refine XS.goto z2b.here hx rfl (pc0 := 28) (pc' := 32) rfl (hb hby at_28) (by decide) (by decide) ?_
          refine XS.iload z2b.here hx rfl (hb hby at_32) rfl ?_
          refine XS.iconst z2b.here hx rfl (hb hby at_34) ?_
          refine XS.iload z2b.here hx rfl (hb hby at_35) rfl ?_
          refine XS.iconst z2b.here hx rfl (hb hby at_37) ?_
          refine zgn _ ?_
          show Steps p.tables e below (zbp.setTop (mkF m 41 #[.val (.int p1), .val (.int p2), .val (.int p3), .val (.int p4), .val (.int p5), .val (.int p6), .val (.int (p1 % 3)), .val (.int (p2 % 3)), .val (.int (p3 % 3)), .unset, .unset, .unset, .unset, .unset, .unset, .unset] [(.int (own_f_rmB (p3 % 3) (2 : Int32) (p1 % 3) (0 : Int32))), (.int 1)])) _
          refine XS.ifNo z1c.here hx rfl (hb hby at_41) rfl ((if0 _ _).trans (feq (own_bf_y1 z55)).1) ?_
          show Steps p.tables e below (zbp.setTop (mkF m 44 #[.val (.int p1), .val (.int p2), .val (.int p3), .val (.int p4), .val (.int p5), .val (.int p6), .val (.int (p1 % 3)), .val (.int (p2 % 3)), .val (.int (p3 % 3)), .unset, .unset, .unset, .unset, .unset, .unset, .unset] [(.int 1)])) _
          refine XS.iconst z1c.here hx rfl (hb hby at_44) ?_
          refine XS.goto z1c.here hx rfl (pc0 := 45) (pc' := 49) rfl (hb hby at_45) (by decide) (by decide) ?_
          refine XS.iadd z1c.here hx rfl (hb hby at_49) rfl ?_
          show Steps p.tables e below (zbp.setTop (mkF m 50 #[.val (.int p1), .val (.int p2), .val (.int p3), .val (.int p4), .val (.int p5), .val (.int p6), .val (.int (p1 % 3)), .val (.int (p2 % 3)), .val (.int (p3 % 3)), .unset, .unset, .unset, .unset, .unset, .unset, .unset] [(.int 2)])) _
          refine XS.istore z1c.here hx rfl (hb hby at_50) rfl (l' := #[.val (.int p1), .val (.int p2), .val (.int p3), .val (.int p4), .val (.int p5), .val (.int p6), .val (.int (p1 % 3)), .val (.int (p2 % 3)), .val (.int (p3 % 3)), .val (.int 2), .unset, .unset, .unset, .unset, .unset, .unset]) rfl ?_
          refine XS.iload z1c.here hx rfl (hb hby at_52) rfl ?_
          refine XS.iconst z1c.here hx rfl (hb hby at_54) ?_
          refine XS.iload z1c.here hx rfl (hb hby at_55) rfl ?_
          refine XS.iconst z1c.here hx rfl (hb hby at_57) ?_
          refine zgq _ ?_
          show Steps p.tables e below (zgo.setTop (mkF m 61 #[.val (.int p1), .val (.int p2), .val (.int p3), .val (.int p4), .val (.int p5), .val (.int p6), .val (.int (p1 % 3)), .val (.int (p2 % 3)), .val (.int (p3 % 3)), .val (.int 2), .unset, .unset, .unset, .unset, .unset, .unset] [(.int (own_f_rmB (p1 % 3) (0 : Int32) (p2 % 3) (1 : Int32)))])) _
          refine XS.ifYes z38.here hx rfl (pc0 := 61) (pc' := 68) rfl (hb hby at_61) rfl ((if0 _ _).trans (teq (own_bf_n1 z16)).1) (by decide) (by decide) ?_
          show Steps p.tables e below (zgo.setTop (mkF m 68 #[.val (.int p1), .val (.int p2), .val (.int p3), .val (.int p4), .val (.int p5), .val (.int p6), .val (.int (p1 % 3)), .val (.int (p2 % 3)), .val (.int (p3 % 3)), .val (.int 2), .unset, .unset, .unset, .unset, .unset, .unset] [])) _
          refine XS.iconst z38.here hx rfl (hb hby at_68) ?_
          refine XS.iload z38.here hx rfl (hb hby at_69) rfl ?_
          refine XS.iconst z38.here hx rfl (hb hby at_71) ?_
          refine XS.iload z38.here hx rfl (hb hby at_72) rfl ?_
          refine XS.iconst z38.here hx rfl (hb hby at_74) ?_
          refine zgs _ ?_
          show Steps p.tables e below (zbq.setTop (mkF m 78 #[.val (.int p1), .val (.int p2), .val (.int p3), .val (.int p4), .val (.int p5), .val (.int p6), .val (.int (p1 % 3)), .val (.int (p2 % 3)), .val (.int (p3 % 3)), .val (.int 2), .unset, .unset, .unset, .unset, .unset, .unset] [(.int (own_f_rmB (p3 % 3) (2 : Int32) (p2 % 3) (1 : Int32))), (.int 0)])) _
          refine XS.ifYes z1w.here hx rfl (pc0 := 78) (pc' := 85) rfl (hb hby at_78) rfl ((if0 _ _).trans (teq (own_bf_n2 z6l (by decide))).1) (by decide) (by decide) ?_
          show Steps p.tables e below (zbq.setTop (mkF m 85 #[.val (.int p1), .val (.int p2), .val (.int p3), .val (.int p4), .val (.int p5), .val (.int p6), .val (.int (p1 % 3)), .val (.int (p2 % 3)), .val (.int (p3 % 3)), .val (.int 2), .unset, .unset, .unset, .unset, .unset, .unset] [(.int 0)])) _
          refine XS.iconst z1w.here hx rfl (hb hby at_85) ?_
          refine XS.iadd z1w.here hx rfl (hb hby at_86) rfl ?_
          show Steps p.tables e below (zbq.setTop (mkF m 87 #[.val (.int p1), .val (.int p2), .val (.int p3), .val (.int p4), .val (.int p5), .val (.int p6), .val (.int (p1 % 3)), .val (.int (p2 % 3)), .val (.int (p3 % 3)), .val (.int 2), .unset, .unset, .unset, .unset, .unset, .unset] [(.int 0)])) _
          refine XS.istore z1w.here hx rfl (hb hby at_87) rfl (l' := #[.val (.int p1), .val (.int p2), .val (.int p3), .val (.int p4), .val (.int p5), .val (.int p6), .val (.int (p1 % 3)), .val (.int (p2 % 3)), .val (.int (p3 % 3)), .val (.int 2), .val (.int 0), .unset, .unset, .unset, .unset, .unset]) rfl ?_
          refine XS.iload z1w.here hx rfl (hb hby at_89) rfl ?_
          refine XS.iconst z1w.here hx rfl (hb hby at_91) ?_
          refine XS.iload z1w.here hx rfl (hb hby at_92) rfl ?_
          refine XS.iconst z1w.here hx rfl (hb hby at_94) ?_
          refine zgv _ ?_
          show Steps p.tables e below (zgt.setTop (mkF m 98 #[.val (.int p1), .val (.int p2), .val (.int p3), .val (.int p4), .val (.int p5), .val (.int p6), .val (.int (p1 % 3)), .val (.int (p2 % 3)), .val (.int (p3 % 3)), .val (.int 2), .val (.int 0), .unset, .unset, .unset, .unset, .unset] [(.int (own_f_rmB (p1 % 3) (0 : Int32) (p3 % 3) (2 : Int32)))])) _
          refine XS.ifYes z39.here hx rfl (pc0 := 98) (pc' := 105) rfl (hb hby at_98) rfl ((if0 _ _).trans (teq (own_bf_n1 z55)).1) (by decide) (by decide) ?_
          show Steps p.tables e below (zgt.setTop (mkF m 105 #[.val (.int p1), .val (.int p2), .val (.int p3), .val (.int p4), .val (.int p5), .val (.int p6), .val (.int (p1 % 3)), .val (.int (p2 % 3)), .val (.int (p3 % 3)), .val (.int 2), .val (.int 0), .unset, .unset, .unset, .unset, .unset] [])) _
          refine XS.iconst z39.here hx rfl (hb hby at_105) ?_
          refine XS.iload z39.here hx rfl (hb hby at_106) rfl ?_
          refine XS.iconst z39.here hx rfl (hb hby at_108) ?_
          refine XS.iload z39.here hx rfl (hb hby at_109) rfl ?_
          refine XS.iconst z39.here hx rfl (hb hby at_111) ?_
          refine zgx _ ?_
          show Steps p.tables e below (zbr.setTop (mkF m 115 #[.val (.int p1), .val (.int p2), .val (.int p3), .val (.int p4), .val (.int p5), .val (.int p6), .val (.int (p1 % 3)), .val (.int (p2 % 3)), .val (.int (p3 % 3)), .val (.int 2), .val (.int 0), .unset, .unset, .unset, .unset, .unset] [(.int (own_f_rmB (p2 % 3) (1 : Int32) (p3 % 3) (2 : Int32))), (.int 0)])) _
          refine XS.ifNo z4m.here hx rfl (hb hby at_115) rfl ((if0 _ _).trans (feq (own_bf_y2 z6l (by decide))).1) ?_
          show Steps p.tables e below (zbr.setTop (mkF m 118 #[.val (.int p1), .val (.int p2), .val (.int p3), .val (.int p4), .val (.int p5), .val (.int p6), .val (.int (p1 % 3)), .val (.int (p2 % 3)), .val (.int (p3 % 3)), .val (.int 2), .val (.int 0), .unset, .unset, .unset, .unset, .unset] [(.int 0)])) _
          refine XS.iconst z4m.here hx rfl (hb hby at_118) ?_
          refine XS.goto z4m.here hx rfl (pc0 := 119) (pc' := 123) rfl (hb hby at_119) (by decide) (by decide) ?_
          refine XS.iadd z4m.here hx rfl (hb hby at_123) rfl ?_
          show Steps p.tables e below (zbr.setTop (mkF m 124 #[.val (.int p1), .val (.int p2), .val (.int p3), .val (.int p4), .val (.int p5), .val (.int p6), .val (.int (p1 % 3)), .val (.int (p2 % 3)), .val (.int (p3 % 3)), .val (.int 2), .val (.int 0), .unset, .unset, .unset, .unset, .unset] [(.int 1)])) _
          refine XS.istore z4m.here hx rfl (hb hby at_124) rfl (l' := #[.val (.int p1), .val (.int p2), .val (.int p3), .val (.int p4), .val (.int p5), .val (.int p6), .val (.int (p1 % 3)), .val (.int (p2 % 3)), .val (.int (p3 % 3)), .val (.int 2), .val (.int 0), .val (.int 1), .unset, .unset, .unset, .unset]) rfl ?_
          refine zh0 _ ?_
          show Steps p.tables e below (zvr.setTop (mkF m 129 #[.val (.int p1), .val (.int p2), .val (.int p3), .val (.int p4), .val (.int p5), .val (.int p6), .val (.int (p1 % 3)), .val (.int (p2 % 3)), .val (.int (p3 % 3)), .val (.int 2), .val (.int 0), .val (.int 1), .unset, .unset, .unset, .unset] [(.ref z1)])) _
          refine XS.dup zgy.here hx rfl (hb hby at_129) rfl rfl ?_
          refine zh3.trans ?_
          show Steps p.tables e below (z4o.setTop (mkF m 133 #[.val (.int p1), .val (.int p2), .val (.int p3), .val (.int p4), .val (.int p5), .val (.int p6), .val (.int (p1 % 3)), .val (.int (p2 % 3)), .val (.int (p3 % 3)), .val (.int 2), .val (.int 0), .val (.int 1), .unset, .unset, .unset, .unset] [(.ref z1)])) _
          refine XS.astore z2c.here hx rfl (hb hby at_133) rfl rfl (l' := #[.val (.int p1), .val (.int p2), .val (.int p3), .val (.int p4), .val (.int p5), .val (.int p6), .val (.int (p1 % 3)), .val (.int (p2 % 3)), .val (.int (p3 % 3)), .val (.int 2), .val (.int 0), .val (.int 1), .val (.ref z1), .unset, .unset, .unset]) rfl ?_
          refine XS.aload z2c.here hx rfl (hb hby at_135) rfl rfl ?_
          refine XS.iload z2c.here hx rfl (hb hby at_137) rfl ?_
          refine XS.i2dS z2c.here hx rfl (hb hby at_139) rfl (i2d_w _) ?_
          show Steps p.tables e below (z4o.setTop (mkF m 140 #[.val (.int p1), .val (.int p2), .val (.int p3), .val (.int p4), .val (.int p5), .val (.int p6), .val (.int (p1 % 3)), .val (.int (p2 % 3)), .val (.int (p3 % 3)), .val (.int 2), .val (.int 0), .val (.int 1), .val (.ref z1), .unset, .unset, .unset] [(.double (Jvm.FP.l2d ((p1 % 3).toInt64))), (.ref z1)])) _
          refine XS.iloadN z2c.here hx rfl (hb hby at_140) rfl ?_
          refine XS.iconst z2c.here hx rfl (hb hby at_141) ?_
          refine XS.aconstNull z2c.here hx rfl (hb hby at_142) ?_
          refine zhh.trans ?_
          show Steps p.tables e below (zbw.setTop (mkF m 146 #[.val (.int p1), .val (.int p2), .val (.int p3), .val (.int p4), .val (.int p5), .val (.int p6), .val (.int (p1 % 3)), .val (.int (p2 % 3)), .val (.int (p3 % 3)), .val (.int 2), .val (.int 0), .val (.int 1), .val (.ref z1), .unset, .unset, .unset] [])) _
          refine XS.aload z3g.here hx rfl (hb hby at_146) rfl rfl ?_
          refine XS.iload z3g.here hx rfl (hb hby at_148) rfl ?_
          refine XS.i2dS z3g.here hx rfl (hb hby at_150) rfl (i2d_w _) ?_
          show Steps p.tables e below (zbw.setTop (mkF m 151 #[.val (.int p1), .val (.int p2), .val (.int p3), .val (.int p4), .val (.int p5), .val (.int p6), .val (.int (p1 % 3)), .val (.int (p2 % 3)), .val (.int (p3 % 3)), .val (.int 2), .val (.int 0), .val (.int 1), .val (.ref z1), .unset, .unset, .unset] [(.double (Jvm.FP.l2d ((p2 % 3).toInt64))), (.ref z1)])) _
          refine XS.iload z3g.here hx rfl (hb hby at_151) rfl ?_
          refine XS.iconst z3g.here hx rfl (hb hby at_153) ?_
          refine XS.aconstNull z3g.here hx rfl (hb hby at_154) ?_
          refine zhm.trans ?_
          show Steps p.tables e below (zby.setTop (mkF m 158 #[.val (.int p1), .val (.int p2), .val (.int p3), .val (.int p4), .val (.int p5), .val (.int p6), .val (.int (p1 % 3)), .val (.int (p2 % 3)), .val (.int (p3 % 3)), .val (.int 2), .val (.int 0), .val (.int 1), .val (.ref z1), .unset, .unset, .unset] [])) _
          refine XS.aload z3h.here hx rfl (hb hby at_158) rfl rfl ?_
          refine XS.iload z3h.here hx rfl (hb hby at_160) rfl ?_
          refine XS.i2dS z3h.here hx rfl (hb hby at_162) rfl (i2d_w _) ?_
          show Steps p.tables e below (zby.setTop (mkF m 163 #[.val (.int p1), .val (.int p2), .val (.int p3), .val (.int p4), .val (.int p5), .val (.int p6), .val (.int (p1 % 3)), .val (.int (p2 % 3)), .val (.int (p3 % 3)), .val (.int 2), .val (.int 0), .val (.int 1), .val (.ref z1), .unset, .unset, .unset] [(.double (Jvm.FP.l2d ((p3 % 3).toInt64))), (.ref z1)])) _
          refine XS.iload z3h.here hx rfl (hb hby at_163) rfl ?_
          refine XS.iconst z3h.here hx rfl (hb hby at_165) ?_
          refine XS.aconstNull z3h.here hx rfl (hb hby at_166) ?_
          refine zhr.trans ?_
          show Steps p.tables e below (zan.setTop (mkF m 170 #[.val (.int p1), .val (.int p2), .val (.int p3), .val (.int p4), .val (.int p5), .val (.int p6), .val (.int (p1 % 3)), .val (.int (p2 % 3)), .val (.int (p3 % 3)), .val (.int 2), .val (.int 0), .val (.int 1), .val (.ref z1), .unset, .unset, .unset] [])) _
          refine XS.aload z8t.here hx rfl (hb hby at_170) rfl rfl ?_
          refine zhx.trans ?_
          show Steps p.tables e below (zyf.setTop (mkF m 175 #[.val (.int p1), .val (.int p2), .val (.int p3), .val (.int p4), .val (.int p5), .val (.int p6), .val (.int (p1 % 3)), .val (.int (p2 % 3)), .val (.int (p3 % 3)), .val (.int 2), .val (.int 0), .val (.int 1), .val (.ref z1), .unset, .unset, .unset] [(.int p5)])) _
          refine XS.istore z72.here hx rfl (hb hby at_175) rfl (l' := #[.val (.int p1), .val (.int p2), .val (.int p3), .val (.int p4), .val (.int p5), .val (.int p6), .val (.int (p1 % 3)), .val (.int (p2 % 3)), .val (.int (p3 % 3)), .val (.int 2), .val (.int 0), .val (.int 1), .val (.ref z1), .val (.int p5), .unset, .unset]) rfl ?_
          refine XS.aload z72.here hx rfl (hb hby at_177) rfl rfl ?_
          refine zi0.trans ?_
          show Steps p.tables e below (zc3.setTop (mkF m 182 #[.val (.int p1), .val (.int p2), .val (.int p3), .val (.int p4), .val (.int p5), .val (.int p6), .val (.int (p1 % 3)), .val (.int (p2 % 3)), .val (.int (p3 % 3)), .val (.int 2), .val (.int 0), .val (.int 1), .val (.ref z1), .val (.int p5), .unset, .unset] [])) _
          refine XS.aload z8u.here hx rfl (hb hby at_182) rfl rfl ?_
          refine zi6.trans ?_
          show Steps p.tables e below (zz3.setTop (mkF m 187 #[.val (.int p1), .val (.int p2), .val (.int p3), .val (.int p4), .val (.int p5), .val (.int p6), .val (.int (p1 % 3)), .val (.int (p2 % 3)), .val (.int (p3 % 3)), .val (.int 2), .val (.int 0), .val (.int 1), .val (.ref z1), .val (.int p5), .unset, .unset] [(.int p6)])) _
          refine XS.istore z73.here hx rfl (hb hby at_187) rfl (l' := #[.val (.int p1), .val (.int p2), .val (.int p3), .val (.int p4), .val (.int p5), .val (.int p6), .val (.int (p1 % 3)), .val (.int (p2 % 3)), .val (.int (p3 % 3)), .val (.int 2), .val (.int 0), .val (.int 1), .val (.ref z1), .val (.int p5), .val (.int p6), .unset]) rfl ?_
          refine XS.aload z73.here hx rfl (hb hby at_189) rfl rfl ?_
          refine zi9.trans ?_
          show Steps p.tables e below (z8v.setTop (mkF m 194 #[.val (.int p1), .val (.int p2), .val (.int p3), .val (.int p4), .val (.int p5), .val (.int p6), .val (.int (p1 % 3)), .val (.int (p2 % 3)), .val (.int (p3 % 3)), .val (.int 2), .val (.int 0), .val (.int 1), .val (.ref z1), .val (.int p5), .val (.int p6), .unset] [])) _
          refine XS.aload z8w.here hx rfl (hb hby at_194) rfl rfl ?_
          refine zib.trans ?_
          show Steps p.tables e below (zzh.setTop (mkF m 199 #[.val (.int p1), .val (.int p2), .val (.int p3), .val (.int p4), .val (.int p5), .val (.int p6), .val (.int (p1 % 3)), .val (.int (p2 % 3)), .val (.int (p3 % 3)), .val (.int 2), .val (.int 0), .val (.int 1), .val (.ref z1), .val (.int p5), .val (.int p6), .unset] [(.int p4)])) _
          refine XS.istore z1d.here hx rfl (hb hby at_199) rfl (l' := #[.val (.int p1), .val (.int p2), .val (.int p3), .val (.int p4), .val (.int p5), .val (.int p6), .val (.int (p1 % 3)), .val (.int (p2 % 3)), .val (.int (p3 % 3)), .val (.int 2), .val (.int 0), .val (.int 1), .val (.ref z1), .val (.int p5), .val (.int p6), .val (.int p4)]) rfl ?_
          refine XS.iload z1d.here hx rfl (hb hby at_201) rfl ?_
          refine XS.iconst z1d.here hx rfl (hb hby at_203) ?_
          refine XS.iload z1d.here hx rfl (hb hby at_204) rfl ?_
          refine XS.iload z1d.here hx rfl (hb hby at_206) rfl ?_
          refine XS.iload z1d.here hx rfl (hb hby at_208) rfl ?_
          refine XS.iloadN z1d.here hx rfl (hb hby at_210) rfl ?_
          refine XS.iload z1d.here hx rfl (hb hby at_211) rfl ?_
          refine XS.iload z1d.here hx rfl (hb hby at_213) rfl ?_
          refine zie _ ?_
          show Steps p.tables e below (zic.setTop (mkF m 218 #[.val (.int p1), .val (.int p2), .val (.int p3), .val (.int p4), .val (.int p5), .val (.int p6), .val (.int (p1 % 3)), .val (.int (p2 % 3)), .val (.int (p3 % 3)), .val (.int 2), .val (.int 0), .val (.int 1), .val (.ref z1), .val (.int p5), .val (.int p6), .val (.int p4)] [(.int p5), (.int p5)])) _
          refine XS.icmpNo z1e.here hx rfl (hb hby at_218) rfl (teq (rfl : p5 = p5)).2 ?_
          show Steps p.tables e below (zic.setTop (mkF m 221 #[.val (.int p1), .val (.int p2), .val (.int p3), .val (.int p4), .val (.int p5), .val (.int p6), .val (.int (p1 % 3)), .val (.int (p2 % 3)), .val (.int (p3 % 3)), .val (.int 2), .val (.int 0), .val (.int 1), .val (.ref z1), .val (.int p5), .val (.int p6), .val (.int p4)] [])) _
          refine XS.iload z1e.here hx rfl (hb hby at_221) rfl ?_
          refine XS.iconst z1e.here hx rfl (hb hby at_223) ?_
          refine XS.iload z1e.here hx rfl (hb hby at_224) rfl ?_
          refine XS.iload z1e.here hx rfl (hb hby at_226) rfl ?_
          refine XS.iload z1e.here hx rfl (hb hby at_228) rfl ?_
          refine XS.iloadN z1e.here hx rfl (hb hby at_230) rfl ?_
          refine XS.iload z1e.here hx rfl (hb hby at_231) rfl ?_
          refine XS.iload z1e.here hx rfl (hb hby at_233) rfl ?_
          refine zih _ ?_
          show Steps p.tables e below (zif.setTop (mkF m 238 #[.val (.int p1), .val (.int p2), .val (.int p3), .val (.int p4), .val (.int p5), .val (.int p6), .val (.int (p1 % 3)), .val (.int (p2 % 3)), .val (.int (p3 % 3)), .val (.int 2), .val (.int 0), .val (.int 1), .val (.ref z1), .val (.int p5), .val (.int p6), .val (.int p4)] [(.int p6), (.int p6)])) _
          refine XS.icmpNo z1f.here hx rfl (hb hby at_238) rfl (teq (rfl : p6 = p6)).2 ?_
          show Steps p.tables e below (zif.setTop (mkF m 241 #[.val (.int p1), .val (.int p2), .val (.int p3), .val (.int p4), .val (.int p5), .val (.int p6), .val (.int (p1 % 3)), .val (.int (p2 % 3)), .val (.int (p3 % 3)), .val (.int 2), .val (.int 0), .val (.int 1), .val (.ref z1), .val (.int p5), .val (.int p6), .val (.int p4)] [])) _
          refine XS.iload z1f.here hx rfl (hb hby at_241) rfl ?_
          refine XS.iconst z1f.here hx rfl (hb hby at_243) ?_
          refine XS.iload z1f.here hx rfl (hb hby at_244) rfl ?_
          refine XS.iload z1f.here hx rfl (hb hby at_246) rfl ?_
          refine XS.iload z1f.here hx rfl (hb hby at_248) rfl ?_
          refine XS.iloadN z1f.here hx rfl (hb hby at_250) rfl ?_
          refine XS.iload z1f.here hx rfl (hb hby at_251) rfl ?_
          refine XS.iload z1f.here hx rfl (hb hby at_253) rfl ?_
          refine zij _ ?_
          show Steps p.tables e below (zc8.setTop (mkF m 258 #[.val (.int p1), .val (.int p2), .val (.int p3), .val (.int p4), .val (.int p5), .val (.int p6), .val (.int (p1 % 3)), .val (.int (p2 % 3)), .val (.int (p3 % 3)), .val (.int 2), .val (.int 0), .val (.int 1), .val (.ref z1), .val (.int p5), .val (.int p6), .val (.int p4)] [(.int p4), (.int p4)])) _
          refine XS.icmpNo z5k.here hx rfl (hb hby at_258) rfl (teq (rfl : p4 = p4)).2 ?_
          show Steps p.tables e below (zc8.setTop (mkF m 261 #[.val (.int p1), .val (.int p2), .val (.int p3), .val (.int p4), .val (.int p5), .val (.int p6), .val (.int (p1 % 3)), .val (.int (p2 % 3)), .val (.int (p3 % 3)), .val (.int 2), .val (.int 0), .val (.int 1), .val (.ref z1), .val (.int p5), .val (.int p6), .val (.int p4)] [])) _
          refine XS.iconst z5k.here hx rfl (hb hby at_261) ?_
          refine XS.goto z5k.here hx rfl (pc0 := 262) (pc' := 266) rfl (hb hby at_262) (by decide) (by decide) ?_
          exact retN z5k hx (t := .boolean) Bd.returns (by simp) (hb hby at_266) hr
        · show LQ n0 _ zc8.heap _
          exact ⟨rfl, zzs, trivial⟩
    · by_cases zc9 : (p3 % 3) < (p2 % 3)
      · exfalso; simp only [Int32.lt_iff_toInt_lt, ← Int32.toInt_inj] at *; omega
      · obtain ⟨_, _, ⟨zik, L811, z1kb, n811⟩, -, z2f, ⟨Lc811, zil, l811, y811, z811⟩, zim⟩ := Jvm.LawKit.callS X0 hx (y := own_m2) hown (mvT hZ (own_W hw 0 rfl)) (mvT hZ (own_W hw 1 rfl)) (mvT hZ (own_W hw 2 rfl)) (mvT hZ (own_W hw 3 rfl)) (by decide) (backOf (W := 0) (rmB l Z a0 hw [] h0 n0 A K (p2 % 3) (1 : Int32) (p1 % 3) (0 : Int32) EN OL0) hZ (own_W hw 3 rfl) (own_W hw 2 rfl) (by decide) (by decide)) (g := (mkF m 21 #[.val (.int p1), .val (.int p2), .val (.int p3), .val (.int p4), .val (.int p5), .val (.int p6), .val (.int (p1 % 3)), .val (.int (p2 % 3)), .val (.int (p3 % 3)), .unset, .unset, .unset, .unset, .unset, .unset, .unset] [(.int 0), (.int (p1 % 3)), (.int 1), (.int (p2 % 3))])) rfl (by rw [hml]; rfl) (argsL := [(.int (p2 % 3)), (.int 1), (.int (p1 % 3)), (.int 0)]) (rest := []) (lenOf own_pd4 rfl) rfl (by show 2 * 0 + _ ≤ _; exact Nat.le_of_eq rfl) (hb hby at_21) (fun _ _ => ⟨rfl, e0, (by decide : 0 + 0 ≤ _), (by decide : 0 + 0 ≤ _)⟩)
        dsimp only [Pt.U, Pt.locs, Pt.cells, Pt.slots] at z2f l811 y811 z811 zim zil
        replace z2f := own_sub z2f l811 y811 z811
        obtain ⟨rfl, zzt, zzu⟩ := zil
        have zzv := Fr.app N0 zzt
        obtain ⟨_, _, ⟨zca, L812, z1kc, n812⟩, -, z1y, ⟨Lc812, zin, l812, y812, z812⟩, zio⟩ := Jvm.LawKit.callS z2f hx (y := own_m2) hown (mvT hZ (own_W hw 0 rfl)) (mvT hZ (own_W hw 1 rfl)) (mvT hZ (own_W hw 2 rfl)) (mvT hZ (own_W hw 3 rfl)) (by decide) (backOf (W := 1) (rmB l Z a0 hw [] h0 n0 A K (p3 % 3) (2 : Int32) (p1 % 3) (0 : Int32) EN OL0) hZ (own_W hw 3 rfl) (own_W hw 2 rfl) (by decide) (by decide)) (g := (mkF m 38 #[.val (.int p1), .val (.int p2), .val (.int p3), .val (.int p4), .val (.int p5), .val (.int p6), .val (.int (p1 % 3)), .val (.int (p2 % 3)), .val (.int (p3 % 3)), .unset, .unset, .unset, .unset, .unset, .unset, .unset] [(.int 0), (.int (p1 % 3)), (.int 2), (.int (p3 % 3)), (.int 1)])) rfl (by rw [hml]; rfl) (argsL := [(.int (p3 % 3)), (.int 2), (.int (p1 % 3)), (.int 0)]) (rest := [(.int 1)]) (lenOf own_pd4 rfl) rfl (by show 2 * 0 + _ ≤ _; exact Nat.le_of_eq rfl) (hb hby at_38) (fun _ _ => ⟨rfl, zzu, (by decide : 0 + 0 ≤ _), (by decide : 0 + 0 ≤ _)⟩)
        dsimp only [Pt.U, Pt.locs, Pt.cells, Pt.slots] at z1y l812 y812 z812 zio zin
        replace z1y := own_sub z1y l812 y812 z812
        obtain ⟨rfl, zzw, zzx⟩ := zin
        have zzy := Fr.app zzv zzw
        obtain ⟨_, _, ⟨zip, L813, z1kd, n813⟩, -, z3i, ⟨Lc813, ziq, l813, y813, z813⟩, zir⟩ := Jvm.LawKit.callS z1y hx (y := own_m2) hown (mvT hZ (own_W hw 0 rfl)) (mvT hZ (own_W hw 1 rfl)) (mvT hZ (own_W hw 2 rfl)) (mvT hZ (own_W hw 3 rfl)) (by decide) (backOf (W := 0) (rmB l Z a0 hw [] h0 n0 A K (p1 % 3) (0 : Int32) (p2 % 3) (1 : Int32) EN OL0) hZ (own_W hw 3 rfl) (own_W hw 2 rfl) (by decide) (by decide)) (g := (mkF m 58 #[.val (.int p1), .val (.int p2), .val (.int p3), .val (.int p4), .val (.int p5), .val (.int p6), .val (.int (p1 % 3)), .val (.int (p2 % 3)), .val (.int (p3 % 3)), .val (.int 1), .unset, .unset, .unset, .unset, .unset, .unset] [(.int 1), (.int (p2 % 3)), (.int 0), (.int (p1 % 3))])) rfl (by rw [hml]; rfl) (argsL := [(.int (p1 % 3)), (.int 0), (.int (p2 % 3)), (.int 1)]) (rest := []) (lenOf own_pd4 rfl) rfl (by show 2 * 0 + _ ≤ _; exact Nat.le_of_eq rfl) (hb hby at_58) (fun _ _ => ⟨rfl, zzx, (by decide : 0 + 0 ≤ _), (by decide : 0 + 0 ≤ _)⟩)
        dsimp only [Pt.U, Pt.locs, Pt.cells, Pt.slots] at z3i l813 y813 z813 zir ziq
        replace z3i := own_sub z3i l813 y813 z813
        obtain ⟨rfl, zzz, z100⟩ := ziq
        have z101 := Fr.app zzy zzz
        obtain ⟨_, _, ⟨zcb, L814, z1ke, n814⟩, -, z1z, ⟨Lc814, zis, l814, y814, z814⟩, zit⟩ := Jvm.LawKit.callS z3i hx (y := own_m2) hown (mvT hZ (own_W hw 0 rfl)) (mvT hZ (own_W hw 1 rfl)) (mvT hZ (own_W hw 2 rfl)) (mvT hZ (own_W hw 3 rfl)) (by decide) (backOf (W := 1) (rmB l Z a0 hw [] h0 n0 A K (p3 % 3) (2 : Int32) (p2 % 3) (1 : Int32) EN OL0) hZ (own_W hw 3 rfl) (own_W hw 2 rfl) (by decide) (by decide)) (g := (mkF m 75 #[.val (.int p1), .val (.int p2), .val (.int p3), .val (.int p4), .val (.int p5), .val (.int p6), .val (.int (p1 % 3)), .val (.int (p2 % 3)), .val (.int (p3 % 3)), .val (.int 1), .unset, .unset, .unset, .unset, .unset, .unset] [(.int 1), (.int (p2 % 3)), (.int 2), (.int (p3 % 3)), (.int 0)])) rfl (by rw [hml]; rfl) (argsL := [(.int (p3 % 3)), (.int 2), (.int (p2 % 3)), (.int 1)]) (rest := [(.int 0)]) (lenOf own_pd4 rfl) rfl (by show 2 * 0 + _ ≤ _; exact Nat.le_of_eq rfl) (hb hby at_75) (fun _ _ => ⟨rfl, z100, (by decide : 0 + 0 ≤ _), (by decide : 0 + 0 ≤ _)⟩)
        dsimp only [Pt.U, Pt.locs, Pt.cells, Pt.slots] at z1z l814 y814 z814 zit zis
        replace z1z := own_sub z1z l814 y814 z814
        obtain ⟨rfl, z102, z103⟩ := zis
        have z104 := Fr.app z101 z102
        obtain ⟨_, _, ⟨ziu, L815, z1kf, n815⟩, -, z2g, ⟨Lc815, ziv, l815, y815, z815⟩, ziw⟩ := Jvm.LawKit.callS z1z hx (y := own_m2) hown (mvT hZ (own_W hw 0 rfl)) (mvT hZ (own_W hw 1 rfl)) (mvT hZ (own_W hw 2 rfl)) (mvT hZ (own_W hw 3 rfl)) (by decide) (backOf (W := 0) (rmB l Z a0 hw [] h0 n0 A K (p1 % 3) (0 : Int32) (p3 % 3) (2 : Int32) EN OL0) hZ (own_W hw 3 rfl) (own_W hw 2 rfl) (by decide) (by decide)) (g := (mkF m 95 #[.val (.int p1), .val (.int p2), .val (.int p3), .val (.int p4), .val (.int p5), .val (.int p6), .val (.int (p1 % 3)), .val (.int (p2 % 3)), .val (.int (p3 % 3)), .val (.int 1), .val (.int 0), .unset, .unset, .unset, .unset, .unset] [(.int 2), (.int (p3 % 3)), (.int 0), (.int (p1 % 3))])) rfl (by rw [hml]; rfl) (argsL := [(.int (p1 % 3)), (.int 0), (.int (p3 % 3)), (.int 2)]) (rest := []) (lenOf own_pd4 rfl) rfl (by show 2 * 0 + _ ≤ _; exact Nat.le_of_eq rfl) (hb hby at_95) (fun _ _ => ⟨rfl, z103, (by decide : 0 + 0 ≤ _), (by decide : 0 + 0 ≤ _)⟩)
        dsimp only [Pt.U, Pt.locs, Pt.cells, Pt.slots] at z2g l815 y815 z815 ziw ziv
        replace z2g := own_sub z2g l815 y815 z815
        obtain ⟨rfl, z105, z106⟩ := ziv
        have z107 := Fr.app z104 z105
        obtain ⟨_, _, ⟨zcc, L816, z1kg, n816⟩, -, z4q, ⟨Lc816, zix, l816, y816, z816⟩, ziy⟩ := Jvm.LawKit.callS z2g hx (y := own_m2) hown (mvT hZ (own_W hw 0 rfl)) (mvT hZ (own_W hw 1 rfl)) (mvT hZ (own_W hw 2 rfl)) (mvT hZ (own_W hw 3 rfl)) (by decide) (backOf (W := 1) (rmB l Z a0 hw [] h0 n0 A K (p2 % 3) (1 : Int32) (p3 % 3) (2 : Int32) EN OL0) hZ (own_W hw 3 rfl) (own_W hw 2 rfl) (by decide) (by decide)) (g := (mkF m 112 #[.val (.int p1), .val (.int p2), .val (.int p3), .val (.int p4), .val (.int p5), .val (.int p6), .val (.int (p1 % 3)), .val (.int (p2 % 3)), .val (.int (p3 % 3)), .val (.int 1), .val (.int 0), .unset, .unset, .unset, .unset, .unset] [(.int 2), (.int (p3 % 3)), (.int 1), (.int (p2 % 3)), (.int 1)])) rfl (by rw [hml]; rfl) (argsL := [(.int (p2 % 3)), (.int 1), (.int (p3 % 3)), (.int 2)]) (rest := [(.int 1)]) (lenOf own_pd4 rfl) rfl (by show 2 * 0 + _ ≤ _; exact Nat.le_of_eq rfl) (hb hby at_112) (fun _ _ => ⟨rfl, z106, (by decide : 0 + 0 ≤ _), (by decide : 0 + 0 ≤ _)⟩)
        dsimp only [Pt.U, Pt.locs, Pt.cells, Pt.slots] at z4q l816 y816 z816 ziy zix
        replace z4q := own_sub z4q l816 y816 z816
        obtain ⟨rfl, z108, z109⟩ := zix
        have z10a := Fr.app z107 z108
        obtain ⟨z10b, z3j, ziz, z10c, zj0, z4r, z3k, -, zj1⟩ := newO z4q hx hZ hown (own_W hw 4 rfl) (own_W hw 5 rfl) (own_W hw 6 rfl) z109 (g := (mkF m 126 #[.val (.int p1), .val (.int p2), .val (.int p3), .val (.int p4), .val (.int p5), .val (.int p6), .val (.int (p1 % 3)), .val (.int (p2 % 3)), .val (.int (p3 % 3)), .val (.int 1), .val (.int 0), .val (.int 2), .unset, .unset, .unset, .unset] [])) rfl (hb hby at_126) (by decide) (by decide)
        obtain ⟨z2, zcd⟩ : ∃ z, z = h0.size := ⟨_, rfl⟩
        rw [← zcd] at z4r z3k zj1
        have z20 : n0 ≤ z2 := Nat.le_trans (OL0.1 ▸ OL0.2.1) (Nat.le_of_eq zcd.symm)
        have z74 : h0.size ≤ z2 := Nat.le_trans KK0.1 (Nat.le_of_eq zcd.symm)
        have zj2 := OL0.ext zj0
        have z5l := KK0.ext zj0
        have z10d : Fld Z z3j z2 y_s0 "at" "[D" .null := z3k (Or.inl (own_W hw 15 rfl)) (ty := (.array .double)) (by decide)
        have z10e : Fld Z z3j z2 y_s0 "added" "[J" .null := z3k (Or.inl (own_W hw 18 rfl)) (ty := (.array .long)) (by decide)
        have z10f : Fld Z z3j z2 y_s0 "slot" "[I" .null := z3k (Or.inl (own_W hw 21 rfl)) (ty := (.array .int)) (by decide)
        have z10g : Fld Z z3j z2 y_s0 "from" "[I" .null := z3k (Or.inl (own_W hw 23 rfl)) (ty := (.array .int)) (by decide)
        have z10h : Fld Z z3j z2 y_s0 "to" "[I" .null := z3k (Or.inl (own_W hw 25 rfl)) (ty := (.array .int)) (by decide)
        have z10i : Fld Z z3j z2 y_s0 "message" y_s1 .null := z3k (Or.inl (own_W hw 29 rfl)) (ty := (.array (.object y_s2))) (by decide)
        have z10j : Fld Z z3j z2 y_s0 "free" "[I" .null := z3k (Or.inl (own_W hw 31 rfl)) (ty := (.array .int)) (by decide)
        have z10k : Fld Z z3j z2 y_s0 "size" "I" (.int 0) := z3k (Or.inl (own_W hw 42 rfl)) (ty := .int) (by decide)
        have z10l : Fld Z z3j z2 y_s0 "additions" "J" (.long 0) := z3k (Or.inl (own_W hw 44 rfl)) (ty := .long) (by decide)
        obtain ⟨_, _, ⟨z4s, L818, z1kh, n818⟩, -, z2h, ⟨Lc818, zj3, l818, y818, z818⟩, zj4⟩ := ziz.specialBack hx (y := own_m7) rfl hown (mvT hZ (own_W hw 7 rfl)) (mvT hZ (own_W hw 8 rfl)) (mvT hZ (own_W hw 9 rfl)) (by decide) (backOf (W := 1) (rmL1 l Z a0 hw [] z3j n0 p1 p2 p3 p4 p5 p6 A K z2 EN zj2 z4r z10d z10e z10f z10g z10h z10i z10j z10k z10l z20) hZ (own_W hw 9 rfl) (own_W hw 6 rfl) (by decide) (by decide)) (g := (mkF m 130 #[.val (.int p1), .val (.int p2), .val (.int p3), .val (.int p4), .val (.int p5), .val (.int p6), .val (.int (p1 % 3)), .val (.int (p2 % 3)), .val (.int (p3 % 3)), .val (.int 1), .val (.int 0), .val (.int 2), .unset, .unset, .unset, .unset] [(.ref z2), (.ref z2)])) rfl (by rw [hml]; rfl) (Steps.refl _) (a := z2) (argsL := []) (rest := [(.ref z2)]) (lenOf own_pd6 rfl) rfl (by show 2 * 0 + _ ≤ _; exact Nat.le_of_eq rfl) (hb hby at_130) (fun _ _ => ⟨rfl, z10c, (by decide : 1 + 7 ≤ _), (by decide : 9 + 112 ≤ _)⟩)
        dsimp only [Pt.U, Pt.locs, Pt.cells, Pt.slots] at z2h l818 y818 z818 zj4 zj3
        replace z2h := own_sub z2h l818 y818 z818
        obtain ⟨z5m, z5n, z2i, z2j, z5o, z5p, z5q, z75, z76, z4t, z6h, zap, z77, z78, rfl, z10m, zj5, ⟨z3l, zj6⟩, ⟨z3m, zj7⟩, ⟨z3n, zj8⟩, ⟨z79, zj9⟩, ⟨z7a, zja⟩, ⟨z3o, zjb⟩, ⟨zaq, zjc⟩, zy, zm, z8, ze, zn, zz, zjd, z10n, z10o, z10p, z10q, z10r, z10s, z10t, z10u, z10v, z10w, z10x, z10y, z10z, z110, z111, z112, zje⟩ := zj3
        have z113 := Fr.app z10a z10m
        have z8x : z2 < z5m := Nat.lt_of_lt_of_le z4r.lt zj6
        have z8y : z2 < z5n := Nat.lt_of_lt_of_le z4r.lt zj7
        have z8z : z2 < z2i := Nat.lt_of_lt_of_le z4r.lt zj8
        have z90 : z2 < z2j := Nat.lt_of_lt_of_le z4r.lt zj9
        have zce : z2 < z5o := Nat.lt_of_lt_of_le z4r.lt zja
        have z91 : z2 < z5p := Nat.lt_of_lt_of_le z4r.lt zjb
        have z92 : z2 < z5q := Nat.lt_of_lt_of_le z4r.lt zjc
        have z93 : h0.size ≤ z5m := Nat.le_trans z5l.1 zj6
        have z94 : h0.size ≤ z5n := Nat.le_trans z5l.1 zj7
        have z95 : h0.size ≤ z2i := Nat.le_trans z5l.1 zj8
        have zcf : h0.size ≤ z2j := Nat.le_trans z5l.1 zj9
        have zcg : h0.size ≤ z5o := Nat.le_trans z5l.1 zja
        have z96 : h0.size ≤ z5p := Nat.le_trans z5l.1 zjb
        have zjf : h0.size ≤ z5q := Nat.le_trans z5l.1 zjc
        have zjg := zj2.keep zj5 (allS z20 all0)
        have z114 := z5l.trans zj5 (allS (Or.inr z74) all0)
        have z115 : Arv Z z4s.heap z5m z75 .double (16 : Int32) [(.double (Jvm.FP.l2d ((0 : Int32).toInt64))), (.double (Jvm.FP.l2d ((0 : Int32).toInt64))), (.double (Jvm.FP.l2d ((0 : Int32).toInt64)))] (.double (Jvm.FP.l2d ((0 : Int32).toInt64))) := Arv.pad z10w (pad_rep [] (.double (Jvm.FP.l2d ((0 : Int32).toInt64))) 3)
        have z116 : Arv Z z4s.heap z5n z76 .long (16 : Int32) [(.long 0), (.long 0), (.long 0)] (.long 0) := Arv.pad z10x (pad_rep [] (.long 0) 3)
        have z117 : Arv Z z4s.heap z2i z4t .int 16 [(.int 0), (.int 0), (.int 0)] (.int 0) := Arv.pad z10y (pad_rep [] (.int 0) 3)
        have z118 : Arv Z z4s.heap z2j z6h .int 16 [(.int 0), (.int 0), (.int 0)] (.int 0) := Arv.pad z10z (pad_rep [] (.int 0) 3)
        have z119 : Arv Z z4s.heap z5o zap .int 16 [(.int 0), (.int 0), (.int 0)] (.int 0) := Arv.pad z110 (pad_rep [] (.int 0) 3)
        have z11a : own_AM Z z4s.heap z5p z77 (.object y_s2) := ⟨_, _, z111⟩
        obtain ⟨cq825, kq825, z11b, z1ki, z11c⟩ := isOf hZ rfl zjd
        obtain ⟨_, _, ⟨zch, L825, z1kj, n825⟩, -, z3p, ⟨Lc825, zjh, l825, y825, z825⟩, zji⟩ := z2h.virtualBack hx (y := own_m0) (z := own_m0) hown (mvT hZ (own_W hw 36 rfl)) (mvT hZ (own_W hw 37 rfl)) (notFace_of_selects (args := #[]) (mvT hZ (own_W hw 39 rfl))) (mvT hZ (own_W hw 39 rfl)) (mvT hZ (own_W hw 38 rfl)) (by decide) (backOf (W := 0) (rmA0 l Z a0 hw [] z4s.heap n0 A K (0 : Int32) (0 : Int32) (0 : Int32) (0 : Int64) (0 : Int64) (0 : Int64) (0 : Int32) (0 : Int32) (0 : Int32) (0 : Int32) (0 : Int32) (0 : Int32) (0 : Int32) (0 : Int32) (0 : Int32) (0 : Int64) (p1 % 3) p4 (0 : Int32) z2 z5m z5n z2i z2j z5o z5p z5q z75 z76 z4t z6h zap z77 z78 EN zjg z10u z10p z117 z10t zje z10q z118 z10r z119 z10s z11a zjd z10v z10n z115 z10o z116 z112 (Nat.ne_of_lt z90) (Nat.ne_of_lt ze) (Nat.ne_of_lt zce) (Nat.ne_of_lt (Nat.lt_trans ze zn)) (Nat.ne_of_lt zn) (Nat.ne_of_lt z91) (Nat.ne_of_lt (Nat.lt_trans (Nat.lt_trans zy zm) z8)) (Nat.ne_of_lt (Nat.lt_trans (Nat.lt_trans (Nat.lt_trans zy zm) z8) ze)) (Nat.ne_of_lt (Nat.lt_trans (Nat.lt_trans (Nat.lt_trans (Nat.lt_trans zy zm) z8) ze) zn)) (Nat.ne_of_lt z8x) (Nat.ne_of_lt (Nat.lt_trans zm z8)) (Nat.ne_of_lt (Nat.lt_trans (Nat.lt_trans zm z8) ze)) (Nat.ne_of_lt (Nat.lt_trans (Nat.lt_trans (Nat.lt_trans zm z8) ze) zn)) (Nat.ne_of_lt z8y) (Nat.ne_of_lt z8) (Nat.ne_of_lt (Nat.lt_trans z8 ze)) (Nat.ne_of_lt (Nat.lt_trans (Nat.lt_trans z8 ze) zn)) (Nat.ne_of_lt z8z) (Nat.ne_of_lt zy) (Nat.ne_of_lt (Nat.lt_trans zy zm)) (Nat.ne_of_lt zm) z79 z7a z3o z20 z3l z3m z3n) hZ (own_W hw 40 rfl) (own_W hw 6 rfl) (by decide) (by decide)) z11b z11c (g := (mkF m 143 #[.val (.int p1), .val (.int p2), .val (.int p3), .val (.int p4), .val (.int p5), .val (.int p6), .val (.int (p1 % 3)), .val (.int (p2 % 3)), .val (.int (p3 % 3)), .val (.int 1), .val (.int 0), .val (.int 2), .val (.ref z2), .unset, .unset, .unset] [.null, (.int 0), (.int p4), (.double (Jvm.FP.l2d ((p1 % 3).toInt64))), (.ref z2)])) rfl (by rw [hml]; rfl) (Steps.refl _) (argsL := [(.double (Jvm.FP.l2d ((p1 % 3).toInt64))), (.int p4), (.int 0), .null]) (rest := []) (lenOf own_pd7 rfl) rfl (by show 2 * 0 + _ ≤ _; exact Nat.le_of_eq rfl) (hb hby at_143) (fun _ _ => ⟨rfl, rfl, (by decide : 8 + 0 ≤ _), (by decide : 121 + 0 ≤ _)⟩)
        dsimp only [Pt.U, Pt.locs, Pt.cells, Pt.slots] at z3p l825 y825 z825 zji zjh
        replace z3p := own_sub z3p l825 y825 z825
        obtain ⟨rfl, z11d, zci, zjj, z11e, z11f, z11g, z11h, z11i, z11j, z11k, z11l, z11m, z11n, z11o, z11p, z11q, z11r, z11s, z11t⟩ := zjh
        have z11u := Fr.app z113 z11d
        have zjk := zjg.keep zci (allS z79 (allS z7a (allS z3o (allS z20 (allS z3n (allS z3m (allS z3l all0)))))))
        have z11v := z114.trans zci (allS (Or.inr zcf) (allS (Or.inr zcg) (allS (Or.inr z96) (allS (Or.inr z74) (allS (Or.inr z95) (allS (Or.inr z94) (allS (Or.inr z93) all0)))))))
        have zjl := (zje.keep zci (ninS (Ne.symm (Nat.ne_of_lt (Nat.lt_trans (Nat.lt_trans ze zn) zz))) (ninS (Ne.symm (Nat.ne_of_lt (Nat.lt_trans zn zz))) (ninS (Ne.symm (Nat.ne_of_lt zz)) (ninS (Ne.symm (Nat.ne_of_lt z92)) (ninS (Ne.symm (Nat.ne_of_lt (Nat.lt_trans (Nat.lt_trans (Nat.lt_trans z8 ze) zn) zz))) (ninS (Ne.symm (Nat.ne_of_lt (Nat.lt_trans (Nat.lt_trans (Nat.lt_trans (Nat.lt_trans zm z8) ze) zn) zz))) (ninS (Ne.symm (Nat.ne_of_lt (Nat.lt_trans (Nat.lt_trans (Nat.lt_trans (Nat.lt_trans (Nat.lt_trans zy zm) z8) ze) zn) zz))) nin0))))))))
        obtain ⟨cq827, kq827, z11w, z1kk, z11x⟩ := isOf hZ rfl zjj
        obtain ⟨_, _, ⟨zcj, L827, z1kl, n827⟩, -, z3q, ⟨Lc827, zjm, l827, y827, z827⟩, zjn⟩ := z3p.virtualBack hx (y := own_m0) (z := own_m0) hown (mvT hZ (own_W hw 36 rfl)) (mvT hZ (own_W hw 37 rfl)) (notFace_of_selects (args := #[]) (mvT hZ (own_W hw 39 rfl))) (mvT hZ (own_W hw 39 rfl)) (mvT hZ (own_W hw 38 rfl)) (by decide) (backOf (W := 0) (rmA1y l Z a0 hw [] zch.heap n0 A K (p1 % 3) (0 : Int32) (0 : Int32) (0 : Int64) (0 : Int64) (0 : Int64) (0 : Int32) (0 : Int32) (0 : Int32) p4 (0 : Int32) (0 : Int32) (0 : Int32) (0 : Int32) (0 : Int32) ((0 : Int64) + (1 : Int64)) (p2 % 3) p5 (1 : Int32) z2 z5m z5n z2i z2j z5o z5p z5q z75 z76 z4t z6h zap z77 z78 EN zjk z11l z11g z11p z11k zjl z11h z11q z11i z11r z11j z11s zjj z11e z11n z11f z11o z11m z11t z16 (Nat.ne_of_lt z90) (Nat.ne_of_lt ze) (Nat.ne_of_lt zce) (Nat.ne_of_lt (Nat.lt_trans ze zn)) (Nat.ne_of_lt zn) (Nat.ne_of_lt z91) (Nat.ne_of_lt (Nat.lt_trans (Nat.lt_trans zy zm) z8)) (Nat.ne_of_lt (Nat.lt_trans (Nat.lt_trans (Nat.lt_trans zy zm) z8) ze)) (Nat.ne_of_lt (Nat.lt_trans (Nat.lt_trans (Nat.lt_trans (Nat.lt_trans zy zm) z8) ze) zn)) (Nat.ne_of_lt z8x) (Nat.ne_of_lt (Nat.lt_trans zm z8)) (Nat.ne_of_lt (Nat.lt_trans (Nat.lt_trans zm z8) ze)) (Nat.ne_of_lt (Nat.lt_trans (Nat.lt_trans (Nat.lt_trans zm z8) ze) zn)) (Nat.ne_of_lt z8y) (Nat.ne_of_lt z8) (Nat.ne_of_lt (Nat.lt_trans z8 ze)) (Nat.ne_of_lt (Nat.lt_trans (Nat.lt_trans z8 ze) zn)) (Nat.ne_of_lt z8z) (Nat.ne_of_lt zy) (Nat.ne_of_lt (Nat.lt_trans zy zm)) (Nat.ne_of_lt zm) z79 z7a z3o z20 z3l z3m z3n) hZ (own_W hw 40 rfl) (own_W hw 6 rfl) (by decide) (by decide)) z11w z11x (g := (mkF m 155 #[.val (.int p1), .val (.int p2), .val (.int p3), .val (.int p4), .val (.int p5), .val (.int p6), .val (.int (p1 % 3)), .val (.int (p2 % 3)), .val (.int (p3 % 3)), .val (.int 1), .val (.int 0), .val (.int 2), .val (.ref z2), .unset, .unset, .unset] [.null, (.int 1), (.int p5), (.double (Jvm.FP.l2d ((p2 % 3).toInt64))), (.ref z2)])) rfl (by rw [hml]; rfl) (Steps.refl _) (argsL := [(.double (Jvm.FP.l2d ((p2 % 3).toInt64))), (.int p5), (.int 1), .null]) (rest := []) (lenOf own_pd7 rfl) rfl (by show 2 * 0 + _ ≤ _; exact Nat.le_of_eq rfl) (hb hby at_155) (fun _ _ => ⟨rfl, rfl, (by decide : 8 + 0 ≤ _), (by decide : 121 + 0 ≤ _)⟩)
        dsimp only [Pt.U, Pt.locs, Pt.cells, Pt.slots] at z3q l827 y827 z827 zjn zjm
        replace z3q := own_sub z3q l827 y827 z827
        obtain ⟨rfl, z11y, zck, zjo, z11z, z120, z121, z122, z123, z124, z125, z126, z127, z128, z129, z12a, z12b, z12c, z12d, z12e⟩ := zjm
        have z12f := Fr.app z11u z11y
        have zjp := zjk.keep zck (allS z79 (allS z7a (allS z3o (allS z20 (allS z3l (allS z3m (allS z3n all0)))))))
        have z12g := z11v.trans zck (allS (Or.inr zcf) (allS (Or.inr zcg) (allS (Or.inr z96) (allS (Or.inr z74) (allS (Or.inr z93) (allS (Or.inr z94) (allS (Or.inr z95) all0)))))))
        have zjq := (zjl.keep zck (ninS (Ne.symm (Nat.ne_of_lt (Nat.lt_trans (Nat.lt_trans ze zn) zz))) (ninS (Ne.symm (Nat.ne_of_lt (Nat.lt_trans zn zz))) (ninS (Ne.symm (Nat.ne_of_lt zz)) (ninS (Ne.symm (Nat.ne_of_lt z92)) (ninS (Ne.symm (Nat.ne_of_lt (Nat.lt_trans (Nat.lt_trans (Nat.lt_trans (Nat.lt_trans (Nat.lt_trans zy zm) z8) ze) zn) zz))) (ninS (Ne.symm (Nat.ne_of_lt (Nat.lt_trans (Nat.lt_trans (Nat.lt_trans (Nat.lt_trans zm z8) ze) zn) zz))) (ninS (Ne.symm (Nat.ne_of_lt (Nat.lt_trans (Nat.lt_trans (Nat.lt_trans z8 ze) zn) zz))) nin0))))))))
        obtain ⟨cq829, kq829, z12h, z1km, z12i⟩ := isOf hZ rfl zjo
        obtain ⟨_, _, ⟨zar, L829, z1kn, n829⟩, -, z97, ⟨Lc829, zjr, l829, y829, z829⟩, zjs⟩ := z3q.virtualBack hx (y := own_m0) (z := own_m0) hown (mvT hZ (own_W hw 36 rfl)) (mvT hZ (own_W hw 37 rfl)) (notFace_of_selects (args := #[]) (mvT hZ (own_W hw 39 rfl))) (mvT hZ (own_W hw 39 rfl)) (mvT hZ (own_W hw 38 rfl)) (by decide) (backOf (W := 0) (rmA2n l Z a0 hw [] zcj.heap n0 A K (p2 % 3) (p1 % 3) (0 : Int32) ((0 : Int64) + (1 : Int64)) (0 : Int64) (0 : Int64) (1 : Int32) (0 : Int32) (0 : Int32) p4 p5 (0 : Int32) (0 : Int32) (1 : Int32) (0 : Int32) (((0 : Int64) + (1 : Int64)) + (1 : Int64)) (p3 % 3) p6 (2 : Int32) z2 z5m z5n z2i z2j z5o z5p z5q z75 z76 z4t z6h zap z77 z78 EN zjp z126 z121 z12a z125 zjq z122 z12b z123 z12c z124 z12d zjo z11z z128 z127 z120 z129 z12e zc9 (Nat.ne_of_lt z90) (Nat.ne_of_lt ze) (Nat.ne_of_lt zce) (Nat.ne_of_lt (Nat.lt_trans ze zn)) (Nat.ne_of_lt zn) (Nat.ne_of_lt z91) (Nat.ne_of_lt (Nat.lt_trans (Nat.lt_trans zy zm) z8)) (Nat.ne_of_lt (Nat.lt_trans (Nat.lt_trans (Nat.lt_trans zy zm) z8) ze)) (Nat.ne_of_lt (Nat.lt_trans (Nat.lt_trans (Nat.lt_trans (Nat.lt_trans zy zm) z8) ze) zn)) (Nat.ne_of_lt z8x) (Nat.ne_of_lt (Nat.lt_trans zm z8)) (Nat.ne_of_lt (Nat.lt_trans (Nat.lt_trans zm z8) ze)) (Nat.ne_of_lt (Nat.lt_trans (Nat.lt_trans (Nat.lt_trans zm z8) ze) zn)) (Nat.ne_of_lt z8y) (Nat.ne_of_lt z8) (Nat.ne_of_lt (Nat.lt_trans z8 ze)) (Nat.ne_of_lt (Nat.lt_trans (Nat.lt_trans z8 ze) zn)) (Nat.ne_of_lt z8z) (Nat.ne_of_lt zy) (Nat.ne_of_lt (Nat.lt_trans zy zm)) (Nat.ne_of_lt zm) z79 z7a z3o z20 z3l z3m z3n) hZ (own_W hw 40 rfl) (own_W hw 6 rfl) (by decide) (by decide)) z12h z12i (g := (mkF m 167 #[.val (.int p1), .val (.int p2), .val (.int p3), .val (.int p4), .val (.int p5), .val (.int p6), .val (.int (p1 % 3)), .val (.int (p2 % 3)), .val (.int (p3 % 3)), .val (.int 1), .val (.int 0), .val (.int 2), .val (.ref z2), .unset, .unset, .unset] [.null, (.int 2), (.int p6), (.double (Jvm.FP.l2d ((p3 % 3).toInt64))), (.ref z2)])) rfl (by rw [hml]; rfl) (Steps.refl _) (argsL := [(.double (Jvm.FP.l2d ((p3 % 3).toInt64))), (.int p6), (.int 2), .null]) (rest := []) (lenOf own_pd7 rfl) rfl (by show 2 * 0 + _ ≤ _; exact Nat.le_of_eq rfl) (hb hby at_167) (fun _ _ => ⟨rfl, rfl, (by decide : 8 + 0 ≤ _), (by decide : 121 + 0 ≤ _)⟩)
        dsimp only [Pt.U, Pt.locs, Pt.cells, Pt.slots] at z97 l829 y829 z829 zjs zjr
        replace z97 := own_sub z97 l829 y829 z829
        obtain ⟨rfl, z12j, zcl, zcm, z12k, z12l, zjt, zju, z12m, z12n, z12o, z12p, z12q, z12r, z12s, zjv, zjw, z1ko, z12t, z12u⟩ := zjr
        have z12v := Fr.app z12f z12j
        have zcn := zjp.keep zcl (allS z79 (allS z7a (allS z3o (allS z20 (allS z3n (allS z3m (allS z3l all0)))))))
        have z12w := z12g.trans zcl (allS (Or.inr zcf) (allS (Or.inr zcg) (allS (Or.inr z96) (allS (Or.inr z74) (allS (Or.inr z95) (allS (Or.inr z94) (allS (Or.inr z93) all0)))))))
        obtain ⟨cq830, kq830, z12x, z1kp, z12y⟩ := isOf hZ rfl zcm
        obtain ⟨_, _, ⟨z12z, L830, z1kq, n830⟩, -, z7b, ⟨Lc830, zjx, l830, y830, z830⟩, zjy⟩ := z97.virtualBack hx (y := own_m1) (z := own_m1) hown (mvT hZ (own_W hw 49 rfl)) (mvT hZ (own_W hw 50 rfl)) (notFace_of_selects (args := #[]) (mvT hZ (own_W hw 52 rfl))) (mvT hZ (own_W hw 52 rfl)) (mvT hZ (own_W hw 51 rfl)) (by decide) (backOf (W := 0) (rmF1 l Z a0 hw [] zar.heap n0 A K (0 : Int32) (0 : Int32) (2 : Int32) p4 p5 p6 z2 z2i z2j z4t z6h EN zcn zju zjt zjv zjw) hZ (own_W hw 53 rfl) (own_W hw 6 rfl) (by decide) (by decide)) z12x z12y (g := (mkF m 172 #[.val (.int p1), .val (.int p2), .val (.int p3), .val (.int p4), .val (.int p5), .val (.int p6), .val (.int (p1 % 3)), .val (.int (p2 % 3)), .val (.int (p3 % 3)), .val (.int 1), .val (.int 0), .val (.int 2), .val (.ref z2), .unset, .unset, .unset] [(.ref z2)])) rfl (by rw [hml]; rfl) (Steps.refl _) (argsL := []) (rest := []) (lenOf own_pd8 rfl) rfl (by show 2 * 0 + _ ≤ _; exact Nat.le_of_eq rfl) (hb hby at_172) (fun _ _ => ⟨rfl, rfl, (by decide : 8 + 0 ≤ _), (by decide : 121 + 0 ≤ _)⟩)
        dsimp only [Pt.U, Pt.locs, Pt.cells, Pt.slots] at z7b l830 y830 z830 zjy zjx
        replace z7b := own_sub z7b l830 y830 z830
        obtain ⟨rfl, z130, zjz⟩ := zjx
        have z131 := Fr.app z12v z130
        have z132 := (zjq.keep zcl (ninS (Ne.symm (Nat.ne_of_lt (Nat.lt_trans (Nat.lt_trans ze zn) zz))) (ninS (Ne.symm (Nat.ne_of_lt (Nat.lt_trans zn zz))) (ninS (Ne.symm (Nat.ne_of_lt zz)) (ninS (Ne.symm (Nat.ne_of_lt z92)) (ninS (Ne.symm (Nat.ne_of_lt (Nat.lt_trans (Nat.lt_trans (Nat.lt_trans z8 ze) zn) zz))) (ninS (Ne.symm (Nat.ne_of_lt (Nat.lt_trans (Nat.lt_trans (Nat.lt_trans (Nat.lt_trans zm z8) ze) zn) zz))) (ninS (Ne.symm (Nat.ne_of_lt (Nat.lt_trans (Nat.lt_trans (Nat.lt_trans (Nat.lt_trans (Nat.lt_trans zy zm) z8) ze) zn) zz))) nin0))))))))
        have z133 : own_AM Z zar.heap z5q z78 .int := ⟨_, _, z132⟩
        obtain ⟨cq833, kq833, z134, z1kr, z135⟩ := isOf hZ zjz zcm
        obtain ⟨_, _, ⟨zco, L833, z1ks, n833⟩, -, z98, ⟨Lc833, zk0, l833, y833, z833⟩, zk1⟩ := z7b.virtualBack hx (y := own_m3) (z := own_m3) hown (mvT hZ (own_W hw 54 rfl)) (mvT hZ (own_W hw 55 rfl)) (notFace_of_selects (args := #[]) (mvT hZ (own_W hw 57 rfl))) (mvT hZ (own_W hw 57 rfl)) (mvT hZ (own_W hw 56 rfl)) (by decide) (backOf (W := 0) (rmR3y l Z a0 hw [] zar.heap n0 A K (p2 % 3) (p1 % 3) (p3 % 3) ((0 : Int64) + (1 : Int64)) (0 : Int64) (((0 : Int64) + (1 : Int64)) + (1 : Int64)) (1 : Int32) (0 : Int32) (2 : Int32) (0 : Int32) (0 : Int32) (0 : Int32) (0 : Int32) (0 : Int32) (0 : Int32) ((((0 : Int64) + (1 : Int64)) + (1 : Int64)) + (1 : Int64)) z2 z5m z5n z2i z2j z5o z5p z5q z75 z76 z4t z77 z78 EN zcn zjt zjv z12n z12t z12o z12p z133 zcm z12k z12r z12l z12s zju z12m z12q z12u (by decide) (by decide) (own_ib_y2 z55 (by decide)) (Nat.ne_of_lt z91) (Nat.ne_of_lt (Nat.lt_trans (Nat.lt_trans z8 ze) zn)) (Nat.ne_of_lt zz) (Nat.ne_of_lt z92) (Nat.ne_of_lt (Nat.lt_trans (Nat.lt_trans (Nat.lt_trans (Nat.lt_trans zy zm) z8) ze) zn)) (Nat.ne_of_lt (Nat.lt_trans (Nat.lt_trans (Nat.lt_trans (Nat.lt_trans (Nat.lt_trans zy zm) z8) ze) zn) zz)) (Nat.ne_of_lt z8x) (Nat.ne_of_lt (Nat.lt_trans (Nat.lt_trans (Nat.lt_trans zm z8) ze) zn)) (Nat.ne_of_lt (Nat.lt_trans (Nat.lt_trans (Nat.lt_trans (Nat.lt_trans zm z8) ze) zn) zz)) (Nat.ne_of_lt z8y) (Nat.ne_of_lt (Nat.lt_trans (Nat.lt_trans (Nat.lt_trans z8 ze) zn) zz)) (Nat.ne_of_lt z8z) (Nat.ne_of_lt zy) (Nat.ne_of_lt (Nat.lt_trans zy zm)) (Nat.ne_of_lt zm) z3o zaq z20 z3l z3m z3n) hZ (own_W hw 58 rfl) (own_W hw 6 rfl) (by decide) (by decide)) z134 z135 (g := (mkF m 179 #[.val (.int p1), .val (.int p2), .val (.int p3), .val (.int p4), .val (.int p5), .val (.int p6), .val (.int (p1 % 3)), .val (.int (p2 % 3)), .val (.int (p3 % 3)), .val (.int 1), .val (.int 0), .val (.int 2), .val (.ref z2), .val (.int p5), .unset, .unset] [(.ref z2)])) rfl (by rw [hml]; rfl) (Steps.refl _) (argsL := []) (rest := []) (lenOf own_pd6 rfl) rfl (by show 2 * 0 + _ ≤ _; exact Nat.le_of_eq rfl) (hb hby at_179) (fun _ _ => ⟨rfl, zjz, (by decide : 8 + 0 ≤ _), (by decide : 121 + 0 ≤ _)⟩)
        dsimp only [Pt.U, Pt.locs, Pt.cells, Pt.slots] at z98 l833 y833 z833 zk1 zk0
        replace z98 := own_sub z98 l833 y833 z833
        obtain ⟨rfl, z136, zcp, zcq, z137, z138, zk2, zk3, z139, z13a, z13b, z13c, z13d, z13e, z13f, zk4, z13g, z13h, z13i⟩ := zk0
        have z13j := Fr.app z131 z136
        have zcr := zcn.keep zcp (allS z3o (allS zaq (allS z20 (allS z3l (allS z3m (allS z3n all0))))))
        have z13k := z12w.trans zcp (allS (Or.inr z96) (allS (Or.inr zjf) (allS (Or.inr z74) (allS (Or.inr z93) (allS (Or.inr z94) (allS (Or.inr z95) all0))))))
        have zk5 := (zjw.keep zcp (ninS (Nat.ne_of_lt (Nat.lt_trans ze zn)) (ninS (Nat.ne_of_lt (Nat.lt_trans (Nat.lt_trans ze zn) zz)) (ninS (Ne.symm (Nat.ne_of_lt z90)) (ninS (Ne.symm (Nat.ne_of_lt (Nat.lt_trans (Nat.lt_trans zy zm) z8))) (ninS (Ne.symm (Nat.ne_of_lt (Nat.lt_trans zm z8))) (ninS (Ne.symm (Nat.ne_of_lt z8)) nin0)))))))
        obtain ⟨cq835, kq835, z13l, z1kt, z13m⟩ := isOf hZ rfl zcq
        obtain ⟨_, _, ⟨z13n, L835, z1ku, n835⟩, -, z7c, ⟨Lc835, zk6, l835, y835, z835⟩, zk7⟩ := z98.virtualBack hx (y := own_m1) (z := own_m1) hown (mvT hZ (own_W hw 49 rfl)) (mvT hZ (own_W hw 50 rfl)) (notFace_of_selects (args := #[]) (mvT hZ (own_W hw 52 rfl))) (mvT hZ (own_W hw 52 rfl)) (mvT hZ (own_W hw 51 rfl)) (by decide) (backOf (W := 0) (rmF0 l Z a0 hw [] zco.heap n0 A K (0 : Int32) (2 : Int32) (2 : Int32) p4 p5 p6 z2 z2i z2j z4t z6h EN zcr zk3 zk2 zk4 zk5) hZ (own_W hw 53 rfl) (own_W hw 6 rfl) (by decide) (by decide)) z13l z13m (g := (mkF m 184 #[.val (.int p1), .val (.int p2), .val (.int p3), .val (.int p4), .val (.int p5), .val (.int p6), .val (.int (p1 % 3)), .val (.int (p2 % 3)), .val (.int (p3 % 3)), .val (.int 1), .val (.int 0), .val (.int 2), .val (.ref z2), .val (.int p5), .unset, .unset] [(.ref z2)])) rfl (by rw [hml]; rfl) (Steps.refl _) (argsL := []) (rest := []) (lenOf own_pd8 rfl) rfl (by show 2 * 0 + _ ≤ _; exact Nat.le_of_eq rfl) (hb hby at_184) (fun _ _ => ⟨rfl, rfl, (by decide : 8 + 0 ≤ _), (by decide : 121 + 0 ≤ _)⟩)
        dsimp only [Pt.U, Pt.locs, Pt.cells, Pt.slots] at z7c l835 y835 z835 zk7 zk6
        replace z7c := own_sub z7c l835 y835 z835
        obtain ⟨rfl, z13o, zk8⟩ := zk6
        have z13p := Fr.app z13j z13o
        obtain ⟨cq836, kq836, z13q, z1kv, z13r⟩ := isOf hZ zk8 zcq
        obtain ⟨_, _, ⟨z99, L836, z1kw, n836⟩, -, z9a, ⟨Lc836, zk9, l836, y836, z836⟩, zka⟩ := z7c.virtualBack hx (y := own_m3) (z := own_m3) hown (mvT hZ (own_W hw 54 rfl)) (mvT hZ (own_W hw 55 rfl)) (notFace_of_selects (args := #[]) (mvT hZ (own_W hw 57 rfl))) (mvT hZ (own_W hw 57 rfl)) (mvT hZ (own_W hw 56 rfl)) (by decide) (backOf (W := 0) (rmR2 l Z a0 hw [] zco.heap n0 A K (p1 % 3) (p3 % 3) (p3 % 3) (0 : Int64) (((0 : Int64) + (1 : Int64)) + (1 : Int64)) (((0 : Int64) + (1 : Int64)) + (1 : Int64)) (0 : Int32) (2 : Int32) (2 : Int32) (0 : Int32) (0 : Int32) (0 : Int32) (0 : Int32) (0 : Int32) (0 : Int32) ((((0 : Int64) + (1 : Int64)) + (1 : Int64)) + (1 : Int64)) z2 z5m z5n z2i z2j z5o z5p z5q z75 z76 z4t z77 z78 EN zcr zk2 zk4 z13a z13g z13b z13c z13i zcq z137 z13e z138 z13f zk3 z139 z13d z13h (by decide) (by decide) (Nat.ne_of_lt z91) (Nat.ne_of_lt (Nat.lt_trans (Nat.lt_trans z8 ze) zn)) (Nat.ne_of_lt zz) (Nat.ne_of_lt z92) (Nat.ne_of_lt (Nat.lt_trans (Nat.lt_trans (Nat.lt_trans (Nat.lt_trans zy zm) z8) ze) zn)) (Nat.ne_of_lt (Nat.lt_trans (Nat.lt_trans (Nat.lt_trans (Nat.lt_trans (Nat.lt_trans zy zm) z8) ze) zn) zz)) (Nat.ne_of_lt z8x) (Nat.ne_of_lt (Nat.lt_trans (Nat.lt_trans (Nat.lt_trans zm z8) ze) zn)) (Nat.ne_of_lt (Nat.lt_trans (Nat.lt_trans (Nat.lt_trans (Nat.lt_trans zm z8) ze) zn) zz)) (Nat.ne_of_lt z8y) (Nat.ne_of_lt (Nat.lt_trans (Nat.lt_trans (Nat.lt_trans z8 ze) zn) zz)) (Nat.ne_of_lt z8z) (Nat.ne_of_lt zy) (Nat.ne_of_lt (Nat.lt_trans zy zm)) (Nat.ne_of_lt zm) z3o zaq z20 z3l z3m z3n) hZ (own_W hw 58 rfl) (own_W hw 6 rfl) (by decide) (by decide)) z13q z13r (g := (mkF m 191 #[.val (.int p1), .val (.int p2), .val (.int p3), .val (.int p4), .val (.int p5), .val (.int p6), .val (.int (p1 % 3)), .val (.int (p2 % 3)), .val (.int (p3 % 3)), .val (.int 1), .val (.int 0), .val (.int 2), .val (.ref z2), .val (.int p5), .val (.int p4), .unset] [(.ref z2)])) rfl (by rw [hml]; rfl) (Steps.refl _) (argsL := []) (rest := []) (lenOf own_pd6 rfl) rfl (by show 2 * 0 + _ ≤ _; exact Nat.le_of_eq rfl) (hb hby at_191) (fun _ _ => ⟨rfl, zk8, (by decide : 8 + 0 ≤ _), (by decide : 121 + 0 ≤ _)⟩)
        dsimp only [Pt.U, Pt.locs, Pt.cells, Pt.slots] at z9a l836 y836 z836 zka zk9
        replace z9a := own_sub z9a l836 y836 z836
        obtain ⟨rfl, z13s, zcs, z13t, z1kx, z1ky, z13u, z13v, z1kz, z1l0, z1l1, z1l2, z1l3, z1l4, z1l5, z13w, z1l6, z1l7, z1l8⟩ := zk9
        have z13x := Fr.app z13p z13s
        have zas := zcr.keep zcs (allS z3o (allS zaq (allS z20 (allS z3n (allS z3m (allS z3l all0))))))
        have z1l9 := z13k.trans zcs (allS (Or.inr z96) (allS (Or.inr zjf) (allS (Or.inr z74) (allS (Or.inr z95) (allS (Or.inr z94) (allS (Or.inr z93) all0))))))
        have z13y := (zk5.keep zcs (ninS (Nat.ne_of_lt (Nat.lt_trans ze zn)) (ninS (Nat.ne_of_lt (Nat.lt_trans (Nat.lt_trans ze zn) zz)) (ninS (Ne.symm (Nat.ne_of_lt z90)) (ninS (Ne.symm (Nat.ne_of_lt z8)) (ninS (Ne.symm (Nat.ne_of_lt (Nat.lt_trans zm z8))) (ninS (Ne.symm (Nat.ne_of_lt (Nat.lt_trans (Nat.lt_trans zy zm) z8))) nin0)))))))
        obtain ⟨cq838, kq838, z13z, z1la, z140⟩ := isOf hZ rfl z13t
        obtain ⟨_, _, ⟨z141, L838, z1lb, n838⟩, -, z1g, ⟨Lc838, zkb, l838, y838, z838⟩, zkc⟩ := z9a.virtualBack hx (y := own_m1) (z := own_m1) hown (mvT hZ (own_W hw 49 rfl)) (mvT hZ (own_W hw 50 rfl)) (notFace_of_selects (args := #[]) (mvT hZ (own_W hw 52 rfl))) (mvT hZ (own_W hw 52 rfl)) (mvT hZ (own_W hw 51 rfl)) (by decide) (backOf (W := 0) (rmF2 l Z a0 hw [] z99.heap n0 A K (0 : Int32) (2 : Int32) (2 : Int32) p4 p5 p6 z2 z2i z2j z4t z6h EN zas z13v z13u z13w z13y) hZ (own_W hw 53 rfl) (own_W hw 6 rfl) (by decide) (by decide)) z13z z140 (g := (mkF m 196 #[.val (.int p1), .val (.int p2), .val (.int p3), .val (.int p4), .val (.int p5), .val (.int p6), .val (.int (p1 % 3)), .val (.int (p2 % 3)), .val (.int (p3 % 3)), .val (.int 1), .val (.int 0), .val (.int 2), .val (.ref z2), .val (.int p5), .val (.int p4), .unset] [(.ref z2)])) rfl (by rw [hml]; rfl) (Steps.refl _) (argsL := []) (rest := []) (lenOf own_pd8 rfl) rfl (by show 2 * 0 + _ ≤ _; exact Nat.le_of_eq rfl) (hb hby at_196) (fun _ _ => ⟨rfl, rfl, (by decide : 8 + 0 ≤ _), (by decide : 121 + 0 ≤ _)⟩)
        dsimp only [Pt.U, Pt.locs, Pt.cells, Pt.slots] at z1g l838 y838 z838 zkc zkb
        replace z1g := own_sub z1g l838 y838 z838
        obtain ⟨rfl, z142, z143⟩ := zkb
        have z144 := Fr.app z13x z142
        obtain ⟨_, _, ⟨zkd, L839, z1lc, n839⟩, -, z1h, ⟨Lc839, zke, l839, y839, z839⟩, zkf⟩ := Jvm.LawKit.callS z1g hx (y := own_m5) hown (mvT hZ (own_W hw 70 rfl)) (mvT hZ (own_W hw 71 rfl)) (mvT hZ (own_W hw 2 rfl)) (mvT hZ (own_W hw 72 rfl)) (by decide) (backOf (W := 1) (rmK1 l Z a0 hw [] z99.heap n0 A K (0 : Int32) (1 : Int32) (0 : Int32) (2 : Int32) p4 p5 p6 EN zas (by decide) (by decide)) hZ (own_W hw 72 rfl) (own_W hw 2 rfl) (by decide) (by decide)) (g := (mkF m 215 #[.val (.int p1), .val (.int p2), .val (.int p3), .val (.int p4), .val (.int p5), .val (.int p6), .val (.int (p1 % 3)), .val (.int (p2 % 3)), .val (.int (p3 % 3)), .val (.int 1), .val (.int 0), .val (.int 2), .val (.ref z2), .val (.int p5), .val (.int p4), .val (.int p6)] [(.int p6), (.int p5), (.int p4), (.int 2), (.int 0), (.int 1), (.int 0), (.int p5)])) rfl (by rw [hml]; rfl) (argsL := [(.int 0), (.int 1), (.int 0), (.int 2), (.int p4), (.int p5), (.int p6)]) (rest := [(.int p5)]) (lenOf own_pd9 rfl) rfl (by show 2 * 0 + _ ≤ _; exact Nat.le_of_eq rfl) (hb hby at_215) (fun _ _ => ⟨rfl, z143, (by decide : 8 + 0 ≤ _), (by decide : 121 + 0 ≤ _)⟩)
        dsimp only [Pt.U, Pt.locs, Pt.cells, Pt.slots] at z1h l839 y839 z839 zkf zke
        replace z1h := own_sub z1h l839 y839 z839
        obtain ⟨rfl, z145, z146⟩ := zke
        have z147 := Fr.app z144 z145
        obtain ⟨_, _, ⟨zkg, L840, z1ld, n840⟩, -, z1i, ⟨Lc840, zkh, l840, y840, z840⟩, zki⟩ := Jvm.LawKit.callS z1h hx (y := own_m5) hown (mvT hZ (own_W hw 70 rfl)) (mvT hZ (own_W hw 71 rfl)) (mvT hZ (own_W hw 2 rfl)) (mvT hZ (own_W hw 72 rfl)) (by decide) (backOf (W := 1) (rmK0 l Z a0 hw [] z99.heap n0 A K (1 : Int32) (1 : Int32) (0 : Int32) (2 : Int32) p4 p5 p6 EN zas (by decide)) hZ (own_W hw 72 rfl) (own_W hw 2 rfl) (by decide) (by decide)) (g := (mkF m 235 #[.val (.int p1), .val (.int p2), .val (.int p3), .val (.int p4), .val (.int p5), .val (.int p6), .val (.int (p1 % 3)), .val (.int (p2 % 3)), .val (.int (p3 % 3)), .val (.int 1), .val (.int 0), .val (.int 2), .val (.ref z2), .val (.int p5), .val (.int p4), .val (.int p6)] [(.int p6), (.int p5), (.int p4), (.int 2), (.int 0), (.int 1), (.int 1), (.int p4)])) rfl (by rw [hml]; rfl) (argsL := [(.int 1), (.int 1), (.int 0), (.int 2), (.int p4), (.int p5), (.int p6)]) (rest := [(.int p4)]) (lenOf own_pd9 rfl) rfl (by show 2 * 0 + _ ≤ _; exact Nat.le_of_eq rfl) (hb hby at_235) (fun _ _ => ⟨rfl, z146, (by decide : 8 + 0 ≤ _), (by decide : 121 + 0 ≤ _)⟩)
        dsimp only [Pt.U, Pt.locs, Pt.cells, Pt.slots] at z1i l840 y840 z840 zki zkh
        replace z1i := own_sub z1i l840 y840 z840
        obtain ⟨rfl, z148, z149⟩ := zkh
        have z14a := Fr.app z147 z148
        obtain ⟨_, _, ⟨zct, L841, z1le, n841⟩, -, z5r, ⟨Lc841, zkj, l841, y841, z841⟩, zkk⟩ := Jvm.LawKit.callS z1i hx (y := own_m5) hown (mvT hZ (own_W hw 70 rfl)) (mvT hZ (own_W hw 71 rfl)) (mvT hZ (own_W hw 2 rfl)) (mvT hZ (own_W hw 72 rfl)) (by decide) (backOf (W := 1) (rmK2 l Z a0 hw [] z99.heap n0 A K (2 : Int32) (1 : Int32) (0 : Int32) (2 : Int32) p4 p5 p6 EN zas (by decide) (by decide)) hZ (own_W hw 72 rfl) (own_W hw 2 rfl) (by decide) (by decide)) (g := (mkF m 255 #[.val (.int p1), .val (.int p2), .val (.int p3), .val (.int p4), .val (.int p5), .val (.int p6), .val (.int (p1 % 3)), .val (.int (p2 % 3)), .val (.int (p3 % 3)), .val (.int 1), .val (.int 0), .val (.int 2), .val (.ref z2), .val (.int p5), .val (.int p4), .val (.int p6)] [(.int p6), (.int p5), (.int p4), (.int 2), (.int 0), (.int 1), (.int 2), (.int p6)])) rfl (by rw [hml]; rfl) (argsL := [(.int 2), (.int 1), (.int 0), (.int 2), (.int p4), (.int p5), (.int p6)]) (rest := [(.int p6)]) (lenOf own_pd9 rfl) rfl (by show 2 * 0 + _ ≤ _; exact Nat.le_of_eq rfl) (hb hby at_255) (fun _ _ => ⟨rfl, z149, (by decide : 8 + 0 ≤ _), (by decide : 121 + 0 ≤ _)⟩)
        dsimp only [Pt.U, Pt.locs, Pt.cells, Pt.slots] at z5r l841 y841 z841 zkk zkj
        replace z5r := own_sub z5r l841 y841 z841
        obtain ⟨rfl, z14b, z1lf⟩ := zkj
        have z14c := Fr.app z14a z14b
        obtain ⟨fs, hr, hrun, hended, hW, hsame⟩ := z5r.leave (v := some (.int 1)) (fun h => by rw [Bd.returns] at h; cases h)
        refine ⟨_, _, pre0 _ ?_, hrun, hended, _, _, rfl, ?_, ⟨_, rfl⟩, hW, hsame.mono (by decide) (by decide)⟩
        · show Steps p.tables e below (s₁.setTop (mkF m 0 #[.val (.int p1), .val (.int p2), .val (.int p3), .val (.int p4), .val (.int p5), .val (.int p6), .unset, .unset, .unset, .unset, .unset, .unset, .unset, .unset, .unset, .unset] [])) _
          refine XS.iloadN X0.here hx rfl (hb hby at_0) rfl ?_
          refine XS.iconst X0.here hx rfl (hb hby at_1) ?_
          refine iremM X0 hx rfl (hb hby at_2) rfl (by decide) ?_
          show Steps p.tables e below (s₁.setTop (mkF m 3 #[.val (.int p1), .val (.int p2), .val (.int p3), .val (.int p4), .val (.int p5), .val (.int p6), .unset, .unset, .unset, .unset, .unset, .unset, .unset, .unset, .unset, .unset] [(.int (p1 % 3))])) _
          refine XS.istore X0.here hx rfl (hb hby at_3) rfl (l' := #[.val (.int p1), .val (.int p2), .val (.int p3), .val (.int p4), .val (.int p5), .val (.int p6), .val (.int (p1 % 3)), .unset, .unset, .unset, .unset, .unset, .unset, .unset, .unset, .unset]) rfl ?_
          refine XS.iloadN X0.here hx rfl (hb hby at_5) rfl ?_
          refine XS.iconst X0.here hx rfl (hb hby at_6) ?_
          refine iremM X0 hx rfl (hb hby at_7) rfl (by decide) ?_
          show Steps p.tables e below (s₁.setTop (mkF m 8 #[.val (.int p1), .val (.int p2), .val (.int p3), .val (.int p4), .val (.int p5), .val (.int p6), .val (.int (p1 % 3)), .unset, .unset, .unset, .unset, .unset, .unset, .unset, .unset, .unset] [(.int (p2 % 3))])) _
          refine XS.istore X0.here hx rfl (hb hby at_8) rfl (l' := #[.val (.int p1), .val (.int p2), .val (.int p3), .val (.int p4), .val (.int p5), .val (.int p6), .val (.int (p1 % 3)), .val (.int (p2 % 3)), .unset, .unset, .unset, .unset, .unset, .unset, .unset, .unset]) rfl ?_
          refine XS.iloadN X0.here hx rfl (hb hby at_10) rfl ?_
          refine XS.iconst X0.here hx rfl (hb hby at_11) ?_
          refine iremM X0 hx rfl (hb hby at_12) rfl (by decide) ?_
          show Steps p.tables e below (s₁.setTop (mkF m 13 #[.val (.int p1), .val (.int p2), .val (.int p3), .val (.int p4), .val (.int p5), .val (.int p6), .val (.int (p1 % 3)), .val (.int (p2 % 3)), .unset, .unset, .unset, .unset, .unset, .unset, .unset, .unset] [(.int (p3 % 3))])) _
          refine XS.istore X0.here hx rfl (hb hby at_13) rfl (l' := #[.val (.int p1), .val (.int p2), .val (.int p3), .val (.int p4), .val (.int p5), .val (.int p6), .val (.int (p1 % 3)), .val (.int (p2 % 3)), .val (.int (p3 % 3)), .unset, .unset, .unset, .unset, .unset, .unset, .unset]) rfl ?_
          refine XS.iload X0.here hx rfl (hb hby at_15) rfl ?_
          refine XS.iconst X0.here hx rfl (hb hby at_17) ?_
          refine XS.iload X0.here hx rfl (hb hby at_18) rfl ?_
          refine XS.iconst X0.here hx rfl (hb hby at_20) ?_
          refine zim _ ?_
          show Steps p.tables e below (zik.setTop (mkF m 24 #[.val (.int p1), .val (.int p2), .val (.int p3), .val (.int p4), .val (.int p5), .val (.int p6), .val (.int (p1 % 3)), .val (.int (p2 % 3)), .val (.int (p3 % 3)), .unset, .unset, .unset, .unset, .unset, .unset, .unset] [(.int (own_f_rmB (p2 % 3) (1 : Int32) (p1 % 3) (0 : Int32)))])) _
          refine XS.ifNo z2f.here hx rfl (hb hby at_24) rfl ((if0 _ _).trans (feq (own_bf_y1 z16)).1) ?_
          show Steps p.tables e below (zik.setTop (mkF m 27 #[.val (.int p1), .val (.int p2), .val (.int p3), .val (.int p4), .val (.int p5), .val (.int p6), .val (.int (p1 % 3)), .val (.int (p2 % 3)), .val (.int (p3 % 3)), .unset, .unset, .unset, .unset, .unset, .unset, .unset] [])) _
          refine XS.iconst z2f.here hx rfl (hb hby at_27) ?_
          refine XS.goto z2f.here hx rfl (pc0 := 28) (pc' := 32) rfl (hb hby at_28) (by decide) (by decide) ?_
          refine XS.iload z2f.here hx rfl (hb hby at_32) rfl ?_
          refine XS.iconst z2f.here hx rfl (hb hby at_34) ?_
          refine XS.iload z2f.here hx rfl (hb hby at_35) rfl ?_
          refine XS.iconst z2f.here hx rfl (hb hby at_37) ?_
          refine zio _ ?_
          show Steps p.tables e below (zca.setTop (mkF m 41 #[.val (.int p1), .val (.int p2), .val (.int p3), .val (.int p4), .val (.int p5), .val (.int p6), .val (.int (p1 % 3)), .val (.int (p2 % 3)), .val (.int (p3 % 3)), .unset, .unset, .unset, .unset, .unset, .unset, .unset] [(.int (own_f_rmB (p3 % 3) (2 : Int32) (p1 % 3) (0 : Int32))), (.int 1)])) _
          refine XS.ifYes z1y.here hx rfl (pc0 := 41) (pc' := 48) rfl (hb hby at_41) rfl ((if0 _ _).trans (teq (own_bf_n2 z55 (by decide))).1) (by decide) (by decide) ?_
          show Steps p.tables e below (zca.setTop (mkF m 48 #[.val (.int p1), .val (.int p2), .val (.int p3), .val (.int p4), .val (.int p5), .val (.int p6), .val (.int (p1 % 3)), .val (.int (p2 % 3)), .val (.int (p3 % 3)), .unset, .unset, .unset, .unset, .unset, .unset, .unset] [(.int 1)])) _
          refine XS.iconst z1y.here hx rfl (hb hby at_48) ?_
          refine XS.iadd z1y.here hx rfl (hb hby at_49) rfl ?_
          show Steps p.tables e below (zca.setTop (mkF m 50 #[.val (.int p1), .val (.int p2), .val (.int p3), .val (.int p4), .val (.int p5), .val (.int p6), .val (.int (p1 % 3)), .val (.int (p2 % 3)), .val (.int (p3 % 3)), .unset, .unset, .unset, .unset, .unset, .unset, .unset] [(.int 1)])) _
          refine XS.istore z1y.here hx rfl (hb hby at_50) rfl (l' := #[.val (.int p1), .val (.int p2), .val (.int p3), .val (.int p4), .val (.int p5), .val (.int p6), .val (.int (p1 % 3)), .val (.int (p2 % 3)), .val (.int (p3 % 3)), .val (.int 1), .unset, .unset, .unset, .unset, .unset, .unset]) rfl ?_
          refine XS.iload z1y.here hx rfl (hb hby at_52) rfl ?_
          refine XS.iconst z1y.here hx rfl (hb hby at_54) ?_
          refine XS.iload z1y.here hx rfl (hb hby at_55) rfl ?_
          refine XS.iconst z1y.here hx rfl (hb hby at_57) ?_
          refine zir _ ?_
          show Steps p.tables e below (zip.setTop (mkF m 61 #[.val (.int p1), .val (.int p2), .val (.int p3), .val (.int p4), .val (.int p5), .val (.int p6), .val (.int (p1 % 3)), .val (.int (p2 % 3)), .val (.int (p3 % 3)), .val (.int 1), .unset, .unset, .unset, .unset, .unset, .unset] [(.int (own_f_rmB (p1 % 3) (0 : Int32) (p2 % 3) (1 : Int32)))])) _
          refine XS.ifYes z3i.here hx rfl (pc0 := 61) (pc' := 68) rfl (hb hby at_61) rfl ((if0 _ _).trans (teq (own_bf_n1 z16)).1) (by decide) (by decide) ?_
          show Steps p.tables e below (zip.setTop (mkF m 68 #[.val (.int p1), .val (.int p2), .val (.int p3), .val (.int p4), .val (.int p5), .val (.int p6), .val (.int (p1 % 3)), .val (.int (p2 % 3)), .val (.int (p3 % 3)), .val (.int 1), .unset, .unset, .unset, .unset, .unset, .unset] [])) _
          refine XS.iconst z3i.here hx rfl (hb hby at_68) ?_
          refine XS.iload z3i.here hx rfl (hb hby at_69) rfl ?_
          refine XS.iconst z3i.here hx rfl (hb hby at_71) ?_
          refine XS.iload z3i.here hx rfl (hb hby at_72) rfl ?_
          refine XS.iconst z3i.here hx rfl (hb hby at_74) ?_
          refine zit _ ?_
          show Steps p.tables e below (zcb.setTop (mkF m 78 #[.val (.int p1), .val (.int p2), .val (.int p3), .val (.int p4), .val (.int p5), .val (.int p6), .val (.int (p1 % 3)), .val (.int (p2 % 3)), .val (.int (p3 % 3)), .val (.int 1), .unset, .unset, .unset, .unset, .unset, .unset] [(.int (own_f_rmB (p3 % 3) (2 : Int32) (p2 % 3) (1 : Int32))), (.int 0)])) _
          refine XS.ifYes z1z.here hx rfl (pc0 := 78) (pc' := 85) rfl (hb hby at_78) rfl ((if0 _ _).trans (teq (own_bf_n2 zc9 (by decide))).1) (by decide) (by decide) ?_
          show Steps p.tables e below (zcb.setTop (mkF m 85 #[.val (.int p1), .val (.int p2), .val (.int p3), .val (.int p4), .val (.int p5), .val (.int p6), .val (.int (p1 % 3)), .val (.int (p2 % 3)), .val (.int (p3 % 3)), .val (.int 1), .unset, .unset, .unset, .unset, .unset, .unset] [(.int 0)])) _
          refine XS.iconst z1z.here hx rfl (hb hby at_85) ?_
          refine XS.iadd z1z.here hx rfl (hb hby at_86) rfl ?_
          show Steps p.tables e below (zcb.setTop (mkF m 87 #[.val (.int p1), .val (.int p2), .val (.int p3), .val (.int p4), .val (.int p5), .val (.int p6), .val (.int (p1 % 3)), .val (.int (p2 % 3)), .val (.int (p3 % 3)), .val (.int 1), .unset, .unset, .unset, .unset, .unset, .unset] [(.int 0)])) _
          refine XS.istore z1z.here hx rfl (hb hby at_87) rfl (l' := #[.val (.int p1), .val (.int p2), .val (.int p3), .val (.int p4), .val (.int p5), .val (.int p6), .val (.int (p1 % 3)), .val (.int (p2 % 3)), .val (.int (p3 % 3)), .val (.int 1), .val (.int 0), .unset, .unset, .unset, .unset, .unset]) rfl ?_
          refine XS.iload z1z.here hx rfl (hb hby at_89) rfl ?_
          refine XS.iconst z1z.here hx rfl (hb hby at_91) ?_
          refine XS.iload z1z.here hx rfl (hb hby at_92) rfl ?_
          refine XS.iconst z1z.here hx rfl (hb hby at_94) ?_
          refine ziw _ ?_
          show Steps p.tables e below (ziu.setTop (mkF m 98 #[.val (.int p1), .val (.int p2), .val (.int p3), .val (.int p4), .val (.int p5), .val (.int p6), .val (.int (p1 % 3)), .val (.int (p2 % 3)), .val (.int (p3 % 3)), .val (.int 1), .val (.int 0), .unset, .unset, .unset, .unset, .unset] [(.int (own_f_rmB (p1 % 3) (0 : Int32) (p3 % 3) (2 : Int32)))])) _
          refine XS.ifNo z2g.here hx rfl (hb hby at_98) rfl ((if0 _ _).trans (feq (own_bf_y2 z55 (by decide))).1) ?_
          show Steps p.tables e below (ziu.setTop (mkF m 101 #[.val (.int p1), .val (.int p2), .val (.int p3), .val (.int p4), .val (.int p5), .val (.int p6), .val (.int (p1 % 3)), .val (.int (p2 % 3)), .val (.int (p3 % 3)), .val (.int 1), .val (.int 0), .unset, .unset, .unset, .unset, .unset] [])) _
          refine XS.iconst z2g.here hx rfl (hb hby at_101) ?_
          refine XS.goto z2g.here hx rfl (pc0 := 102) (pc' := 106) rfl (hb hby at_102) (by decide) (by decide) ?_
          refine XS.iload z2g.here hx rfl (hb hby at_106) rfl ?_
          refine XS.iconst z2g.here hx rfl (hb hby at_108) ?_
          refine XS.iload z2g.here hx rfl (hb hby at_109) rfl ?_
          refine XS.iconst z2g.here hx rfl (hb hby at_111) ?_
          refine ziy _ ?_
          show Steps p.tables e below (zcc.setTop (mkF m 115 #[.val (.int p1), .val (.int p2), .val (.int p3), .val (.int p4), .val (.int p5), .val (.int p6), .val (.int (p1 % 3)), .val (.int (p2 % 3)), .val (.int (p3 % 3)), .val (.int 1), .val (.int 0), .unset, .unset, .unset, .unset, .unset] [(.int (own_f_rmB (p2 % 3) (1 : Int32) (p3 % 3) (2 : Int32))), (.int 1)])) _
          refine XS.ifNo z4q.here hx rfl (hb hby at_115) rfl ((if0 _ _).trans (feq (own_bf_y2 zc9 (by decide))).1) ?_
          show Steps p.tables e below (zcc.setTop (mkF m 118 #[.val (.int p1), .val (.int p2), .val (.int p3), .val (.int p4), .val (.int p5), .val (.int p6), .val (.int (p1 % 3)), .val (.int (p2 % 3)), .val (.int (p3 % 3)), .val (.int 1), .val (.int 0), .unset, .unset, .unset, .unset, .unset] [(.int 1)])) _
          refine XS.iconst z4q.here hx rfl (hb hby at_118) ?_
          refine XS.goto z4q.here hx rfl (pc0 := 119) (pc' := 123) rfl (hb hby at_119) (by decide) (by decide) ?_
          refine XS.iadd z4q.here hx rfl (hb hby at_123) rfl ?_
          show Steps p.tables e below (zcc.setTop (mkF m 124 #[.val (.int p1), .val (.int p2), .val (.int p3), .val (.int p4), .val (.int p5), .val (.int p6), .val (.int (p1 % 3)), .val (.int (p2 % 3)), .val (.int (p3 % 3)), .val (.int 1), .val (.int 0), .unset, .unset, .unset, .unset, .unset] [(.int 2)])) _
          refine XS.istore z4q.here hx rfl (hb hby at_124) rfl (l' := #[.val (.int p1), .val (.int p2), .val (.int p3), .val (.int p4), .val (.int p5), .val (.int p6), .val (.int (p1 % 3)), .val (.int (p2 % 3)), .val (.int (p3 % 3)), .val (.int 1), .val (.int 0), .val (.int 2), .unset, .unset, .unset, .unset]) rfl ?_
          refine zj1 _ ?_
          show Steps p.tables e below (z10b.setTop (mkF m 129 #[.val (.int p1), .val (.int p2), .val (.int p3), .val (.int p4), .val (.int p5), .val (.int p6), .val (.int (p1 % 3)), .val (.int (p2 % 3)), .val (.int (p3 % 3)), .val (.int 1), .val (.int 0), .val (.int 2), .unset, .unset, .unset, .unset] [(.ref z2)])) _
          refine XS.dup ziz.here hx rfl (hb hby at_129) rfl rfl ?_
          refine zj4.trans ?_
          show Steps p.tables e below (z4s.setTop (mkF m 133 #[.val (.int p1), .val (.int p2), .val (.int p3), .val (.int p4), .val (.int p5), .val (.int p6), .val (.int (p1 % 3)), .val (.int (p2 % 3)), .val (.int (p3 % 3)), .val (.int 1), .val (.int 0), .val (.int 2), .unset, .unset, .unset, .unset] [(.ref z2)])) _
          refine XS.astore z2h.here hx rfl (hb hby at_133) rfl rfl (l' := #[.val (.int p1), .val (.int p2), .val (.int p3), .val (.int p4), .val (.int p5), .val (.int p6), .val (.int (p1 % 3)), .val (.int (p2 % 3)), .val (.int (p3 % 3)), .val (.int 1), .val (.int 0), .val (.int 2), .val (.ref z2), .unset, .unset, .unset]) rfl ?_
          refine XS.aload z2h.here hx rfl (hb hby at_135) rfl rfl ?_
          refine XS.iload z2h.here hx rfl (hb hby at_137) rfl ?_
          refine XS.i2dS z2h.here hx rfl (hb hby at_139) rfl (i2d_w _) ?_
          show Steps p.tables e below (z4s.setTop (mkF m 140 #[.val (.int p1), .val (.int p2), .val (.int p3), .val (.int p4), .val (.int p5), .val (.int p6), .val (.int (p1 % 3)), .val (.int (p2 % 3)), .val (.int (p3 % 3)), .val (.int 1), .val (.int 0), .val (.int 2), .val (.ref z2), .unset, .unset, .unset] [(.double (Jvm.FP.l2d ((p1 % 3).toInt64))), (.ref z2)])) _
          refine XS.iloadN z2h.here hx rfl (hb hby at_140) rfl ?_
          refine XS.iconst z2h.here hx rfl (hb hby at_141) ?_
          refine XS.aconstNull z2h.here hx rfl (hb hby at_142) ?_
          refine zji.trans ?_
          show Steps p.tables e below (zch.setTop (mkF m 146 #[.val (.int p1), .val (.int p2), .val (.int p3), .val (.int p4), .val (.int p5), .val (.int p6), .val (.int (p1 % 3)), .val (.int (p2 % 3)), .val (.int (p3 % 3)), .val (.int 1), .val (.int 0), .val (.int 2), .val (.ref z2), .unset, .unset, .unset] [])) _
          refine XS.aload z3p.here hx rfl (hb hby at_146) rfl rfl ?_
          refine XS.iload z3p.here hx rfl (hb hby at_148) rfl ?_
          refine XS.i2dS z3p.here hx rfl (hb hby at_150) rfl (i2d_w _) ?_
          show Steps p.tables e below (zch.setTop (mkF m 151 #[.val (.int p1), .val (.int p2), .val (.int p3), .val (.int p4), .val (.int p5), .val (.int p6), .val (.int (p1 % 3)), .val (.int (p2 % 3)), .val (.int (p3 % 3)), .val (.int 1), .val (.int 0), .val (.int 2), .val (.ref z2), .unset, .unset, .unset] [(.double (Jvm.FP.l2d ((p2 % 3).toInt64))), (.ref z2)])) _
          refine XS.iload z3p.here hx rfl (hb hby at_151) rfl ?_
          refine XS.iconst z3p.here hx rfl (hb hby at_153) ?_
          refine XS.aconstNull z3p.here hx rfl (hb hby at_154) ?_
          refine zjn.trans ?_
          show Steps p.tables e below (zcj.setTop (mkF m 158 #[.val (.int p1), .val (.int p2), .val (.int p3), .val (.int p4), .val (.int p5), .val (.int p6), .val (.int (p1 % 3)), .val (.int (p2 % 3)), .val (.int (p3 % 3)), .val (.int 1), .val (.int 0), .val (.int 2), .val (.ref z2), .unset, .unset, .unset] [])) _
          refine XS.aload z3q.here hx rfl (hb hby at_158) rfl rfl ?_
          refine XS.iload z3q.here hx rfl (hb hby at_160) rfl ?_
          refine XS.i2dS z3q.here hx rfl (hb hby at_162) rfl (i2d_w _) ?_
          show Steps p.tables e below (zcj.setTop (mkF m 163 #[.val (.int p1), .val (.int p2), .val (.int p3), .val (.int p4), .val (.int p5), .val (.int p6), .val (.int (p1 % 3)), .val (.int (p2 % 3)), .val (.int (p3 % 3)), .val (.int 1), .val (.int 0), .val (.int 2), .val (.ref z2), .unset, .unset, .unset] [(.double (Jvm.FP.l2d ((p3 % 3).toInt64))), (.ref z2)])) _
          refine XS.iload z3q.here hx rfl (hb hby at_163) rfl ?_
          refine XS.iconst z3q.here hx rfl (hb hby at_165) ?_
          refine XS.aconstNull z3q.here hx rfl (hb hby at_166) ?_
          refine zjs.trans ?_
          show Steps p.tables e below (zar.setTop (mkF m 170 #[.val (.int p1), .val (.int p2), .val (.int p3), .val (.int p4), .val (.int p5), .val (.int p6), .val (.int (p1 % 3)), .val (.int (p2 % 3)), .val (.int (p3 % 3)), .val (.int 1), .val (.int 0), .val (.int 2), .val (.ref z2), .unset, .unset, .unset] [])) _
          refine XS.aload z97.here hx rfl (hb hby at_170) rfl rfl ?_
          refine zjy.trans ?_
          show Steps p.tables e below (z12z.setTop (mkF m 175 #[.val (.int p1), .val (.int p2), .val (.int p3), .val (.int p4), .val (.int p5), .val (.int p6), .val (.int (p1 % 3)), .val (.int (p2 % 3)), .val (.int (p3 % 3)), .val (.int 1), .val (.int 0), .val (.int 2), .val (.ref z2), .unset, .unset, .unset] [(.int p5)])) _
          refine XS.istore z7b.here hx rfl (hb hby at_175) rfl (l' := #[.val (.int p1), .val (.int p2), .val (.int p3), .val (.int p4), .val (.int p5), .val (.int p6), .val (.int (p1 % 3)), .val (.int (p2 % 3)), .val (.int (p3 % 3)), .val (.int 1), .val (.int 0), .val (.int 2), .val (.ref z2), .val (.int p5), .unset, .unset]) rfl ?_
          refine XS.aload z7b.here hx rfl (hb hby at_177) rfl rfl ?_
          refine zk1.trans ?_
          show Steps p.tables e below (zco.setTop (mkF m 182 #[.val (.int p1), .val (.int p2), .val (.int p3), .val (.int p4), .val (.int p5), .val (.int p6), .val (.int (p1 % 3)), .val (.int (p2 % 3)), .val (.int (p3 % 3)), .val (.int 1), .val (.int 0), .val (.int 2), .val (.ref z2), .val (.int p5), .unset, .unset] [])) _
          refine XS.aload z98.here hx rfl (hb hby at_182) rfl rfl ?_
          refine zk7.trans ?_
          show Steps p.tables e below (z13n.setTop (mkF m 187 #[.val (.int p1), .val (.int p2), .val (.int p3), .val (.int p4), .val (.int p5), .val (.int p6), .val (.int (p1 % 3)), .val (.int (p2 % 3)), .val (.int (p3 % 3)), .val (.int 1), .val (.int 0), .val (.int 2), .val (.ref z2), .val (.int p5), .unset, .unset] [(.int p4)])) _
          refine XS.istore z7c.here hx rfl (hb hby at_187) rfl (l' := #[.val (.int p1), .val (.int p2), .val (.int p3), .val (.int p4), .val (.int p5), .val (.int p6), .val (.int (p1 % 3)), .val (.int (p2 % 3)), .val (.int (p3 % 3)), .val (.int 1), .val (.int 0), .val (.int 2), .val (.ref z2), .val (.int p5), .val (.int p4), .unset]) rfl ?_
          refine XS.aload z7c.here hx rfl (hb hby at_189) rfl rfl ?_
          refine zka.trans ?_
          show Steps p.tables e below (z99.setTop (mkF m 194 #[.val (.int p1), .val (.int p2), .val (.int p3), .val (.int p4), .val (.int p5), .val (.int p6), .val (.int (p1 % 3)), .val (.int (p2 % 3)), .val (.int (p3 % 3)), .val (.int 1), .val (.int 0), .val (.int 2), .val (.ref z2), .val (.int p5), .val (.int p4), .unset] [])) _
          refine XS.aload z9a.here hx rfl (hb hby at_194) rfl rfl ?_
          refine zkc.trans ?_
          show Steps p.tables e below (z141.setTop (mkF m 199 #[.val (.int p1), .val (.int p2), .val (.int p3), .val (.int p4), .val (.int p5), .val (.int p6), .val (.int (p1 % 3)), .val (.int (p2 % 3)), .val (.int (p3 % 3)), .val (.int 1), .val (.int 0), .val (.int 2), .val (.ref z2), .val (.int p5), .val (.int p4), .unset] [(.int p6)])) _
          refine XS.istore z1g.here hx rfl (hb hby at_199) rfl (l' := #[.val (.int p1), .val (.int p2), .val (.int p3), .val (.int p4), .val (.int p5), .val (.int p6), .val (.int (p1 % 3)), .val (.int (p2 % 3)), .val (.int (p3 % 3)), .val (.int 1), .val (.int 0), .val (.int 2), .val (.ref z2), .val (.int p5), .val (.int p4), .val (.int p6)]) rfl ?_
          refine XS.iload z1g.here hx rfl (hb hby at_201) rfl ?_
          refine XS.iconst z1g.here hx rfl (hb hby at_203) ?_
          refine XS.iload z1g.here hx rfl (hb hby at_204) rfl ?_
          refine XS.iload z1g.here hx rfl (hb hby at_206) rfl ?_
          refine XS.iload z1g.here hx rfl (hb hby at_208) rfl ?_
          refine XS.iloadN z1g.here hx rfl (hb hby at_210) rfl ?_
          refine XS.iload z1g.here hx rfl (hb hby at_211) rfl ?_
          refine XS.iload z1g.here hx rfl (hb hby at_213) rfl ?_
          refine zkf _ ?_
          show Steps p.tables e below (zkd.setTop (mkF m 218 #[.val (.int p1), .val (.int p2), .val (.int p3), .val (.int p4), .val (.int p5), .val (.int p6), .val (.int (p1 % 3)), .val (.int (p2 % 3)), .val (.int (p3 % 3)), .val (.int 1), .val (.int 0), .val (.int 2), .val (.ref z2), .val (.int p5), .val (.int p4), .val (.int p6)] [(.int p5), (.int p5)])) _
          refine XS.icmpNo z1h.here hx rfl (hb hby at_218) rfl (teq (rfl : p5 = p5)).2 ?_
          show Steps p.tables e below (zkd.setTop (mkF m 221 #[.val (.int p1), .val (.int p2), .val (.int p3), .val (.int p4), .val (.int p5), .val (.int p6), .val (.int (p1 % 3)), .val (.int (p2 % 3)), .val (.int (p3 % 3)), .val (.int 1), .val (.int 0), .val (.int 2), .val (.ref z2), .val (.int p5), .val (.int p4), .val (.int p6)] [])) _
          refine XS.iload z1h.here hx rfl (hb hby at_221) rfl ?_
          refine XS.iconst z1h.here hx rfl (hb hby at_223) ?_
          refine XS.iload z1h.here hx rfl (hb hby at_224) rfl ?_
          refine XS.iload z1h.here hx rfl (hb hby at_226) rfl ?_
          refine XS.iload z1h.here hx rfl (hb hby at_228) rfl ?_
          refine XS.iloadN z1h.here hx rfl (hb hby at_230) rfl ?_
          refine XS.iload z1h.here hx rfl (hb hby at_231) rfl ?_
          refine XS.iload z1h.here hx rfl (hb hby at_233) rfl ?_
          refine zki _ ?_
          show Steps p.tables e below (zkg.setTop (mkF m 238 #[.val (.int p1), .val (.int p2), .val (.int p3), .val (.int p4), .val (.int p5), .val (.int p6), .val (.int (p1 % 3)), .val (.int (p2 % 3)), .val (.int (p3 % 3)), .val (.int 1), .val (.int 0), .val (.int 2), .val (.ref z2), .val (.int p5), .val (.int p4), .val (.int p6)] [(.int p4), (.int p4)])) _
          refine XS.icmpNo z1i.here hx rfl (hb hby at_238) rfl (teq (rfl : p4 = p4)).2 ?_
          show Steps p.tables e below (zkg.setTop (mkF m 241 #[.val (.int p1), .val (.int p2), .val (.int p3), .val (.int p4), .val (.int p5), .val (.int p6), .val (.int (p1 % 3)), .val (.int (p2 % 3)), .val (.int (p3 % 3)), .val (.int 1), .val (.int 0), .val (.int 2), .val (.ref z2), .val (.int p5), .val (.int p4), .val (.int p6)] [])) _
          refine XS.iload z1i.here hx rfl (hb hby at_241) rfl ?_
          refine XS.iconst z1i.here hx rfl (hb hby at_243) ?_
          refine XS.iload z1i.here hx rfl (hb hby at_244) rfl ?_
          refine XS.iload z1i.here hx rfl (hb hby at_246) rfl ?_
          refine XS.iload z1i.here hx rfl (hb hby at_248) rfl ?_
          refine XS.iloadN z1i.here hx rfl (hb hby at_250) rfl ?_
          refine XS.iload z1i.here hx rfl (hb hby at_251) rfl ?_
          refine XS.iload z1i.here hx rfl (hb hby at_253) rfl ?_
          refine zkk _ ?_
          show Steps p.tables e below (zct.setTop (mkF m 258 #[.val (.int p1), .val (.int p2), .val (.int p3), .val (.int p4), .val (.int p5), .val (.int p6), .val (.int (p1 % 3)), .val (.int (p2 % 3)), .val (.int (p3 % 3)), .val (.int 1), .val (.int 0), .val (.int 2), .val (.ref z2), .val (.int p5), .val (.int p4), .val (.int p6)] [(.int p6), (.int p6)])) _
          refine XS.icmpNo z5r.here hx rfl (hb hby at_258) rfl (teq (rfl : p6 = p6)).2 ?_
          show Steps p.tables e below (zct.setTop (mkF m 261 #[.val (.int p1), .val (.int p2), .val (.int p3), .val (.int p4), .val (.int p5), .val (.int p6), .val (.int (p1 % 3)), .val (.int (p2 % 3)), .val (.int (p3 % 3)), .val (.int 1), .val (.int 0), .val (.int 2), .val (.ref z2), .val (.int p5), .val (.int p4), .val (.int p6)] [])) _
          refine XS.iconst z5r.here hx rfl (hb hby at_261) ?_
          refine XS.goto z5r.here hx rfl (pc0 := 262) (pc' := 266) rfl (hb hby at_262) (by decide) (by decide) ?_
          exact retN z5r hx (t := .boolean) Bd.returns (by simp) (hb hby at_266) hr
        · show LQ n0 _ zct.heap _
          exact ⟨rfl, z14c, trivial⟩
  · by_cases z4u : (p3 % 3) < (p1 % 3)
    · by_cases zkl : (p3 % 3) < (p2 % 3)
      · obtain ⟨_, _, ⟨zkm, L844, z1lg, n844⟩, -, z3r, ⟨Lc844, zkn, l844, y844, z844⟩, zko⟩ := Jvm.LawKit.callS X0 hx (y := own_m2) hown (mvT hZ (own_W hw 0 rfl)) (mvT hZ (own_W hw 1 rfl)) (mvT hZ (own_W hw 2 rfl)) (mvT hZ (own_W hw 3 rfl)) (by decide) (backOf (W := 0) (rmB l Z a0 hw [] h0 n0 A K (p2 % 3) (1 : Int32) (p1 % 3) (0 : Int32) EN OL0) hZ (own_W hw 3 rfl) (own_W hw 2 rfl) (by decide) (by decide)) (g := (mkF m 21 #[.val (.int p1), .val (.int p2), .val (.int p3), .val (.int p4), .val (.int p5), .val (.int p6), .val (.int (p1 % 3)), .val (.int (p2 % 3)), .val (.int (p3 % 3)), .unset, .unset, .unset, .unset, .unset, .unset, .unset] [(.int 0), (.int (p1 % 3)), (.int 1), (.int (p2 % 3))])) rfl (by rw [hml]; rfl) (argsL := [(.int (p2 % 3)), (.int 1), (.int (p1 % 3)), (.int 0)]) (rest := []) (lenOf own_pd4 rfl) rfl (by show 2 * 0 + _ ≤ _; exact Nat.le_of_eq rfl) (hb hby at_21) (fun _ _ => ⟨rfl, e0, (by decide : 0 + 0 ≤ _), (by decide : 0 + 0 ≤ _)⟩)
        dsimp only [Pt.U, Pt.locs, Pt.cells, Pt.slots] at z3r l844 y844 z844 zko zkn
        replace z3r := own_sub z3r l844 y844 z844
        obtain ⟨rfl, z14d, z14e⟩ := zkn
        have z14f := Fr.app N0 z14d
        obtain ⟨_, _, ⟨zcu, L845, z1lh, n845⟩, -, z1j, ⟨Lc845, zkp, l845, y845, z845⟩, zkq⟩ := Jvm.LawKit.callS z3r hx (y := own_m2) hown (mvT hZ (own_W hw 0 rfl)) (mvT hZ (own_W hw 1 rfl)) (mvT hZ (own_W hw 2 rfl)) (mvT hZ (own_W hw 3 rfl)) (by decide) (backOf (W := 1) (rmB l Z a0 hw [] h0 n0 A K (p3 % 3) (2 : Int32) (p1 % 3) (0 : Int32) EN OL0) hZ (own_W hw 3 rfl) (own_W hw 2 rfl) (by decide) (by decide)) (g := (mkF m 38 #[.val (.int p1), .val (.int p2), .val (.int p3), .val (.int p4), .val (.int p5), .val (.int p6), .val (.int (p1 % 3)), .val (.int (p2 % 3)), .val (.int (p3 % 3)), .unset, .unset, .unset, .unset, .unset, .unset, .unset] [(.int 0), (.int (p1 % 3)), (.int 2), (.int (p3 % 3)), (.int 0)])) rfl (by rw [hml]; rfl) (argsL := [(.int (p3 % 3)), (.int 2), (.int (p1 % 3)), (.int 0)]) (rest := [(.int 0)]) (lenOf own_pd4 rfl) rfl (by show 2 * 0 + _ ≤ _; exact Nat.le_of_eq rfl) (hb hby at_38) (fun _ _ => ⟨rfl, z14e, (by decide : 0 + 0 ≤ _), (by decide : 0 + 0 ≤ _)⟩)
        dsimp only [Pt.U, Pt.locs, Pt.cells, Pt.slots] at z1j l845 y845 z845 zkq zkp
        replace z1j := own_sub z1j l845 y845 z845
        obtain ⟨rfl, z14g, z14h⟩ := zkp
        have z14i := Fr.app z14f z14g
        obtain ⟨_, _, ⟨zkr, L846, z1li, n846⟩, -, z2k, ⟨Lc846, zks, l846, y846, z846⟩, zkt⟩ := Jvm.LawKit.callS z1j hx (y := own_m2) hown (mvT hZ (own_W hw 0 rfl)) (mvT hZ (own_W hw 1 rfl)) (mvT hZ (own_W hw 2 rfl)) (mvT hZ (own_W hw 3 rfl)) (by decide) (backOf (W := 0) (rmB l Z a0 hw [] h0 n0 A K (p1 % 3) (0 : Int32) (p2 % 3) (1 : Int32) EN OL0) hZ (own_W hw 3 rfl) (own_W hw 2 rfl) (by decide) (by decide)) (g := (mkF m 58 #[.val (.int p1), .val (.int p2), .val (.int p3), .val (.int p4), .val (.int p5), .val (.int p6), .val (.int (p1 % 3)), .val (.int (p2 % 3)), .val (.int (p3 % 3)), .val (.int 1), .unset, .unset, .unset, .unset, .unset, .unset] [(.int 1), (.int (p2 % 3)), (.int 0), (.int (p1 % 3))])) rfl (by rw [hml]; rfl) (argsL := [(.int (p1 % 3)), (.int 0), (.int (p2 % 3)), (.int 1)]) (rest := []) (lenOf own_pd4 rfl) rfl (by show 2 * 0 + _ ≤ _; exact Nat.le_of_eq rfl) (hb hby at_58) (fun _ _ => ⟨rfl, z14h, (by decide : 0 + 0 ≤ _), (by decide : 0 + 0 ≤ _)⟩)
        dsimp only [Pt.U, Pt.locs, Pt.cells, Pt.slots] at z2k l846 y846 z846 zkt zks
        replace z2k := own_sub z2k l846 y846 z846
        obtain ⟨rfl, z14j, z14k⟩ := zks
        have z14l := Fr.app z14i z14j
        obtain ⟨_, _, ⟨zcv, L847, z1lj, n847⟩, -, z1k, ⟨Lc847, zku, l847, y847, z847⟩, zkv⟩ := Jvm.LawKit.callS z2k hx (y := own_m2) hown (mvT hZ (own_W hw 0 rfl)) (mvT hZ (own_W hw 1 rfl)) (mvT hZ (own_W hw 2 rfl)) (mvT hZ (own_W hw 3 rfl)) (by decide) (backOf (W := 1) (rmB l Z a0 hw [] h0 n0 A K (p3 % 3) (2 : Int32) (p2 % 3) (1 : Int32) EN OL0) hZ (own_W hw 3 rfl) (own_W hw 2 rfl) (by decide) (by decide)) (g := (mkF m 75 #[.val (.int p1), .val (.int p2), .val (.int p3), .val (.int p4), .val (.int p5), .val (.int p6), .val (.int (p1 % 3)), .val (.int (p2 % 3)), .val (.int (p3 % 3)), .val (.int 1), .unset, .unset, .unset, .unset, .unset, .unset] [(.int 1), (.int (p2 % 3)), (.int 2), (.int (p3 % 3)), (.int 1)])) rfl (by rw [hml]; rfl) (argsL := [(.int (p3 % 3)), (.int 2), (.int (p2 % 3)), (.int 1)]) (rest := [(.int 1)]) (lenOf own_pd4 rfl) rfl (by show 2 * 0 + _ ≤ _; exact Nat.le_of_eq rfl) (hb hby at_75) (fun _ _ => ⟨rfl, z14k, (by decide : 0 + 0 ≤ _), (by decide : 0 + 0 ≤ _)⟩)
        dsimp only [Pt.U, Pt.locs, Pt.cells, Pt.slots] at z1k l847 y847 z847 zkv zku
        replace z1k := own_sub z1k l847 y847 z847
        obtain ⟨rfl, z14m, z14n⟩ := zku
        have z14o := Fr.app z14l z14m
        obtain ⟨_, _, ⟨zkw, L848, z1lk, n848⟩, -, z3s, ⟨Lc848, zkx, l848, y848, z848⟩, zky⟩ := Jvm.LawKit.callS z1k hx (y := own_m2) hown (mvT hZ (own_W hw 0 rfl)) (mvT hZ (own_W hw 1 rfl)) (mvT hZ (own_W hw 2 rfl)) (mvT hZ (own_W hw 3 rfl)) (by decide) (backOf (W := 0) (rmB l Z a0 hw [] h0 n0 A K (p1 % 3) (0 : Int32) (p3 % 3) (2 : Int32) EN OL0) hZ (own_W hw 3 rfl) (own_W hw 2 rfl) (by decide) (by decide)) (g := (mkF m 95 #[.val (.int p1), .val (.int p2), .val (.int p3), .val (.int p4), .val (.int p5), .val (.int p6), .val (.int (p1 % 3)), .val (.int (p2 % 3)), .val (.int (p3 % 3)), .val (.int 1), .val (.int 2), .unset, .unset, .unset, .unset, .unset] [(.int 2), (.int (p3 % 3)), (.int 0), (.int (p1 % 3))])) rfl (by rw [hml]; rfl) (argsL := [(.int (p1 % 3)), (.int 0), (.int (p3 % 3)), (.int 2)]) (rest := []) (lenOf own_pd4 rfl) rfl (by show 2 * 0 + _ ≤ _; exact Nat.le_of_eq rfl) (hb hby at_95) (fun _ _ => ⟨rfl, z14n, (by decide : 0 + 0 ≤ _), (by decide : 0 + 0 ≤ _)⟩)
        dsimp only [Pt.U, Pt.locs, Pt.cells, Pt.slots] at z3s l848 y848 z848 zky zkx
        replace z3s := own_sub z3s l848 y848 z848
        obtain ⟨rfl, z14p, z14q⟩ := zkx
        have z14r := Fr.app z14o z14p
        obtain ⟨_, _, ⟨zcw, L849, z1ll, n849⟩, -, z5s, ⟨Lc849, zkz, l849, y849, z849⟩, zl0⟩ := Jvm.LawKit.callS z3s hx (y := own_m2) hown (mvT hZ (own_W hw 0 rfl)) (mvT hZ (own_W hw 1 rfl)) (mvT hZ (own_W hw 2 rfl)) (mvT hZ (own_W hw 3 rfl)) (by decide) (backOf (W := 1) (rmB l Z a0 hw [] h0 n0 A K (p2 % 3) (1 : Int32) (p3 % 3) (2 : Int32) EN OL0) hZ (own_W hw 3 rfl) (own_W hw 2 rfl) (by decide) (by decide)) (g := (mkF m 112 #[.val (.int p1), .val (.int p2), .val (.int p3), .val (.int p4), .val (.int p5), .val (.int p6), .val (.int (p1 % 3)), .val (.int (p2 % 3)), .val (.int (p3 % 3)), .val (.int 1), .val (.int 2), .unset, .unset, .unset, .unset, .unset] [(.int 2), (.int (p3 % 3)), (.int 1), (.int (p2 % 3)), (.int 0)])) rfl (by rw [hml]; rfl) (argsL := [(.int (p2 % 3)), (.int 1), (.int (p3 % 3)), (.int 2)]) (rest := [(.int 0)]) (lenOf own_pd4 rfl) rfl (by show 2 * 0 + _ ≤ _; exact Nat.le_of_eq rfl) (hb hby at_112) (fun _ _ => ⟨rfl, z14q, (by decide : 0 + 0 ≤ _), (by decide : 0 + 0 ≤ _)⟩)
        dsimp only [Pt.U, Pt.locs, Pt.cells, Pt.slots] at z5s l849 y849 z849 zl0 zkz
        replace z5s := own_sub z5s l849 y849 z849
        obtain ⟨rfl, z14s, z14t⟩ := zkz
        have z14u := Fr.app z14r z14s
        obtain ⟨z14v, z3t, zl1, z14w, zl2, z4v, z3u, -, zl3⟩ := newO z5s hx hZ hown (own_W hw 4 rfl) (own_W hw 5 rfl) (own_W hw 6 rfl) z14t (g := (mkF m 126 #[.val (.int p1), .val (.int p2), .val (.int p3), .val (.int p4), .val (.int p5), .val (.int p6), .val (.int (p1 % 3)), .val (.int (p2 % 3)), .val (.int (p3 % 3)), .val (.int 1), .val (.int 2), .val (.int 0), .unset, .unset, .unset, .unset] [])) rfl (hb hby at_126) (by decide) (by decide)
        obtain ⟨z3, zcx⟩ : ∃ z, z = h0.size := ⟨_, rfl⟩
        rw [← zcx] at z4v z3u zl3
        have z21 : n0 ≤ z3 := Nat.le_trans (OL0.1 ▸ OL0.2.1) (Nat.le_of_eq zcx.symm)
        have z7d : h0.size ≤ z3 := Nat.le_trans KK0.1 (Nat.le_of_eq zcx.symm)
        have zl4 := OL0.ext zl2
        have z5t := KK0.ext zl2
        have z14x : Fld Z z3t z3 y_s0 "at" "[D" .null := z3u (Or.inl (own_W hw 15 rfl)) (ty := (.array .double)) (by decide)
        have z14y : Fld Z z3t z3 y_s0 "added" "[J" .null := z3u (Or.inl (own_W hw 18 rfl)) (ty := (.array .long)) (by decide)
        have z14z : Fld Z z3t z3 y_s0 "slot" "[I" .null := z3u (Or.inl (own_W hw 21 rfl)) (ty := (.array .int)) (by decide)
        have z150 : Fld Z z3t z3 y_s0 "from" "[I" .null := z3u (Or.inl (own_W hw 23 rfl)) (ty := (.array .int)) (by decide)
        have z151 : Fld Z z3t z3 y_s0 "to" "[I" .null := z3u (Or.inl (own_W hw 25 rfl)) (ty := (.array .int)) (by decide)
        have z152 : Fld Z z3t z3 y_s0 "message" y_s1 .null := z3u (Or.inl (own_W hw 29 rfl)) (ty := (.array (.object y_s2))) (by decide)
        have z153 : Fld Z z3t z3 y_s0 "free" "[I" .null := z3u (Or.inl (own_W hw 31 rfl)) (ty := (.array .int)) (by decide)
        have z154 : Fld Z z3t z3 y_s0 "size" "I" (.int 0) := z3u (Or.inl (own_W hw 42 rfl)) (ty := .int) (by decide)
        have z155 : Fld Z z3t z3 y_s0 "additions" "J" (.long 0) := z3u (Or.inl (own_W hw 44 rfl)) (ty := .long) (by decide)
        obtain ⟨_, _, ⟨z4w, L851, z1lm, n851⟩, -, z2l, ⟨Lc851, zl5, l851, y851, z851⟩, zl6⟩ := zl1.specialBack hx (y := own_m7) rfl hown (mvT hZ (own_W hw 7 rfl)) (mvT hZ (own_W hw 8 rfl)) (mvT hZ (own_W hw 9 rfl)) (by decide) (backOf (W := 1) (rmL1 l Z a0 hw [] z3t n0 p1 p2 p3 p4 p5 p6 A K z3 EN zl4 z4v z14x z14y z14z z150 z151 z152 z153 z154 z155 z21) hZ (own_W hw 9 rfl) (own_W hw 6 rfl) (by decide) (by decide)) (g := (mkF m 130 #[.val (.int p1), .val (.int p2), .val (.int p3), .val (.int p4), .val (.int p5), .val (.int p6), .val (.int (p1 % 3)), .val (.int (p2 % 3)), .val (.int (p3 % 3)), .val (.int 1), .val (.int 2), .val (.int 0), .unset, .unset, .unset, .unset] [(.ref z3), (.ref z3)])) rfl (by rw [hml]; rfl) (Steps.refl _) (a := z3) (argsL := []) (rest := [(.ref z3)]) (lenOf own_pd6 rfl) rfl (by show 2 * 0 + _ ≤ _; exact Nat.le_of_eq rfl) (hb hby at_130) (fun _ _ => ⟨rfl, z14w, (by decide : 1 + 7 ≤ _), (by decide : 9 + 112 ≤ _)⟩)
        dsimp only [Pt.U, Pt.locs, Pt.cells, Pt.slots] at z2l l851 y851 z851 zl6 zl5
        replace z2l := own_sub z2l l851 y851 z851
        obtain ⟨z5u, z5v, z2m, z2n, z5w, z5x, z5y, z7e, z7f, z4x, z6i, zat, z7g, z7h, rfl, z156, zl7, ⟨z3v, zl8⟩, ⟨z3w, zl9⟩, ⟨z3x, zla⟩, ⟨z7i, zlb⟩, ⟨z7j, zlc⟩, ⟨z3y, zld⟩, ⟨zau, zle⟩, z10, zo, z9, zf, zp, z11, zlf, z157, z158, z159, z15a, z15b, z15c, z15d, z15e, z15f, z15g, z15h, z15i, z15j, z15k, z15l, z15m, zlg⟩ := zl5
        have z15n := Fr.app z14u z156
        have z9b : z3 < z5u := Nat.lt_of_lt_of_le z4v.lt zl8
        have z9c : z3 < z5v := Nat.lt_of_lt_of_le z4v.lt zl9
        have z9d : z3 < z2m := Nat.lt_of_lt_of_le z4v.lt zla
        have z9e : z3 < z2n := Nat.lt_of_lt_of_le z4v.lt zlb
        have zcy : z3 < z5w := Nat.lt_of_lt_of_le z4v.lt zlc
        have z9f : z3 < z5x := Nat.lt_of_lt_of_le z4v.lt zld
        have z9g : z3 < z5y := Nat.lt_of_lt_of_le z4v.lt zle
        have z9h : h0.size ≤ z5u := Nat.le_trans z5t.1 zl8
        have z9i : h0.size ≤ z5v := Nat.le_trans z5t.1 zl9
        have z9j : h0.size ≤ z2m := Nat.le_trans z5t.1 zla
        have zcz : h0.size ≤ z2n := Nat.le_trans z5t.1 zlb
        have zd0 : h0.size ≤ z5w := Nat.le_trans z5t.1 zlc
        have z9k : h0.size ≤ z5x := Nat.le_trans z5t.1 zld
        have zlh : h0.size ≤ z5y := Nat.le_trans z5t.1 zle
        have zli := zl4.keep zl7 (allS z21 all0)
        have z15o := z5t.trans zl7 (allS (Or.inr z7d) all0)
        have z15p : Arv Z z4w.heap z5u z7e .double (16 : Int32) [(.double (Jvm.FP.l2d ((0 : Int32).toInt64))), (.double (Jvm.FP.l2d ((0 : Int32).toInt64))), (.double (Jvm.FP.l2d ((0 : Int32).toInt64)))] (.double (Jvm.FP.l2d ((0 : Int32).toInt64))) := Arv.pad z15g (pad_rep [] (.double (Jvm.FP.l2d ((0 : Int32).toInt64))) 3)
        have z15q : Arv Z z4w.heap z5v z7f .long (16 : Int32) [(.long 0), (.long 0), (.long 0)] (.long 0) := Arv.pad z15h (pad_rep [] (.long 0) 3)
        have z15r : Arv Z z4w.heap z2m z4x .int 16 [(.int 0), (.int 0), (.int 0)] (.int 0) := Arv.pad z15i (pad_rep [] (.int 0) 3)
        have z15s : Arv Z z4w.heap z2n z6i .int 16 [(.int 0), (.int 0), (.int 0)] (.int 0) := Arv.pad z15j (pad_rep [] (.int 0) 3)
        have z15t : Arv Z z4w.heap z5w zat .int 16 [(.int 0), (.int 0), (.int 0)] (.int 0) := Arv.pad z15k (pad_rep [] (.int 0) 3)
        have z15u : own_AM Z z4w.heap z5x z7g (.object y_s2) := ⟨_, _, z15l⟩
        obtain ⟨cq858, kq858, z15v, z1ln, z15w⟩ := isOf hZ rfl zlf
        obtain ⟨_, _, ⟨zd1, L858, z1lo, n858⟩, -, z3z, ⟨Lc858, zlj, l858, y858, z858⟩, zlk⟩ := z2l.virtualBack hx (y := own_m0) (z := own_m0) hown (mvT hZ (own_W hw 36 rfl)) (mvT hZ (own_W hw 37 rfl)) (notFace_of_selects (args := #[]) (mvT hZ (own_W hw 39 rfl))) (mvT hZ (own_W hw 39 rfl)) (mvT hZ (own_W hw 38 rfl)) (by decide) (backOf (W := 0) (rmA0 l Z a0 hw [] z4w.heap n0 A K (0 : Int32) (0 : Int32) (0 : Int32) (0 : Int64) (0 : Int64) (0 : Int64) (0 : Int32) (0 : Int32) (0 : Int32) (0 : Int32) (0 : Int32) (0 : Int32) (0 : Int32) (0 : Int32) (0 : Int32) (0 : Int64) (p1 % 3) p4 (0 : Int32) z3 z5u z5v z2m z2n z5w z5x z5y z7e z7f z4x z6i zat z7g z7h EN zli z15e z159 z15r z15d zlg z15a z15s z15b z15t z15c z15u zlf z15f z157 z15p z158 z15q z15m (Nat.ne_of_lt z9e) (Nat.ne_of_lt zf) (Nat.ne_of_lt zcy) (Nat.ne_of_lt (Nat.lt_trans zf zp)) (Nat.ne_of_lt zp) (Nat.ne_of_lt z9f) (Nat.ne_of_lt (Nat.lt_trans (Nat.lt_trans z10 zo) z9)) (Nat.ne_of_lt (Nat.lt_trans (Nat.lt_trans (Nat.lt_trans z10 zo) z9) zf)) (Nat.ne_of_lt (Nat.lt_trans (Nat.lt_trans (Nat.lt_trans (Nat.lt_trans z10 zo) z9) zf) zp)) (Nat.ne_of_lt z9b) (Nat.ne_of_lt (Nat.lt_trans zo z9)) (Nat.ne_of_lt (Nat.lt_trans (Nat.lt_trans zo z9) zf)) (Nat.ne_of_lt (Nat.lt_trans (Nat.lt_trans (Nat.lt_trans zo z9) zf) zp)) (Nat.ne_of_lt z9c) (Nat.ne_of_lt z9) (Nat.ne_of_lt (Nat.lt_trans z9 zf)) (Nat.ne_of_lt (Nat.lt_trans (Nat.lt_trans z9 zf) zp)) (Nat.ne_of_lt z9d) (Nat.ne_of_lt z10) (Nat.ne_of_lt (Nat.lt_trans z10 zo)) (Nat.ne_of_lt zo) z7i z7j z3y z21 z3v z3w z3x) hZ (own_W hw 40 rfl) (own_W hw 6 rfl) (by decide) (by decide)) z15v z15w (g := (mkF m 143 #[.val (.int p1), .val (.int p2), .val (.int p3), .val (.int p4), .val (.int p5), .val (.int p6), .val (.int (p1 % 3)), .val (.int (p2 % 3)), .val (.int (p3 % 3)), .val (.int 1), .val (.int 2), .val (.int 0), .val (.ref z3), .unset, .unset, .unset] [.null, (.int 0), (.int p4), (.double (Jvm.FP.l2d ((p1 % 3).toInt64))), (.ref z3)])) rfl (by rw [hml]; rfl) (Steps.refl _) (argsL := [(.double (Jvm.FP.l2d ((p1 % 3).toInt64))), (.int p4), (.int 0), .null]) (rest := []) (lenOf own_pd7 rfl) rfl (by show 2 * 0 + _ ≤ _; exact Nat.le_of_eq rfl) (hb hby at_143) (fun _ _ => ⟨rfl, rfl, (by decide : 8 + 0 ≤ _), (by decide : 121 + 0 ≤ _)⟩)
        dsimp only [Pt.U, Pt.locs, Pt.cells, Pt.slots] at z3z l858 y858 z858 zlk zlj
        replace z3z := own_sub z3z l858 y858 z858
        obtain ⟨rfl, z15x, zd2, zll, z15y, z15z, z160, z161, z162, z163, z164, z165, z166, z167, z168, z169, z16a, z16b, z16c, z16d⟩ := zlj
        have z16e := Fr.app z15n z15x
        have zlm := zli.keep zd2 (allS z7i (allS z7j (allS z3y (allS z21 (allS z3x (allS z3w (allS z3v all0)))))))
        have z16f := z15o.trans zd2 (allS (Or.inr zcz) (allS (Or.inr zd0) (allS (Or.inr z9k) (allS (Or.inr z7d) (allS (Or.inr z9j) (allS (Or.inr z9i) (allS (Or.inr z9h) all0)))))))
        have zln := (zlg.keep zd2 (ninS (Ne.symm (Nat.ne_of_lt (Nat.lt_trans (Nat.lt_trans zf zp) z11))) (ninS (Ne.symm (Nat.ne_of_lt (Nat.lt_trans zp z11))) (ninS (Ne.symm (Nat.ne_of_lt z11)) (ninS (Ne.symm (Nat.ne_of_lt z9g)) (ninS (Ne.symm (Nat.ne_of_lt (Nat.lt_trans (Nat.lt_trans (Nat.lt_trans z9 zf) zp) z11))) (ninS (Ne.symm (Nat.ne_of_lt (Nat.lt_trans (Nat.lt_trans (Nat.lt_trans (Nat.lt_trans zo z9) zf) zp) z11))) (ninS (Ne.symm (Nat.ne_of_lt (Nat.lt_trans (Nat.lt_trans (Nat.lt_trans (Nat.lt_trans (Nat.lt_trans z10 zo) z9) zf) zp) z11))) nin0))))))))
        obtain ⟨cq860, kq860, z16g, z1lp, z16h⟩ := isOf hZ rfl zll
        obtain ⟨_, _, ⟨zd3, L860, z1lq, n860⟩, -, z40, ⟨Lc860, zlo, l860, y860, z860⟩, zlp⟩ := z3z.virtualBack hx (y := own_m0) (z := own_m0) hown (mvT hZ (own_W hw 36 rfl)) (mvT hZ (own_W hw 37 rfl)) (notFace_of_selects (args := #[]) (mvT hZ (own_W hw 39 rfl))) (mvT hZ (own_W hw 39 rfl)) (mvT hZ (own_W hw 38 rfl)) (by decide) (backOf (W := 0) (rmA1n l Z a0 hw [] zd1.heap n0 A K (p1 % 3) (0 : Int32) (0 : Int32) (0 : Int64) (0 : Int64) (0 : Int64) (0 : Int32) (0 : Int32) (0 : Int32) p4 (0 : Int32) (0 : Int32) (0 : Int32) (0 : Int32) (0 : Int32) ((0 : Int64) + (1 : Int64)) (p2 % 3) p5 (1 : Int32) z3 z5u z5v z2m z2n z5w z5x z5y z7e z7f z4x z6i zat z7g z7h EN zlm z165 z160 z169 z164 zln z161 z16a z162 z16b z163 z16c zll z15y z167 z166 z15z z168 z16d z16 (Nat.ne_of_lt z9e) (Nat.ne_of_lt zf) (Nat.ne_of_lt zcy) (Nat.ne_of_lt (Nat.lt_trans zf zp)) (Nat.ne_of_lt zp) (Nat.ne_of_lt z9f) (Nat.ne_of_lt (Nat.lt_trans (Nat.lt_trans z10 zo) z9)) (Nat.ne_of_lt (Nat.lt_trans (Nat.lt_trans (Nat.lt_trans z10 zo) z9) zf)) (Nat.ne_of_lt (Nat.lt_trans (Nat.lt_trans (Nat.lt_trans (Nat.lt_trans z10 zo) z9) zf) zp)) (Nat.ne_of_lt z9b) (Nat.ne_of_lt (Nat.lt_trans zo z9)) (Nat.ne_of_lt (Nat.lt_trans (Nat.lt_trans zo z9) zf)) (Nat.ne_of_lt (Nat.lt_trans (Nat.lt_trans (Nat.lt_trans zo z9) zf) zp)) (Nat.ne_of_lt z9c) (Nat.ne_of_lt z9) (Nat.ne_of_lt (Nat.lt_trans z9 zf)) (Nat.ne_of_lt (Nat.lt_trans (Nat.lt_trans z9 zf) zp)) (Nat.ne_of_lt z9d) (Nat.ne_of_lt z10) (Nat.ne_of_lt (Nat.lt_trans z10 zo)) (Nat.ne_of_lt zo) z7i z7j z3y z21 z3v z3w z3x) hZ (own_W hw 40 rfl) (own_W hw 6 rfl) (by decide) (by decide)) z16g z16h (g := (mkF m 155 #[.val (.int p1), .val (.int p2), .val (.int p3), .val (.int p4), .val (.int p5), .val (.int p6), .val (.int (p1 % 3)), .val (.int (p2 % 3)), .val (.int (p3 % 3)), .val (.int 1), .val (.int 2), .val (.int 0), .val (.ref z3), .unset, .unset, .unset] [.null, (.int 1), (.int p5), (.double (Jvm.FP.l2d ((p2 % 3).toInt64))), (.ref z3)])) rfl (by rw [hml]; rfl) (Steps.refl _) (argsL := [(.double (Jvm.FP.l2d ((p2 % 3).toInt64))), (.int p5), (.int 1), .null]) (rest := []) (lenOf own_pd7 rfl) rfl (by show 2 * 0 + _ ≤ _; exact Nat.le_of_eq rfl) (hb hby at_155) (fun _ _ => ⟨rfl, rfl, (by decide : 8 + 0 ≤ _), (by decide : 121 + 0 ≤ _)⟩)
        dsimp only [Pt.U, Pt.locs, Pt.cells, Pt.slots] at z40 l860 y860 z860 zlp zlo
        replace z40 := own_sub z40 l860 y860 z860
        obtain ⟨rfl, z16i, zd4, zlq, z16j, z16k, z16l, z16m, z16n, z16o, z16p, z16q, z16r, z16s, z16t, z16u, z16v, z16w, z16x, z16y⟩ := zlo
        have z16z := Fr.app z16e z16i
        have zlr := zlm.keep zd4 (allS z7i (allS z7j (allS z3y (allS z21 (allS z3x (allS z3w (allS z3v all0)))))))
        have z170 := z16f.trans zd4 (allS (Or.inr zcz) (allS (Or.inr zd0) (allS (Or.inr z9k) (allS (Or.inr z7d) (allS (Or.inr z9j) (allS (Or.inr z9i) (allS (Or.inr z9h) all0)))))))
        have zls := (zln.keep zd4 (ninS (Ne.symm (Nat.ne_of_lt (Nat.lt_trans (Nat.lt_trans zf zp) z11))) (ninS (Ne.symm (Nat.ne_of_lt (Nat.lt_trans zp z11))) (ninS (Ne.symm (Nat.ne_of_lt z11)) (ninS (Ne.symm (Nat.ne_of_lt z9g)) (ninS (Ne.symm (Nat.ne_of_lt (Nat.lt_trans (Nat.lt_trans (Nat.lt_trans z9 zf) zp) z11))) (ninS (Ne.symm (Nat.ne_of_lt (Nat.lt_trans (Nat.lt_trans (Nat.lt_trans (Nat.lt_trans zo z9) zf) zp) z11))) (ninS (Ne.symm (Nat.ne_of_lt (Nat.lt_trans (Nat.lt_trans (Nat.lt_trans (Nat.lt_trans (Nat.lt_trans z10 zo) z9) zf) zp) z11))) nin0))))))))
        obtain ⟨cq862, kq862, z171, z1lr, z172⟩ := isOf hZ rfl zlq
        obtain ⟨_, _, ⟨zav, L862, z1ls, n862⟩, -, z9l, ⟨Lc862, zlt, l862, y862, z862⟩, zlu⟩ := z40.virtualBack hx (y := own_m0) (z := own_m0) hown (mvT hZ (own_W hw 36 rfl)) (mvT hZ (own_W hw 37 rfl)) (notFace_of_selects (args := #[]) (mvT hZ (own_W hw 39 rfl))) (mvT hZ (own_W hw 39 rfl)) (mvT hZ (own_W hw 38 rfl)) (by decide) (backOf (W := 0) (rmA2y l Z a0 hw [] zd3.heap n0 A K (p1 % 3) (p2 % 3) (0 : Int32) (0 : Int64) ((0 : Int64) + (1 : Int64)) (0 : Int64) (0 : Int32) (1 : Int32) (0 : Int32) p4 p5 (0 : Int32) (0 : Int32) (1 : Int32) (0 : Int32) (((0 : Int64) + (1 : Int64)) + (1 : Int64)) (p3 % 3) p6 (2 : Int32) z3 z5u z5v z2m z2n z5w z5x z5y z7e z7f z4x z6i zat z7g z7h EN zlr z16q z16l z16u z16p zls z16m z16v z16n z16w z16o z16x zlq z16j z16s z16k z16t z16r z16y z4u (Nat.ne_of_lt z9e) (Nat.ne_of_lt zf) (Nat.ne_of_lt zcy) (Nat.ne_of_lt (Nat.lt_trans zf zp)) (Nat.ne_of_lt zp) (Nat.ne_of_lt z9f) (Nat.ne_of_lt (Nat.lt_trans (Nat.lt_trans z10 zo) z9)) (Nat.ne_of_lt (Nat.lt_trans (Nat.lt_trans (Nat.lt_trans z10 zo) z9) zf)) (Nat.ne_of_lt (Nat.lt_trans (Nat.lt_trans (Nat.lt_trans (Nat.lt_trans z10 zo) z9) zf) zp)) (Nat.ne_of_lt z9b) (Nat.ne_of_lt (Nat.lt_trans zo z9)) (Nat.ne_of_lt (Nat.lt_trans (Nat.lt_trans zo z9) zf)) (Nat.ne_of_lt (Nat.lt_trans (Nat.lt_trans (Nat.lt_trans zo z9) zf) zp)) (Nat.ne_of_lt z9c) (Nat.ne_of_lt z9) (Nat.ne_of_lt (Nat.lt_trans z9 zf)) (Nat.ne_of_lt (Nat.lt_trans (Nat.lt_trans z9 zf) zp)) (Nat.ne_of_lt z9d) (Nat.ne_of_lt z10) (Nat.ne_of_lt (Nat.lt_trans z10 zo)) (Nat.ne_of_lt zo) z7i z7j z3y z21 z3v z3w z3x) hZ (own_W hw 40 rfl) (own_W hw 6 rfl) (by decide) (by decide)) z171 z172 (g := (mkF m 167 #[.val (.int p1), .val (.int p2), .val (.int p3), .val (.int p4), .val (.int p5), .val (.int p6), .val (.int (p1 % 3)), .val (.int (p2 % 3)), .val (.int (p3 % 3)), .val (.int 1), .val (.int 2), .val (.int 0), .val (.ref z3), .unset, .unset, .unset] [.null, (.int 2), (.int p6), (.double (Jvm.FP.l2d ((p3 % 3).toInt64))), (.ref z3)])) rfl (by rw [hml]; rfl) (Steps.refl _) (argsL := [(.double (Jvm.FP.l2d ((p3 % 3).toInt64))), (.int p6), (.int 2), .null]) (rest := []) (lenOf own_pd7 rfl) rfl (by show 2 * 0 + _ ≤ _; exact Nat.le_of_eq rfl) (hb hby at_167) (fun _ _ => ⟨rfl, rfl, (by decide : 8 + 0 ≤ _), (by decide : 121 + 0 ≤ _)⟩)
        dsimp only [Pt.U, Pt.locs, Pt.cells, Pt.slots] at z9l l862 y862 z862 zlu zlt
        replace z9l := own_sub z9l l862 y862 z862
        obtain ⟨rfl, z173, zd5, zd6, z174, z175, zlv, zlw, z176, z177, z178, z179, z17a, z17b, z17c, zlx, zly, z1lt, z17d, z17e⟩ := zlt
        have z17f := Fr.app z16z z173
        have zd7 := zlr.keep zd5 (allS z7i (allS z7j (allS z3y (allS z21 (allS z3v (allS z3w (allS z3x all0)))))))
        have z17g := z170.trans zd5 (allS (Or.inr zcz) (allS (Or.inr zd0) (allS (Or.inr z9k) (allS (Or.inr z7d) (allS (Or.inr z9h) (allS (Or.inr z9i) (allS (Or.inr z9j) all0)))))))
        obtain ⟨cq863, kq863, z17h, z1lu, z17i⟩ := isOf hZ rfl zd6
        obtain ⟨_, _, ⟨z17j, L863, z1lv, n863⟩, -, z7k, ⟨Lc863, zlz, l863, y863, z863⟩, zm0⟩ := z9l.virtualBack hx (y := own_m1) (z := own_m1) hown (mvT hZ (own_W hw 49 rfl)) (mvT hZ (own_W hw 50 rfl)) (notFace_of_selects (args := #[]) (mvT hZ (own_W hw 52 rfl))) (mvT hZ (own_W hw 52 rfl)) (mvT hZ (own_W hw 51 rfl)) (by decide) (backOf (W := 0) (rmF2 l Z a0 hw [] zav.heap n0 A K (0 : Int32) (1 : Int32) (0 : Int32) p4 p5 p6 z3 z2m z2n z4x z6i EN zd7 zlw zlv zlx zly) hZ (own_W hw 53 rfl) (own_W hw 6 rfl) (by decide) (by decide)) z17h z17i (g := (mkF m 172 #[.val (.int p1), .val (.int p2), .val (.int p3), .val (.int p4), .val (.int p5), .val (.int p6), .val (.int (p1 % 3)), .val (.int (p2 % 3)), .val (.int (p3 % 3)), .val (.int 1), .val (.int 2), .val (.int 0), .val (.ref z3), .unset, .unset, .unset] [(.ref z3)])) rfl (by rw [hml]; rfl) (Steps.refl _) (argsL := []) (rest := []) (lenOf own_pd8 rfl) rfl (by show 2 * 0 + _ ≤ _; exact Nat.le_of_eq rfl) (hb hby at_172) (fun _ _ => ⟨rfl, rfl, (by decide : 8 + 0 ≤ _), (by decide : 121 + 0 ≤ _)⟩)
        dsimp only [Pt.U, Pt.locs, Pt.cells, Pt.slots] at z7k l863 y863 z863 zm0 zlz
        replace z7k := own_sub z7k l863 y863 z863
        obtain ⟨rfl, z17k, zm1⟩ := zlz
        have z17l := Fr.app z17f z17k
        have z17m := (zls.keep zd5 (ninS (Ne.symm (Nat.ne_of_lt (Nat.lt_trans (Nat.lt_trans zf zp) z11))) (ninS (Ne.symm (Nat.ne_of_lt (Nat.lt_trans zp z11))) (ninS (Ne.symm (Nat.ne_of_lt z11)) (ninS (Ne.symm (Nat.ne_of_lt z9g)) (ninS (Ne.symm (Nat.ne_of_lt (Nat.lt_trans (Nat.lt_trans (Nat.lt_trans (Nat.lt_trans (Nat.lt_trans z10 zo) z9) zf) zp) z11))) (ninS (Ne.symm (Nat.ne_of_lt (Nat.lt_trans (Nat.lt_trans (Nat.lt_trans (Nat.lt_trans zo z9) zf) zp) z11))) (ninS (Ne.symm (Nat.ne_of_lt (Nat.lt_trans (Nat.lt_trans (Nat.lt_trans z9 zf) zp) z11))) nin0))))))))
        have z17n : own_AM Z zav.heap z5y z7h .int := ⟨_, _, z17m⟩
        obtain ⟨cq866, kq866, z17o, z1lw, z17p⟩ := isOf hZ zm1 zd6
        obtain ⟨_, _, ⟨zd8, L866, z1lx, n866⟩, -, z9m, ⟨Lc866, zm2, l866, y866, z866⟩, zm3⟩ := z7k.virtualBack hx (y := own_m3) (z := own_m3) hown (mvT hZ (own_W hw 54 rfl)) (mvT hZ (own_W hw 55 rfl)) (notFace_of_selects (args := #[]) (mvT hZ (own_W hw 57 rfl))) (mvT hZ (own_W hw 57 rfl)) (mvT hZ (own_W hw 56 rfl)) (by decide) (backOf (W := 0) (rmR3n l Z a0 hw [] zav.heap n0 A K (p3 % 3) (p2 % 3) (p1 % 3) (((0 : Int64) + (1 : Int64)) + (1 : Int64)) ((0 : Int64) + (1 : Int64)) (0 : Int64) (2 : Int32) (1 : Int32) (0 : Int32) (0 : Int32) (0 : Int32) (0 : Int32) (0 : Int32) (0 : Int32) (0 : Int32) ((((0 : Int64) + (1 : Int64)) + (1 : Int64)) + (1 : Int64)) z3 z5u z5v z2m z2n z5w z5x z5y z7e z7f z4x z7g z7h EN zd7 zlv zlx z177 z17d z178 z179 z17n zd6 z174 z17b z175 z17c zlw z176 z17a z17e (by decide) (by decide) (own_ib_n2 z16 (by decide)) (Nat.ne_of_lt z9f) (Nat.ne_of_lt (Nat.lt_trans (Nat.lt_trans z9 zf) zp)) (Nat.ne_of_lt z11) (Nat.ne_of_lt z9g) (Nat.ne_of_lt (Nat.lt_trans (Nat.lt_trans (Nat.lt_trans (Nat.lt_trans z10 zo) z9) zf) zp)) (Nat.ne_of_lt (Nat.lt_trans (Nat.lt_trans (Nat.lt_trans (Nat.lt_trans (Nat.lt_trans z10 zo) z9) zf) zp) z11)) (Nat.ne_of_lt z9b) (Nat.ne_of_lt (Nat.lt_trans (Nat.lt_trans (Nat.lt_trans zo z9) zf) zp)) (Nat.ne_of_lt (Nat.lt_trans (Nat.lt_trans (Nat.lt_trans (Nat.lt_trans zo z9) zf) zp) z11)) (Nat.ne_of_lt z9c) (Nat.ne_of_lt (Nat.lt_trans (Nat.lt_trans (Nat.lt_trans z9 zf) zp) z11)) (Nat.ne_of_lt z9d) (Nat.ne_of_lt z10) (Nat.ne_of_lt (Nat.lt_trans z10 zo)) (Nat.ne_of_lt zo) z3y zau z21 z3v z3w z3x) hZ (own_W hw 58 rfl) (own_W hw 6 rfl) (by decide) (by decide)) z17o z17p (g := (mkF m 179 #[.val (.int p1), .val (.int p2), .val (.int p3), .val (.int p4), .val (.int p5), .val (.int p6), .val (.int (p1 % 3)), .val (.int (p2 % 3)), .val (.int (p3 % 3)), .val (.int 1), .val (.int 2), .val (.int 0), .val (.ref z3), .val (.int p6), .unset, .unset] [(.ref z3)])) rfl (by rw [hml]; rfl) (Steps.refl _) (argsL := []) (rest := []) (lenOf own_pd6 rfl) rfl (by show 2 * 0 + _ ≤ _; exact Nat.le_of_eq rfl) (hb hby at_179) (fun _ _ => ⟨rfl, zm1, (by decide : 8 + 0 ≤ _), (by decide : 121 + 0 ≤ _)⟩)
        dsimp only [Pt.U, Pt.locs, Pt.cells, Pt.slots] at z9m l866 y866 z866 zm3 zm2
        replace z9m := own_sub z9m l866 y866 z866
        obtain ⟨rfl, z17q, zd9, zda, z17r, z17s, zm4, zm5, z17t, z17u, z17v, z17w, z17x, z17y, z17z, zm6, z180, z181, z182⟩ := zm2
        have z183 := Fr.app z17l z17q
        have zdb := zd7.keep zd9 (allS z3y (allS zau (allS z21 (allS z3x (allS z3w (allS z3v all0))))))
        have z184 := z17g.trans zd9 (allS (Or.inr z9k) (allS (Or.inr zlh) (allS (Or.inr z7d) (allS (Or.inr z9j) (allS (Or.inr z9i) (allS (Or.inr z9h) all0))))))
        have zm7 := (zly.keep zd9 (ninS (Nat.ne_of_lt (Nat.lt_trans zf zp)) (ninS (Nat.ne_of_lt (Nat.lt_trans (Nat.lt_trans zf zp) z11)) (ninS (Ne.symm (Nat.ne_of_lt z9e)) (ninS (Ne.symm (Nat.ne_of_lt z9)) (ninS (Ne.symm (Nat.ne_of_lt (Nat.lt_trans zo z9))) (ninS (Ne.symm (Nat.ne_of_lt (Nat.lt_trans (Nat.lt_trans z10 zo) z9))) nin0)))))))
        obtain ⟨cq868, kq868, z185, z1ly, z186⟩ := isOf hZ rfl zda
        obtain ⟨_, _, ⟨z187, L868, z1lz, n868⟩, -, z7l, ⟨Lc868, zm8, l868, y868, z868⟩, zm9⟩ := z9m.virtualBack hx (y := own_m1) (z := own_m1) hown (mvT hZ (own_W hw 49 rfl)) (mvT hZ (own_W hw 50 rfl)) (notFace_of_selects (args := #[]) (mvT hZ (own_W hw 52 rfl))) (mvT hZ (own_W hw 52 rfl)) (mvT hZ (own_W hw 51 rfl)) (by decide) (backOf (W := 0) (rmF0 l Z a0 hw [] zd8.heap n0 A K (0 : Int32) (1 : Int32) (0 : Int32) p4 p5 p6 z3 z2m z2n z4x z6i EN zdb zm5 zm4 zm6 zm7) hZ (own_W hw 53 rfl) (own_W hw 6 rfl) (by decide) (by decide)) z185 z186 (g := (mkF m 184 #[.val (.int p1), .val (.int p2), .val (.int p3), .val (.int p4), .val (.int p5), .val (.int p6), .val (.int (p1 % 3)), .val (.int (p2 % 3)), .val (.int (p3 % 3)), .val (.int 1), .val (.int 2), .val (.int 0), .val (.ref z3), .val (.int p6), .unset, .unset] [(.ref z3)])) rfl (by rw [hml]; rfl) (Steps.refl _) (argsL := []) (rest := []) (lenOf own_pd8 rfl) rfl (by show 2 * 0 + _ ≤ _; exact Nat.le_of_eq rfl) (hb hby at_184) (fun _ _ => ⟨rfl, rfl, (by decide : 8 + 0 ≤ _), (by decide : 121 + 0 ≤ _)⟩)
        dsimp only [Pt.U, Pt.locs, Pt.cells, Pt.slots] at z7l l868 y868 z868 zm9 zm8
        replace z7l := own_sub z7l l868 y868 z868
        obtain ⟨rfl, z188, zma⟩ := zm8
        have z189 := Fr.app z183 z188
        obtain ⟨cq869, kq869, z18a, z1m0, z18b⟩ := isOf hZ zma zda
        obtain ⟨_, _, ⟨z9n, L869, z1m1, n869⟩, -, z9o, ⟨Lc869, zmb, l869, y869, z869⟩, zmc⟩ := z7l.virtualBack hx (y := own_m3) (z := own_m3) hown (mvT hZ (own_W hw 54 rfl)) (mvT hZ (own_W hw 55 rfl)) (notFace_of_selects (args := #[]) (mvT hZ (own_W hw 57 rfl))) (mvT hZ (own_W hw 57 rfl)) (mvT hZ (own_W hw 56 rfl)) (by decide) (backOf (W := 0) (rmR2 l Z a0 hw [] zd8.heap n0 A K (p1 % 3) (p2 % 3) (p1 % 3) (0 : Int64) ((0 : Int64) + (1 : Int64)) (0 : Int64) (0 : Int32) (1 : Int32) (0 : Int32) (0 : Int32) (0 : Int32) (0 : Int32) (0 : Int32) (0 : Int32) (0 : Int32) ((((0 : Int64) + (1 : Int64)) + (1 : Int64)) + (1 : Int64)) z3 z5u z5v z2m z2n z5w z5x z5y z7e z7f z4x z7g z7h EN zdb zm4 zm6 z17u z180 z17v z17w z182 zda z17r z17y z17s z17z zm5 z17t z17x z181 (by decide) (by decide) (Nat.ne_of_lt z9f) (Nat.ne_of_lt (Nat.lt_trans (Nat.lt_trans z9 zf) zp)) (Nat.ne_of_lt z11) (Nat.ne_of_lt z9g) (Nat.ne_of_lt (Nat.lt_trans (Nat.lt_trans (Nat.lt_trans (Nat.lt_trans z10 zo) z9) zf) zp)) (Nat.ne_of_lt (Nat.lt_trans (Nat.lt_trans (Nat.lt_trans (Nat.lt_trans (Nat.lt_trans z10 zo) z9) zf) zp) z11)) (Nat.ne_of_lt z9b) (Nat.ne_of_lt (Nat.lt_trans (Nat.lt_trans (Nat.lt_trans zo z9) zf) zp)) (Nat.ne_of_lt (Nat.lt_trans (Nat.lt_trans (Nat.lt_trans (Nat.lt_trans zo z9) zf) zp) z11)) (Nat.ne_of_lt z9c) (Nat.ne_of_lt (Nat.lt_trans (Nat.lt_trans (Nat.lt_trans z9 zf) zp) z11)) (Nat.ne_of_lt z9d) (Nat.ne_of_lt z10) (Nat.ne_of_lt (Nat.lt_trans z10 zo)) (Nat.ne_of_lt zo) z3y zau z21 z3v z3w z3x) hZ (own_W hw 58 rfl) (own_W hw 6 rfl) (by decide) (by decide)) z18a z18b (g := (mkF m 191 #[.val (.int p1), .val (.int p2), .val (.int p3), .val (.int p4), .val (.int p5), .val (.int p6), .val (.int (p1 % 3)), .val (.int (p2 % 3)), .val (.int (p3 % 3)), .val (.int 1), .val (.int 2), .val (.int 0), .val (.ref z3), .val (.int p6), .val (.int p4), .unset] [(.ref z3)])) rfl (by rw [hml]; rfl) (Steps.refl _) (argsL := []) (rest := []) (lenOf own_pd6 rfl) rfl (by show 2 * 0 + _ ≤ _; exact Nat.le_of_eq rfl) (hb hby at_191) (fun _ _ => ⟨rfl, zma, (by decide : 8 + 0 ≤ _), (by decide : 121 + 0 ≤ _)⟩)
        dsimp only [Pt.U, Pt.locs, Pt.cells, Pt.slots] at z9o l869 y869 z869 zmc zmb
        replace z9o := own_sub z9o l869 y869 z869
        obtain ⟨rfl, z18c, zdc, z18d, z1m2, z1m3, z18e, z18f, z1m4, z1m5, z1m6, z1m7, z1m8, z1m9, z1ma, z18g, z1mb, z1mc, z1md⟩ := zmb
        have z18h := Fr.app z189 z18c
        have zaw := zdb.keep zdc (allS z3y (allS zau (allS z21 (allS z3x (allS z3w (allS z3v all0))))))
        have z1me := z184.trans zdc (allS (Or.inr z9k) (allS (Or.inr zlh) (allS (Or.inr z7d) (allS (Or.inr z9j) (allS (Or.inr z9i) (allS (Or.inr z9h) all0))))))
        have z18i := (zm7.keep zdc (ninS (Nat.ne_of_lt (Nat.lt_trans zf zp)) (ninS (Nat.ne_of_lt (Nat.lt_trans (Nat.lt_trans zf zp) z11)) (ninS (Ne.symm (Nat.ne_of_lt z9e)) (ninS (Ne.symm (Nat.ne_of_lt z9)) (ninS (Ne.symm (Nat.ne_of_lt (Nat.lt_trans zo z9))) (ninS (Ne.symm (Nat.ne_of_lt (Nat.lt_trans (Nat.lt_trans z10 zo) z9))) nin0)))))))
        obtain ⟨cq871, kq871, z18j, z1mf, z18k⟩ := isOf hZ rfl z18d
        obtain ⟨_, _, ⟨z18l, L871, z1mg, n871⟩, -, z1l, ⟨Lc871, zmd, l871, y871, z871⟩, zme⟩ := z9o.virtualBack hx (y := own_m1) (z := own_m1) hown (mvT hZ (own_W hw 49 rfl)) (mvT hZ (own_W hw 50 rfl)) (notFace_of_selects (args := #[]) (mvT hZ (own_W hw 52 rfl))) (mvT hZ (own_W hw 52 rfl)) (mvT hZ (own_W hw 51 rfl)) (by decide) (backOf (W := 0) (rmF1 l Z a0 hw [] z9n.heap n0 A K (0 : Int32) (1 : Int32) (0 : Int32) p4 p5 p6 z3 z2m z2n z4x z6i EN zaw z18f z18e z18g z18i) hZ (own_W hw 53 rfl) (own_W hw 6 rfl) (by decide) (by decide)) z18j z18k (g := (mkF m 196 #[.val (.int p1), .val (.int p2), .val (.int p3), .val (.int p4), .val (.int p5), .val (.int p6), .val (.int (p1 % 3)), .val (.int (p2 % 3)), .val (.int (p3 % 3)), .val (.int 1), .val (.int 2), .val (.int 0), .val (.ref z3), .val (.int p6), .val (.int p4), .unset] [(.ref z3)])) rfl (by rw [hml]; rfl) (Steps.refl _) (argsL := []) (rest := []) (lenOf own_pd8 rfl) rfl (by show 2 * 0 + _ ≤ _; exact Nat.le_of_eq rfl) (hb hby at_196) (fun _ _ => ⟨rfl, rfl, (by decide : 8 + 0 ≤ _), (by decide : 121 + 0 ≤ _)⟩)
        dsimp only [Pt.U, Pt.locs, Pt.cells, Pt.slots] at z1l l871 y871 z871 zme zmd
        replace z1l := own_sub z1l l871 y871 z871
        obtain ⟨rfl, z18m, z18n⟩ := zmd
        have z18o := Fr.app z18h z18m
        obtain ⟨_, _, ⟨zmf, L872, z1mh, n872⟩, -, z1m, ⟨Lc872, zmg, l872, y872, z872⟩, zmh⟩ := Jvm.LawKit.callS z1l hx (y := own_m5) hown (mvT hZ (own_W hw 70 rfl)) (mvT hZ (own_W hw 71 rfl)) (mvT hZ (own_W hw 2 rfl)) (mvT hZ (own_W hw 72 rfl)) (by decide) (backOf (W := 1) (rmK2 l Z a0 hw [] z9n.heap n0 A K (0 : Int32) (1 : Int32) (2 : Int32) (0 : Int32) p4 p5 p6 EN zaw (by decide) (by decide)) hZ (own_W hw 72 rfl) (own_W hw 2 rfl) (by decide) (by decide)) (g := (mkF m 215 #[.val (.int p1), .val (.int p2), .val (.int p3), .val (.int p4), .val (.int p5), .val (.int p6), .val (.int (p1 % 3)), .val (.int (p2 % 3)), .val (.int (p3 % 3)), .val (.int 1), .val (.int 2), .val (.int 0), .val (.ref z3), .val (.int p6), .val (.int p4), .val (.int p5)] [(.int p6), (.int p5), (.int p4), (.int 0), (.int 2), (.int 1), (.int 0), (.int p6)])) rfl (by rw [hml]; rfl) (argsL := [(.int 0), (.int 1), (.int 2), (.int 0), (.int p4), (.int p5), (.int p6)]) (rest := [(.int p6)]) (lenOf own_pd9 rfl) rfl (by show 2 * 0 + _ ≤ _; exact Nat.le_of_eq rfl) (hb hby at_215) (fun _ _ => ⟨rfl, z18n, (by decide : 8 + 0 ≤ _), (by decide : 121 + 0 ≤ _)⟩)
        dsimp only [Pt.U, Pt.locs, Pt.cells, Pt.slots] at z1m l872 y872 z872 zmh zmg
        replace z1m := own_sub z1m l872 y872 z872
        obtain ⟨rfl, z18p, z18q⟩ := zmg
        have z18r := Fr.app z18o z18p
        obtain ⟨_, _, ⟨zmi, L873, z1mi, n873⟩, -, z1n, ⟨Lc873, zmj, l873, y873, z873⟩, zmk⟩ := Jvm.LawKit.callS z1m hx (y := own_m5) hown (mvT hZ (own_W hw 70 rfl)) (mvT hZ (own_W hw 71 rfl)) (mvT hZ (own_W hw 2 rfl)) (mvT hZ (own_W hw 72 rfl)) (by decide) (backOf (W := 1) (rmK0 l Z a0 hw [] z9n.heap n0 A K (1 : Int32) (1 : Int32) (2 : Int32) (0 : Int32) p4 p5 p6 EN zaw (by decide)) hZ (own_W hw 72 rfl) (own_W hw 2 rfl) (by decide) (by decide)) (g := (mkF m 235 #[.val (.int p1), .val (.int p2), .val (.int p3), .val (.int p4), .val (.int p5), .val (.int p6), .val (.int (p1 % 3)), .val (.int (p2 % 3)), .val (.int (p3 % 3)), .val (.int 1), .val (.int 2), .val (.int 0), .val (.ref z3), .val (.int p6), .val (.int p4), .val (.int p5)] [(.int p6), (.int p5), (.int p4), (.int 0), (.int 2), (.int 1), (.int 1), (.int p4)])) rfl (by rw [hml]; rfl) (argsL := [(.int 1), (.int 1), (.int 2), (.int 0), (.int p4), (.int p5), (.int p6)]) (rest := [(.int p4)]) (lenOf own_pd9 rfl) rfl (by show 2 * 0 + _ ≤ _; exact Nat.le_of_eq rfl) (hb hby at_235) (fun _ _ => ⟨rfl, z18q, (by decide : 8 + 0 ≤ _), (by decide : 121 + 0 ≤ _)⟩)
        dsimp only [Pt.U, Pt.locs, Pt.cells, Pt.slots] at z1n l873 y873 z873 zmk zmj
        replace z1n := own_sub z1n l873 y873 z873
        obtain ⟨rfl, z18s, z18t⟩ := zmj
        have z18u := Fr.app z18r z18s
        obtain ⟨_, _, ⟨zdd, L874, z1mj, n874⟩, -, z5z, ⟨Lc874, zml, l874, y874, z874⟩, zmm⟩ := Jvm.LawKit.callS z1n hx (y := own_m5) hown (mvT hZ (own_W hw 70 rfl)) (mvT hZ (own_W hw 71 rfl)) (mvT hZ (own_W hw 2 rfl)) (mvT hZ (own_W hw 72 rfl)) (by decide) (backOf (W := 1) (rmK1 l Z a0 hw [] z9n.heap n0 A K (2 : Int32) (1 : Int32) (2 : Int32) (0 : Int32) p4 p5 p6 EN zaw (by decide) (by decide)) hZ (own_W hw 72 rfl) (own_W hw 2 rfl) (by decide) (by decide)) (g := (mkF m 255 #[.val (.int p1), .val (.int p2), .val (.int p3), .val (.int p4), .val (.int p5), .val (.int p6), .val (.int (p1 % 3)), .val (.int (p2 % 3)), .val (.int (p3 % 3)), .val (.int 1), .val (.int 2), .val (.int 0), .val (.ref z3), .val (.int p6), .val (.int p4), .val (.int p5)] [(.int p6), (.int p5), (.int p4), (.int 0), (.int 2), (.int 1), (.int 2), (.int p5)])) rfl (by rw [hml]; rfl) (argsL := [(.int 2), (.int 1), (.int 2), (.int 0), (.int p4), (.int p5), (.int p6)]) (rest := [(.int p5)]) (lenOf own_pd9 rfl) rfl (by show 2 * 0 + _ ≤ _; exact Nat.le_of_eq rfl) (hb hby at_255) (fun _ _ => ⟨rfl, z18t, (by decide : 8 + 0 ≤ _), (by decide : 121 + 0 ≤ _)⟩)
        dsimp only [Pt.U, Pt.locs, Pt.cells, Pt.slots] at z5z l874 y874 z874 zmm zml
        replace z5z := own_sub z5z l874 y874 z874
        obtain ⟨rfl, z18v, z1mk⟩ := zml
        have z18w := Fr.app z18u z18v
        obtain ⟨fs, hr, hrun, hended, hW, hsame⟩ := z5z.leave (v := some (.int 1)) (fun h => by rw [Bd.returns] at h; cases h)
        refine ⟨_, _, pre0 _ ?_, hrun, hended, _, _, rfl, ?_, ⟨_, rfl⟩, hW, hsame.mono (by decide) (by decide)⟩
        · show Steps p.tables e below (s₁.setTop (mkF m 0 #[.val (.int p1), .val (.int p2), .val (.int p3), .val (.int p4), .val (.int p5), .val (.int p6), .unset, .unset, .unset, .unset, .unset, .unset, .unset, .unset, .unset, .unset] [])) _
          refine XS.iloadN X0.here hx rfl (hb hby at_0) rfl ?_
          refine XS.iconst X0.here hx rfl (hb hby at_1) ?_
          refine iremM X0 hx rfl (hb hby at_2) rfl (by decide) ?_
          show Steps p.tables e below (s₁.setTop (mkF m 3 #[.val (.int p1), .val (.int p2), .val (.int p3), .val (.int p4), .val (.int p5), .val (.int p6), .unset, .unset, .unset, .unset, .unset, .unset, .unset, .unset, .unset, .unset] [(.int (p1 % 3))])) _
          refine XS.istore X0.here hx rfl (hb hby at_3) rfl (l' := #[.val (.int p1), .val (.int p2), .val (.int p3), .val (.int p4), .val (.int p5), .val (.int p6), .val (.int (p1 % 3)), .unset, .unset, .unset, .unset, .unset, .unset, .unset, .unset, .unset]) rfl ?_
          refine XS.iloadN X0.here hx rfl (hb hby at_5) rfl ?_
          refine XS.iconst X0.here hx rfl (hb hby at_6) ?_
          refine iremM X0 hx rfl (hb hby at_7) rfl (by decide) ?_
          show Steps p.tables e below (s₁.setTop (mkF m 8 #[.val (.int p1), .val (.int p2), .val (.int p3), .val (.int p4), .val (.int p5), .val (.int p6), .val (.int (p1 % 3)), .unset, .unset, .unset, .unset, .unset, .unset, .unset, .unset, .unset] [(.int (p2 % 3))])) _
          refine XS.istore X0.here hx rfl (hb hby at_8) rfl (l' := #[.val (.int p1), .val (.int p2), .val (.int p3), .val (.int p4), .val (.int p5), .val (.int p6), .val (.int (p1 % 3)), .val (.int (p2 % 3)), .unset, .unset, .unset, .unset, .unset, .unset, .unset, .unset]) rfl ?_
          refine XS.iloadN X0.here hx rfl (hb hby at_10) rfl ?_
          refine XS.iconst X0.here hx rfl (hb hby at_11) ?_
          refine iremM X0 hx rfl (hb hby at_12) rfl (by decide) ?_
          show Steps p.tables e below (s₁.setTop (mkF m 13 #[.val (.int p1), .val (.int p2), .val (.int p3), .val (.int p4), .val (.int p5), .val (.int p6), .val (.int (p1 % 3)), .val (.int (p2 % 3)), .unset, .unset, .unset, .unset, .unset, .unset, .unset, .unset] [(.int (p3 % 3))])) _
          refine XS.istore X0.here hx rfl (hb hby at_13) rfl (l' := #[.val (.int p1), .val (.int p2), .val (.int p3), .val (.int p4), .val (.int p5), .val (.int p6), .val (.int (p1 % 3)), .val (.int (p2 % 3)), .val (.int (p3 % 3)), .unset, .unset, .unset, .unset, .unset, .unset, .unset]) rfl ?_
          refine XS.iload X0.here hx rfl (hb hby at_15) rfl ?_
          refine XS.iconst X0.here hx rfl (hb hby at_17) ?_
          refine XS.iload X0.here hx rfl (hb hby at_18) rfl ?_
          refine XS.iconst X0.here hx rfl (hb hby at_20) ?_
          refine zko _ ?_
          show Steps p.tables e below (zkm.setTop (mkF m 24 #[.val (.int p1), .val (.int p2), .val (.int p3), .val (.int p4), .val (.int p5), .val (.int p6), .val (.int (p1 % 3)), .val (.int (p2 % 3)), .val (.int (p3 % 3)), .unset, .unset, .unset, .unset, .unset, .unset, .unset] [(.int (own_f_rmB (p2 % 3) (1 : Int32) (p1 % 3) (0 : Int32)))])) _
          refine XS.ifYes z3r.here hx rfl (pc0 := 24) (pc' := 31) rfl (hb hby at_24) rfl ((if0 _ _).trans (teq (own_bf_n2 z16 (by decide))).1) (by decide) (by decide) ?_
          show Steps p.tables e below (zkm.setTop (mkF m 31 #[.val (.int p1), .val (.int p2), .val (.int p3), .val (.int p4), .val (.int p5), .val (.int p6), .val (.int (p1 % 3)), .val (.int (p2 % 3)), .val (.int (p3 % 3)), .unset, .unset, .unset, .unset, .unset, .unset, .unset] [])) _
          refine XS.iconst z3r.here hx rfl (hb hby at_31) ?_
          refine XS.iload z3r.here hx rfl (hb hby at_32) rfl ?_
          refine XS.iconst z3r.here hx rfl (hb hby at_34) ?_
          refine XS.iload z3r.here hx rfl (hb hby at_35) rfl ?_
          refine XS.iconst z3r.here hx rfl (hb hby at_37) ?_
          refine zkq _ ?_
          show Steps p.tables e below (zcu.setTop (mkF m 41 #[.val (.int p1), .val (.int p2), .val (.int p3), .val (.int p4), .val (.int p5), .val (.int p6), .val (.int (p1 % 3)), .val (.int (p2 % 3)), .val (.int (p3 % 3)), .unset, .unset, .unset, .unset, .unset, .unset, .unset] [(.int (own_f_rmB (p3 % 3) (2 : Int32) (p1 % 3) (0 : Int32))), (.int 0)])) _
          refine XS.ifNo z1j.here hx rfl (hb hby at_41) rfl ((if0 _ _).trans (feq (own_bf_y1 z4u)).1) ?_
          show Steps p.tables e below (zcu.setTop (mkF m 44 #[.val (.int p1), .val (.int p2), .val (.int p3), .val (.int p4), .val (.int p5), .val (.int p6), .val (.int (p1 % 3)), .val (.int (p2 % 3)), .val (.int (p3 % 3)), .unset, .unset, .unset, .unset, .unset, .unset, .unset] [(.int 0)])) _
          refine XS.iconst z1j.here hx rfl (hb hby at_44) ?_
          refine XS.goto z1j.here hx rfl (pc0 := 45) (pc' := 49) rfl (hb hby at_45) (by decide) (by decide) ?_
          refine XS.iadd z1j.here hx rfl (hb hby at_49) rfl ?_
          show Steps p.tables e below (zcu.setTop (mkF m 50 #[.val (.int p1), .val (.int p2), .val (.int p3), .val (.int p4), .val (.int p5), .val (.int p6), .val (.int (p1 % 3)), .val (.int (p2 % 3)), .val (.int (p3 % 3)), .unset, .unset, .unset, .unset, .unset, .unset, .unset] [(.int 1)])) _
          refine XS.istore z1j.here hx rfl (hb hby at_50) rfl (l' := #[.val (.int p1), .val (.int p2), .val (.int p3), .val (.int p4), .val (.int p5), .val (.int p6), .val (.int (p1 % 3)), .val (.int (p2 % 3)), .val (.int (p3 % 3)), .val (.int 1), .unset, .unset, .unset, .unset, .unset, .unset]) rfl ?_
          refine XS.iload z1j.here hx rfl (hb hby at_52) rfl ?_
          refine XS.iconst z1j.here hx rfl (hb hby at_54) ?_
          refine XS.iload z1j.here hx rfl (hb hby at_55) rfl ?_
          refine XS.iconst z1j.here hx rfl (hb hby at_57) ?_
          refine zkt _ ?_
          show Steps p.tables e below (zkr.setTop (mkF m 61 #[.val (.int p1), .val (.int p2), .val (.int p3), .val (.int p4), .val (.int p5), .val (.int p6), .val (.int (p1 % 3)), .val (.int (p2 % 3)), .val (.int (p3 % 3)), .val (.int 1), .unset, .unset, .unset, .unset, .unset, .unset] [(.int (own_f_rmB (p1 % 3) (0 : Int32) (p2 % 3) (1 : Int32)))])) _
          refine XS.ifNo z2k.here hx rfl (hb hby at_61) rfl ((if0 _ _).trans (feq (own_bf_y2 z16 (by decide))).1) ?_
          show Steps p.tables e below (zkr.setTop (mkF m 64 #[.val (.int p1), .val (.int p2), .val (.int p3), .val (.int p4), .val (.int p5), .val (.int p6), .val (.int (p1 % 3)), .val (.int (p2 % 3)), .val (.int (p3 % 3)), .val (.int 1), .unset, .unset, .unset, .unset, .unset, .unset] [])) _
          refine XS.iconst z2k.here hx rfl (hb hby at_64) ?_
          refine XS.goto z2k.here hx rfl (pc0 := 65) (pc' := 69) rfl (hb hby at_65) (by decide) (by decide) ?_
          refine XS.iload z2k.here hx rfl (hb hby at_69) rfl ?_
          refine XS.iconst z2k.here hx rfl (hb hby at_71) ?_
          refine XS.iload z2k.here hx rfl (hb hby at_72) rfl ?_
          refine XS.iconst z2k.here hx rfl (hb hby at_74) ?_
          refine zkv _ ?_
          show Steps p.tables e below (zcv.setTop (mkF m 78 #[.val (.int p1), .val (.int p2), .val (.int p3), .val (.int p4), .val (.int p5), .val (.int p6), .val (.int (p1 % 3)), .val (.int (p2 % 3)), .val (.int (p3 % 3)), .val (.int 1), .unset, .unset, .unset, .unset, .unset, .unset] [(.int (own_f_rmB (p3 % 3) (2 : Int32) (p2 % 3) (1 : Int32))), (.int 1)])) _
          refine XS.ifNo z1k.here hx rfl (hb hby at_78) rfl ((if0 _ _).trans (feq (own_bf_y1 zkl)).1) ?_
          show Steps p.tables e below (zcv.setTop (mkF m 81 #[.val (.int p1), .val (.int p2), .val (.int p3), .val (.int p4), .val (.int p5), .val (.int p6), .val (.int (p1 % 3)), .val (.int (p2 % 3)), .val (.int (p3 % 3)), .val (.int 1), .unset, .unset, .unset, .unset, .unset, .unset] [(.int 1)])) _
          refine XS.iconst z1k.here hx rfl (hb hby at_81) ?_
          refine XS.goto z1k.here hx rfl (pc0 := 82) (pc' := 86) rfl (hb hby at_82) (by decide) (by decide) ?_
          refine XS.iadd z1k.here hx rfl (hb hby at_86) rfl ?_
          show Steps p.tables e below (zcv.setTop (mkF m 87 #[.val (.int p1), .val (.int p2), .val (.int p3), .val (.int p4), .val (.int p5), .val (.int p6), .val (.int (p1 % 3)), .val (.int (p2 % 3)), .val (.int (p3 % 3)), .val (.int 1), .unset, .unset, .unset, .unset, .unset, .unset] [(.int 2)])) _
          refine XS.istore z1k.here hx rfl (hb hby at_87) rfl (l' := #[.val (.int p1), .val (.int p2), .val (.int p3), .val (.int p4), .val (.int p5), .val (.int p6), .val (.int (p1 % 3)), .val (.int (p2 % 3)), .val (.int (p3 % 3)), .val (.int 1), .val (.int 2), .unset, .unset, .unset, .unset, .unset]) rfl ?_
          refine XS.iload z1k.here hx rfl (hb hby at_89) rfl ?_
          refine XS.iconst z1k.here hx rfl (hb hby at_91) ?_
          refine XS.iload z1k.here hx rfl (hb hby at_92) rfl ?_
          refine XS.iconst z1k.here hx rfl (hb hby at_94) ?_
          refine zky _ ?_
          show Steps p.tables e below (zkw.setTop (mkF m 98 #[.val (.int p1), .val (.int p2), .val (.int p3), .val (.int p4), .val (.int p5), .val (.int p6), .val (.int (p1 % 3)), .val (.int (p2 % 3)), .val (.int (p3 % 3)), .val (.int 1), .val (.int 2), .unset, .unset, .unset, .unset, .unset] [(.int (own_f_rmB (p1 % 3) (0 : Int32) (p3 % 3) (2 : Int32)))])) _
          refine XS.ifYes z3s.here hx rfl (pc0 := 98) (pc' := 105) rfl (hb hby at_98) rfl ((if0 _ _).trans (teq (own_bf_n1 z4u)).1) (by decide) (by decide) ?_
          show Steps p.tables e below (zkw.setTop (mkF m 105 #[.val (.int p1), .val (.int p2), .val (.int p3), .val (.int p4), .val (.int p5), .val (.int p6), .val (.int (p1 % 3)), .val (.int (p2 % 3)), .val (.int (p3 % 3)), .val (.int 1), .val (.int 2), .unset, .unset, .unset, .unset, .unset] [])) _
          refine XS.iconst z3s.here hx rfl (hb hby at_105) ?_
          refine XS.iload z3s.here hx rfl (hb hby at_106) rfl ?_
          refine XS.iconst z3s.here hx rfl (hb hby at_108) ?_
          refine XS.iload z3s.here hx rfl (hb hby at_109) rfl ?_
          refine XS.iconst z3s.here hx rfl (hb hby at_111) ?_
          refine zl0 _ ?_
          show Steps p.tables e below (zcw.setTop (mkF m 115 #[.val (.int p1), .val (.int p2), .val (.int p3), .val (.int p4), .val (.int p5), .val (.int p6), .val (.int (p1 % 3)), .val (.int (p2 % 3)), .val (.int (p3 % 3)), .val (.int 1), .val (.int 2), .unset, .unset, .unset, .unset, .unset] [(.int (own_f_rmB (p2 % 3) (1 : Int32) (p3 % 3) (2 : Int32))), (.int 0)])) _
          refine XS.ifYes z5s.here hx rfl (pc0 := 115) (pc' := 122) rfl (hb hby at_115) rfl ((if0 _ _).trans (teq (own_bf_n1 zkl)).1) (by decide) (by decide) ?_
          show Steps p.tables e below (zcw.setTop (mkF m 122 #[.val (.int p1), .val (.int p2), .val (.int p3), .val (.int p4), .val (.int p5), .val (.int p6), .val (.int (p1 % 3)), .val (.int (p2 % 3)), .val (.int (p3 % 3)), .val (.int 1), .val (.int 2), .unset, .unset, .unset, .unset, .unset] [(.int 0)])) _
          refine XS.iconst z5s.here hx rfl (hb hby at_122) ?_
          refine XS.iadd z5s.here hx rfl (hb hby at_123) rfl ?_
          show Steps p.tables e below (zcw.setTop (mkF m 124 #[.val (.int p1), .val (.int p2), .val (.int p3), .val (.int p4), .val (.int p5), .val (.int p6), .val (.int (p1 % 3)), .val (.int (p2 % 3)), .val (.int (p3 % 3)), .val (.int 1), .val (.int 2), .unset, .unset, .unset, .unset, .unset] [(.int 0)])) _
          refine XS.istore z5s.here hx rfl (hb hby at_124) rfl (l' := #[.val (.int p1), .val (.int p2), .val (.int p3), .val (.int p4), .val (.int p5), .val (.int p6), .val (.int (p1 % 3)), .val (.int (p2 % 3)), .val (.int (p3 % 3)), .val (.int 1), .val (.int 2), .val (.int 0), .unset, .unset, .unset, .unset]) rfl ?_
          refine zl3 _ ?_
          show Steps p.tables e below (z14v.setTop (mkF m 129 #[.val (.int p1), .val (.int p2), .val (.int p3), .val (.int p4), .val (.int p5), .val (.int p6), .val (.int (p1 % 3)), .val (.int (p2 % 3)), .val (.int (p3 % 3)), .val (.int 1), .val (.int 2), .val (.int 0), .unset, .unset, .unset, .unset] [(.ref z3)])) _
          refine XS.dup zl1.here hx rfl (hb hby at_129) rfl rfl ?_
          refine zl6.trans ?_
          show Steps p.tables e below (z4w.setTop (mkF m 133 #[.val (.int p1), .val (.int p2), .val (.int p3), .val (.int p4), .val (.int p5), .val (.int p6), .val (.int (p1 % 3)), .val (.int (p2 % 3)), .val (.int (p3 % 3)), .val (.int 1), .val (.int 2), .val (.int 0), .unset, .unset, .unset, .unset] [(.ref z3)])) _
          refine XS.astore z2l.here hx rfl (hb hby at_133) rfl rfl (l' := #[.val (.int p1), .val (.int p2), .val (.int p3), .val (.int p4), .val (.int p5), .val (.int p6), .val (.int (p1 % 3)), .val (.int (p2 % 3)), .val (.int (p3 % 3)), .val (.int 1), .val (.int 2), .val (.int 0), .val (.ref z3), .unset, .unset, .unset]) rfl ?_
          refine XS.aload z2l.here hx rfl (hb hby at_135) rfl rfl ?_
          refine XS.iload z2l.here hx rfl (hb hby at_137) rfl ?_
          refine XS.i2dS z2l.here hx rfl (hb hby at_139) rfl (i2d_w _) ?_
          show Steps p.tables e below (z4w.setTop (mkF m 140 #[.val (.int p1), .val (.int p2), .val (.int p3), .val (.int p4), .val (.int p5), .val (.int p6), .val (.int (p1 % 3)), .val (.int (p2 % 3)), .val (.int (p3 % 3)), .val (.int 1), .val (.int 2), .val (.int 0), .val (.ref z3), .unset, .unset, .unset] [(.double (Jvm.FP.l2d ((p1 % 3).toInt64))), (.ref z3)])) _
          refine XS.iloadN z2l.here hx rfl (hb hby at_140) rfl ?_
          refine XS.iconst z2l.here hx rfl (hb hby at_141) ?_
          refine XS.aconstNull z2l.here hx rfl (hb hby at_142) ?_
          refine zlk.trans ?_
          show Steps p.tables e below (zd1.setTop (mkF m 146 #[.val (.int p1), .val (.int p2), .val (.int p3), .val (.int p4), .val (.int p5), .val (.int p6), .val (.int (p1 % 3)), .val (.int (p2 % 3)), .val (.int (p3 % 3)), .val (.int 1), .val (.int 2), .val (.int 0), .val (.ref z3), .unset, .unset, .unset] [])) _
          refine XS.aload z3z.here hx rfl (hb hby at_146) rfl rfl ?_
          refine XS.iload z3z.here hx rfl (hb hby at_148) rfl ?_
          refine XS.i2dS z3z.here hx rfl (hb hby at_150) rfl (i2d_w _) ?_
          show Steps p.tables e below (zd1.setTop (mkF m 151 #[.val (.int p1), .val (.int p2), .val (.int p3), .val (.int p4), .val (.int p5), .val (.int p6), .val (.int (p1 % 3)), .val (.int (p2 % 3)), .val (.int (p3 % 3)), .val (.int 1), .val (.int 2), .val (.int 0), .val (.ref z3), .unset, .unset, .unset] [(.double (Jvm.FP.l2d ((p2 % 3).toInt64))), (.ref z3)])) _
          refine XS.iload z3z.here hx rfl (hb hby at_151) rfl ?_
          refine XS.iconst z3z.here hx rfl (hb hby at_153) ?_
          refine XS.aconstNull z3z.here hx rfl (hb hby at_154) ?_
          refine zlp.trans ?_
          show Steps p.tables e below (zd3.setTop (mkF m 158 #[.val (.int p1), .val (.int p2), .val (.int p3), .val (.int p4), .val (.int p5), .val (.int p6), .val (.int (p1 % 3)), .val (.int (p2 % 3)), .val (.int (p3 % 3)), .val (.int 1), .val (.int 2), .val (.int 0), .val (.ref z3), .unset, .unset, .unset] [])) _
          refine XS.aload z40.here hx rfl (hb hby at_158) rfl rfl ?_
          refine XS.iload z40.here hx rfl (hb hby at_160) rfl ?_
          refine XS.i2dS z40.here hx rfl (hb hby at_162) rfl (i2d_w _) ?_
          show Steps p.tables e below (zd3.setTop (mkF m 163 #[.val (.int p1), .val (.int p2), .val (.int p3), .val (.int p4), .val (.int p5), .val (.int p6), .val (.int (p1 % 3)), .val (.int (p2 % 3)), .val (.int (p3 % 3)), .val (.int 1), .val (.int 2), .val (.int 0), .val (.ref z3), .unset, .unset, .unset] [(.double (Jvm.FP.l2d ((p3 % 3).toInt64))), (.ref z3)])) _
          refine XS.iload z40.here hx rfl (hb hby at_163) rfl ?_
          refine XS.iconst z40.here hx rfl (hb hby at_165) ?_
          refine XS.aconstNull z40.here hx rfl (hb hby at_166) ?_
          refine zlu.trans ?_
          show Steps p.tables e below (zav.setTop (mkF m 170 #[.val (.int p1), .val (.int p2), .val (.int p3), .val (.int p4), .val (.int p5), .val (.int p6), .val (.int (p1 % 3)), .val (.int (p2 % 3)), .val (.int (p3 % 3)), .val (.int 1), .val (.int 2), .val (.int 0), .val (.ref z3), .unset, .unset, .unset] [])) _
          refine XS.aload z9l.here hx rfl (hb hby at_170) rfl rfl ?_
          refine zm0.trans ?_
          show Steps p.tables e below (z17j.setTop (mkF m 175 #[.val (.int p1), .val (.int p2), .val (.int p3), .val (.int p4), .val (.int p5), .val (.int p6), .val (.int (p1 % 3)), .val (.int (p2 % 3)), .val (.int (p3 % 3)), .val (.int 1), .val (.int 2), .val (.int 0), .val (.ref z3), .unset, .unset, .unset] [(.int p6)])) _
          refine XS.istore z7k.here hx rfl (hb hby at_175) rfl (l' := #[.val (.int p1), .val (.int p2), .val (.int p3), .val (.int p4), .val (.int p5), .val (.int p6), .val (.int (p1 % 3)), .val (.int (p2 % 3)), .val (.int (p3 % 3)), .val (.int 1), .val (.int 2), .val (.int 0), .val (.ref z3), .val (.int p6), .unset, .unset]) rfl ?_
          refine XS.aload z7k.here hx rfl (hb hby at_177) rfl rfl ?_
          refine zm3.trans ?_
          show Steps p.tables e below (zd8.setTop (mkF m 182 #[.val (.int p1), .val (.int p2), .val (.int p3), .val (.int p4), .val (.int p5), .val (.int p6), .val (.int (p1 % 3)), .val (.int (p2 % 3)), .val (.int (p3 % 3)), .val (.int 1), .val (.int 2), .val (.int 0), .val (.ref z3), .val (.int p6), .unset, .unset] [])) _
          refine XS.aload z9m.here hx rfl (hb hby at_182) rfl rfl ?_
          refine zm9.trans ?_
          show Steps p.tables e below (z187.setTop (mkF m 187 #[.val (.int p1), .val (.int p2), .val (.int p3), .val (.int p4), .val (.int p5), .val (.int p6), .val (.int (p1 % 3)), .val (.int (p2 % 3)), .val (.int (p3 % 3)), .val (.int 1), .val (.int 2), .val (.int 0), .val (.ref z3), .val (.int p6), .unset, .unset] [(.int p4)])) _
          refine XS.istore z7l.here hx rfl (hb hby at_187) rfl (l' := #[.val (.int p1), .val (.int p2), .val (.int p3), .val (.int p4), .val (.int p5), .val (.int p6), .val (.int (p1 % 3)), .val (.int (p2 % 3)), .val (.int (p3 % 3)), .val (.int 1), .val (.int 2), .val (.int 0), .val (.ref z3), .val (.int p6), .val (.int p4), .unset]) rfl ?_
          refine XS.aload z7l.here hx rfl (hb hby at_189) rfl rfl ?_
          refine zmc.trans ?_
          show Steps p.tables e below (z9n.setTop (mkF m 194 #[.val (.int p1), .val (.int p2), .val (.int p3), .val (.int p4), .val (.int p5), .val (.int p6), .val (.int (p1 % 3)), .val (.int (p2 % 3)), .val (.int (p3 % 3)), .val (.int 1), .val (.int 2), .val (.int 0), .val (.ref z3), .val (.int p6), .val (.int p4), .unset] [])) _
          refine XS.aload z9o.here hx rfl (hb hby at_194) rfl rfl ?_
          refine zme.trans ?_
          show Steps p.tables e below (z18l.setTop (mkF m 199 #[.val (.int p1), .val (.int p2), .val (.int p3), .val (.int p4), .val (.int p5), .val (.int p6), .val (.int (p1 % 3)), .val (.int (p2 % 3)), .val (.int (p3 % 3)), .val (.int 1), .val (.int 2), .val (.int 0), .val (.ref z3), .val (.int p6), .val (.int p4), .unset] [(.int p5)])) _
          refine XS.istore z1l.here hx rfl (hb hby at_199) rfl (l' := #[.val (.int p1), .val (.int p2), .val (.int p3), .val (.int p4), .val (.int p5), .val (.int p6), .val (.int (p1 % 3)), .val (.int (p2 % 3)), .val (.int (p3 % 3)), .val (.int 1), .val (.int 2), .val (.int 0), .val (.ref z3), .val (.int p6), .val (.int p4), .val (.int p5)]) rfl ?_
          refine XS.iload z1l.here hx rfl (hb hby at_201) rfl ?_
          refine XS.iconst z1l.here hx rfl (hb hby at_203) ?_
          refine XS.iload z1l.here hx rfl (hb hby at_204) rfl ?_
          refine XS.iload z1l.here hx rfl (hb hby at_206) rfl ?_
          refine XS.iload z1l.here hx rfl (hb hby at_208) rfl ?_
          refine XS.iloadN z1l.here hx rfl (hb hby at_210) rfl ?_
          refine XS.iload z1l.here hx rfl (hb hby at_211) rfl ?_
          refine XS.iload z1l.here hx rfl (hb hby at_213) rfl ?_
          refine zmh _ ?_
          show Steps p.tables e below (zmf.setTop (mkF m 218 #[.val (.int p1), .val (.int p2), .val (.int p3), .val (.int p4), .val (.int p5), .val (.int p6), .val (.int (p1 % 3)), .val (.int (p2 % 3)), .val (.int (p3 % 3)), .val (.int 1), .val (.int 2), .val (.int 0), .val (.ref z3), .val (.int p6), .val (.int p4), .val (.int p5)] [(.int p6), (.int p6)])) _
          refine XS.icmpNo z1m.here hx rfl (hb hby at_218) rfl (teq (rfl : p6 = p6)).2 ?_
          show Steps p.tables e below (zmf.setTop (mkF m 221 #[.val (.int p1), .val (.int p2), .val (.int p3), .val (.int p4), .val (.int p5), .val (.int p6), .val (.int (p1 % 3)), .val (.int (p2 % 3)), .val (.int (p3 % 3)), .val (.int 1), .val (.int 2), .val (.int 0), .val (.ref z3), .val (.int p6), .val (.int p4), .val (.int p5)] [])) _
          refine XS.iload z1m.here hx rfl (hb hby at_221) rfl ?_
          refine XS.iconst z1m.here hx rfl (hb hby at_223) ?_
          refine XS.iload z1m.here hx rfl (hb hby at_224) rfl ?_
          refine XS.iload z1m.here hx rfl (hb hby at_226) rfl ?_
          refine XS.iload z1m.here hx rfl (hb hby at_228) rfl ?_
          refine XS.iloadN z1m.here hx rfl (hb hby at_230) rfl ?_
          refine XS.iload z1m.here hx rfl (hb hby at_231) rfl ?_
          refine XS.iload z1m.here hx rfl (hb hby at_233) rfl ?_
          refine zmk _ ?_
          show Steps p.tables e below (zmi.setTop (mkF m 238 #[.val (.int p1), .val (.int p2), .val (.int p3), .val (.int p4), .val (.int p5), .val (.int p6), .val (.int (p1 % 3)), .val (.int (p2 % 3)), .val (.int (p3 % 3)), .val (.int 1), .val (.int 2), .val (.int 0), .val (.ref z3), .val (.int p6), .val (.int p4), .val (.int p5)] [(.int p4), (.int p4)])) _
          refine XS.icmpNo z1n.here hx rfl (hb hby at_238) rfl (teq (rfl : p4 = p4)).2 ?_
          show Steps p.tables e below (zmi.setTop (mkF m 241 #[.val (.int p1), .val (.int p2), .val (.int p3), .val (.int p4), .val (.int p5), .val (.int p6), .val (.int (p1 % 3)), .val (.int (p2 % 3)), .val (.int (p3 % 3)), .val (.int 1), .val (.int 2), .val (.int 0), .val (.ref z3), .val (.int p6), .val (.int p4), .val (.int p5)] [])) _
          refine XS.iload z1n.here hx rfl (hb hby at_241) rfl ?_
          refine XS.iconst z1n.here hx rfl (hb hby at_243) ?_
          refine XS.iload z1n.here hx rfl (hb hby at_244) rfl ?_
          refine XS.iload z1n.here hx rfl (hb hby at_246) rfl ?_
          refine XS.iload z1n.here hx rfl (hb hby at_248) rfl ?_
          refine XS.iloadN z1n.here hx rfl (hb hby at_250) rfl ?_
          refine XS.iload z1n.here hx rfl (hb hby at_251) rfl ?_
          refine XS.iload z1n.here hx rfl (hb hby at_253) rfl ?_
          refine zmm _ ?_
          show Steps p.tables e below (zdd.setTop (mkF m 258 #[.val (.int p1), .val (.int p2), .val (.int p3), .val (.int p4), .val (.int p5), .val (.int p6), .val (.int (p1 % 3)), .val (.int (p2 % 3)), .val (.int (p3 % 3)), .val (.int 1), .val (.int 2), .val (.int 0), .val (.ref z3), .val (.int p6), .val (.int p4), .val (.int p5)] [(.int p5), (.int p5)])) _
          refine XS.icmpNo z5z.here hx rfl (hb hby at_258) rfl (teq (rfl : p5 = p5)).2 ?_
          show Steps p.tables e below (zdd.setTop (mkF m 261 #[.val (.int p1), .val (.int p2), .val (.int p3), .val (.int p4), .val (.int p5), .val (.int p6), .val (.int (p1 % 3)), .val (.int (p2 % 3)), .val (.int (p3 % 3)), .val (.int 1), .val (.int 2), .val (.int 0), .val (.ref z3), .val (.int p6), .val (.int p4), .val (.int p5)] [])) _
          refine XS.iconst z5z.here hx rfl (hb hby at_261) ?_
          refine XS.goto z5z.here hx rfl (pc0 := 262) (pc' := 266) rfl (hb hby at_262) (by decide) (by decide) ?_
          exact retN z5z hx (t := .boolean) Bd.returns (by simp) (hb hby at_266) hr
        · show LQ n0 _ zdd.heap _
          exact ⟨rfl, z18w, trivial⟩
      · exfalso; simp only [Int32.lt_iff_toInt_lt, ← Int32.toInt_inj] at *; omega
    · by_cases z7m : (p3 % 3) < (p2 % 3)
      · obtain ⟨_, _, ⟨zmn, L876, z1ml, n876⟩, -, z41, ⟨Lc876, zmo, l876, y876, z876⟩, zmp⟩ := Jvm.LawKit.callS X0 hx (y := own_m2) hown (mvT hZ (own_W hw 0 rfl)) (mvT hZ (own_W hw 1 rfl)) (mvT hZ (own_W hw 2 rfl)) (mvT hZ (own_W hw 3 rfl)) (by decide) (backOf (W := 0) (rmB l Z a0 hw [] h0 n0 A K (p2 % 3) (1 : Int32) (p1 % 3) (0 : Int32) EN OL0) hZ (own_W hw 3 rfl) (own_W hw 2 rfl) (by decide) (by decide)) (g := (mkF m 21 #[.val (.int p1), .val (.int p2), .val (.int p3), .val (.int p4), .val (.int p5), .val (.int p6), .val (.int (p1 % 3)), .val (.int (p2 % 3)), .val (.int (p3 % 3)), .unset, .unset, .unset, .unset, .unset, .unset, .unset] [(.int 0), (.int (p1 % 3)), (.int 1), (.int (p2 % 3))])) rfl (by rw [hml]; rfl) (argsL := [(.int (p2 % 3)), (.int 1), (.int (p1 % 3)), (.int 0)]) (rest := []) (lenOf own_pd4 rfl) rfl (by show 2 * 0 + _ ≤ _; exact Nat.le_of_eq rfl) (hb hby at_21) (fun _ _ => ⟨rfl, e0, (by decide : 0 + 0 ≤ _), (by decide : 0 + 0 ≤ _)⟩)
        dsimp only [Pt.U, Pt.locs, Pt.cells, Pt.slots] at z41 l876 y876 z876 zmp zmo
        replace z41 := own_sub z41 l876 y876 z876
        obtain ⟨rfl, z18x, z18y⟩ := zmo
        have z18z := Fr.app N0 z18x
        obtain ⟨_, _, ⟨zde, L877, z1mm, n877⟩, -, z22, ⟨Lc877, zmq, l877, y877, z877⟩, zmr⟩ := Jvm.LawKit.callS z41 hx (y := own_m2) hown (mvT hZ (own_W hw 0 rfl)) (mvT hZ (own_W hw 1 rfl)) (mvT hZ (own_W hw 2 rfl)) (mvT hZ (own_W hw 3 rfl)) (by decide) (backOf (W := 1) (rmB l Z a0 hw [] h0 n0 A K (p3 % 3) (2 : Int32) (p1 % 3) (0 : Int32) EN OL0) hZ (own_W hw 3 rfl) (own_W hw 2 rfl) (by decide) (by decide)) (g := (mkF m 38 #[.val (.int p1), .val (.int p2), .val (.int p3), .val (.int p4), .val (.int p5), .val (.int p6), .val (.int (p1 % 3)), .val (.int (p2 % 3)), .val (.int (p3 % 3)), .unset, .unset, .unset, .unset, .unset, .unset, .unset] [(.int 0), (.int (p1 % 3)), (.int 2), (.int (p3 % 3)), (.int 0)])) rfl (by rw [hml]; rfl) (argsL := [(.int (p3 % 3)), (.int 2), (.int (p1 % 3)), (.int 0)]) (rest := [(.int 0)]) (lenOf own_pd4 rfl) rfl (by show 2 * 0 + _ ≤ _; exact Nat.le_of_eq rfl) (hb hby at_38) (fun _ _ => ⟨rfl, z18y, (by decide : 0 + 0 ≤ _), (by decide : 0 + 0 ≤ _)⟩)
        dsimp only [Pt.U, Pt.locs, Pt.cells, Pt.slots] at z22 l877 y877 z877 zmr zmq
        replace z22 := own_sub z22 l877 y877 z877
        obtain ⟨rfl, z190, z191⟩ := zmq
        have z192 := Fr.app z18z z190
        obtain ⟨_, _, ⟨zms, L878, z1mn, n878⟩, -, z2o, ⟨Lc878, zmt, l878, y878, z878⟩, zmu⟩ := Jvm.LawKit.callS z22 hx (y := own_m2) hown (mvT hZ (own_W hw 0 rfl)) (mvT hZ (own_W hw 1 rfl)) (mvT hZ (own_W hw 2 rfl)) (mvT hZ (own_W hw 3 rfl)) (by decide) (backOf (W := 0) (rmB l Z a0 hw [] h0 n0 A K (p1 % 3) (0 : Int32) (p2 % 3) (1 : Int32) EN OL0) hZ (own_W hw 3 rfl) (own_W hw 2 rfl) (by decide) (by decide)) (g := (mkF m 58 #[.val (.int p1), .val (.int p2), .val (.int p3), .val (.int p4), .val (.int p5), .val (.int p6), .val (.int (p1 % 3)), .val (.int (p2 % 3)), .val (.int (p3 % 3)), .val (.int 0), .unset, .unset, .unset, .unset, .unset, .unset] [(.int 1), (.int (p2 % 3)), (.int 0), (.int (p1 % 3))])) rfl (by rw [hml]; rfl) (argsL := [(.int (p1 % 3)), (.int 0), (.int (p2 % 3)), (.int 1)]) (rest := []) (lenOf own_pd4 rfl) rfl (by show 2 * 0 + _ ≤ _; exact Nat.le_of_eq rfl) (hb hby at_58) (fun _ _ => ⟨rfl, z191, (by decide : 0 + 0 ≤ _), (by decide : 0 + 0 ≤ _)⟩)
        dsimp only [Pt.U, Pt.locs, Pt.cells, Pt.slots] at z2o l878 y878 z878 zmu zmt
        replace z2o := own_sub z2o l878 y878 z878
        obtain ⟨rfl, z193, z194⟩ := zmt
        have z195 := Fr.app z192 z193
        obtain ⟨_, _, ⟨zdf, L879, z1mo, n879⟩, -, z1o, ⟨Lc879, zmv, l879, y879, z879⟩, zmw⟩ := Jvm.LawKit.callS z2o hx (y := own_m2) hown (mvT hZ (own_W hw 0 rfl)) (mvT hZ (own_W hw 1 rfl)) (mvT hZ (own_W hw 2 rfl)) (mvT hZ (own_W hw 3 rfl)) (by decide) (backOf (W := 1) (rmB l Z a0 hw [] h0 n0 A K (p3 % 3) (2 : Int32) (p2 % 3) (1 : Int32) EN OL0) hZ (own_W hw 3 rfl) (own_W hw 2 rfl) (by decide) (by decide)) (g := (mkF m 75 #[.val (.int p1), .val (.int p2), .val (.int p3), .val (.int p4), .val (.int p5), .val (.int p6), .val (.int (p1 % 3)), .val (.int (p2 % 3)), .val (.int (p3 % 3)), .val (.int 0), .unset, .unset, .unset, .unset, .unset, .unset] [(.int 1), (.int (p2 % 3)), (.int 2), (.int (p3 % 3)), (.int 1)])) rfl (by rw [hml]; rfl) (argsL := [(.int (p3 % 3)), (.int 2), (.int (p2 % 3)), (.int 1)]) (rest := [(.int 1)]) (lenOf own_pd4 rfl) rfl (by show 2 * 0 + _ ≤ _; exact Nat.le_of_eq rfl) (hb hby at_75) (fun _ _ => ⟨rfl, z194, (by decide : 0 + 0 ≤ _), (by decide : 0 + 0 ≤ _)⟩)
        dsimp only [Pt.U, Pt.locs, Pt.cells, Pt.slots] at z1o l879 y879 z879 zmw zmv
        replace z1o := own_sub z1o l879 y879 z879
        obtain ⟨rfl, z196, z197⟩ := zmv
        have z198 := Fr.app z195 z196
        obtain ⟨_, _, ⟨zmx, L880, z1mp, n880⟩, -, z2p, ⟨Lc880, zmy, l880, y880, z880⟩, zmz⟩ := Jvm.LawKit.callS z1o hx (y := own_m2) hown (mvT hZ (own_W hw 0 rfl)) (mvT hZ (own_W hw 1 rfl)) (mvT hZ (own_W hw 2 rfl)) (mvT hZ (own_W hw 3 rfl)) (by decide) (backOf (W := 0) (rmB l Z a0 hw [] h0 n0 A K (p1 % 3) (0 : Int32) (p3 % 3) (2 : Int32) EN OL0) hZ (own_W hw 3 rfl) (own_W hw 2 rfl) (by decide) (by decide)) (g := (mkF m 95 #[.val (.int p1), .val (.int p2), .val (.int p3), .val (.int p4), .val (.int p5), .val (.int p6), .val (.int (p1 % 3)), .val (.int (p2 % 3)), .val (.int (p3 % 3)), .val (.int 0), .val (.int 2), .unset, .unset, .unset, .unset, .unset] [(.int 2), (.int (p3 % 3)), (.int 0), (.int (p1 % 3))])) rfl (by rw [hml]; rfl) (argsL := [(.int (p1 % 3)), (.int 0), (.int (p3 % 3)), (.int 2)]) (rest := []) (lenOf own_pd4 rfl) rfl (by show 2 * 0 + _ ≤ _; exact Nat.le_of_eq rfl) (hb hby at_95) (fun _ _ => ⟨rfl, z197, (by decide : 0 + 0 ≤ _), (by decide : 0 + 0 ≤ _)⟩)
        dsimp only [Pt.U, Pt.locs, Pt.cells, Pt.slots] at z2p l880 y880 z880 zmz zmy
        replace z2p := own_sub z2p l880 y880 z880
        obtain ⟨rfl, z199, z19a⟩ := zmy
        have z19b := Fr.app z198 z199
        obtain ⟨_, _, ⟨zdg, L881, z1mq, n881⟩, -, z60, ⟨Lc881, zn0, l881, y881, z881⟩, zn1⟩ := Jvm.LawKit.callS z2p hx (y := own_m2) hown (mvT hZ (own_W hw 0 rfl)) (mvT hZ (own_W hw 1 rfl)) (mvT hZ (own_W hw 2 rfl)) (mvT hZ (own_W hw 3 rfl)) (by decide) (backOf (W := 1) (rmB l Z a0 hw [] h0 n0 A K (p2 % 3) (1 : Int32) (p3 % 3) (2 : Int32) EN OL0) hZ (own_W hw 3 rfl) (own_W hw 2 rfl) (by decide) (by decide)) (g := (mkF m 112 #[.val (.int p1), .val (.int p2), .val (.int p3), .val (.int p4), .val (.int p5), .val (.int p6), .val (.int (p1 % 3)), .val (.int (p2 % 3)), .val (.int (p3 % 3)), .val (.int 0), .val (.int 2), .unset, .unset, .unset, .unset, .unset] [(.int 2), (.int (p3 % 3)), (.int 1), (.int (p2 % 3)), (.int 1)])) rfl (by rw [hml]; rfl) (argsL := [(.int (p2 % 3)), (.int 1), (.int (p3 % 3)), (.int 2)]) (rest := [(.int 1)]) (lenOf own_pd4 rfl) rfl (by show 2 * 0 + _ ≤ _; exact Nat.le_of_eq rfl) (hb hby at_112) (fun _ _ => ⟨rfl, z19a, (by decide : 0 + 0 ≤ _), (by decide : 0 + 0 ≤ _)⟩)
        dsimp only [Pt.U, Pt.locs, Pt.cells, Pt.slots] at z60 l881 y881 z881 zn1 zn0
        replace z60 := own_sub z60 l881 y881 z881
        obtain ⟨rfl, z19c, z19d⟩ := zn0
        have z19e := Fr.app z19b z19c
        obtain ⟨z19f, z42, zn2, z19g, zn3, z4y, z43, -, zn4⟩ := newO z60 hx hZ hown (own_W hw 4 rfl) (own_W hw 5 rfl) (own_W hw 6 rfl) z19d (g := (mkF m 126 #[.val (.int p1), .val (.int p2), .val (.int p3), .val (.int p4), .val (.int p5), .val (.int p6), .val (.int (p1 % 3)), .val (.int (p2 % 3)), .val (.int (p3 % 3)), .val (.int 0), .val (.int 2), .val (.int 1), .unset, .unset, .unset, .unset] [])) rfl (hb hby at_126) (by decide) (by decide)
        obtain ⟨z4, zdh⟩ : ∃ z, z = h0.size := ⟨_, rfl⟩
        rw [← zdh] at z4y z43 zn4
        have z23 : n0 ≤ z4 := Nat.le_trans (OL0.1 ▸ OL0.2.1) (Nat.le_of_eq zdh.symm)
        have z7n : h0.size ≤ z4 := Nat.le_trans KK0.1 (Nat.le_of_eq zdh.symm)
        have zn5 := OL0.ext zn3
        have z61 := KK0.ext zn3
        have z19h : Fld Z z42 z4 y_s0 "at" "[D" .null := z43 (Or.inl (own_W hw 15 rfl)) (ty := (.array .double)) (by decide)
        have z19i : Fld Z z42 z4 y_s0 "added" "[J" .null := z43 (Or.inl (own_W hw 18 rfl)) (ty := (.array .long)) (by decide)
        have z19j : Fld Z z42 z4 y_s0 "slot" "[I" .null := z43 (Or.inl (own_W hw 21 rfl)) (ty := (.array .int)) (by decide)
        have z19k : Fld Z z42 z4 y_s0 "from" "[I" .null := z43 (Or.inl (own_W hw 23 rfl)) (ty := (.array .int)) (by decide)
        have z19l : Fld Z z42 z4 y_s0 "to" "[I" .null := z43 (Or.inl (own_W hw 25 rfl)) (ty := (.array .int)) (by decide)
        have z19m : Fld Z z42 z4 y_s0 "message" y_s1 .null := z43 (Or.inl (own_W hw 29 rfl)) (ty := (.array (.object y_s2))) (by decide)
        have z19n : Fld Z z42 z4 y_s0 "free" "[I" .null := z43 (Or.inl (own_W hw 31 rfl)) (ty := (.array .int)) (by decide)
        have z19o : Fld Z z42 z4 y_s0 "size" "I" (.int 0) := z43 (Or.inl (own_W hw 42 rfl)) (ty := .int) (by decide)
        have z19p : Fld Z z42 z4 y_s0 "additions" "J" (.long 0) := z43 (Or.inl (own_W hw 44 rfl)) (ty := .long) (by decide)
        obtain ⟨_, _, ⟨z4z, L883, z1mr, n883⟩, -, z2q, ⟨Lc883, zn6, l883, y883, z883⟩, zn7⟩ := zn2.specialBack hx (y := own_m7) rfl hown (mvT hZ (own_W hw 7 rfl)) (mvT hZ (own_W hw 8 rfl)) (mvT hZ (own_W hw 9 rfl)) (by decide) (backOf (W := 1) (rmL1 l Z a0 hw [] z42 n0 p1 p2 p3 p4 p5 p6 A K z4 EN zn5 z4y z19h z19i z19j z19k z19l z19m z19n z19o z19p z23) hZ (own_W hw 9 rfl) (own_W hw 6 rfl) (by decide) (by decide)) (g := (mkF m 130 #[.val (.int p1), .val (.int p2), .val (.int p3), .val (.int p4), .val (.int p5), .val (.int p6), .val (.int (p1 % 3)), .val (.int (p2 % 3)), .val (.int (p3 % 3)), .val (.int 0), .val (.int 2), .val (.int 1), .unset, .unset, .unset, .unset] [(.ref z4), (.ref z4)])) rfl (by rw [hml]; rfl) (Steps.refl _) (a := z4) (argsL := []) (rest := [(.ref z4)]) (lenOf own_pd6 rfl) rfl (by show 2 * 0 + _ ≤ _; exact Nat.le_of_eq rfl) (hb hby at_130) (fun _ _ => ⟨rfl, z19g, (by decide : 1 + 7 ≤ _), (by decide : 9 + 112 ≤ _)⟩)
        dsimp only [Pt.U, Pt.locs, Pt.cells, Pt.slots] at z2q l883 y883 z883 zn7 zn6
        replace z2q := own_sub z2q l883 y883 z883
        obtain ⟨z62, z63, z2r, z2s, z64, z65, z66, z7o, z7p, z50, z6j, zax, z7q, z7r, rfl, z19q, zn8, ⟨z44, zn9⟩, ⟨z45, zna⟩, ⟨z46, znb⟩, ⟨z7s, znc⟩, ⟨z7t, znd⟩, ⟨z47, zne⟩, ⟨zay, znf⟩, z12, zq, za, zg, zr, z13, zng, z19r, z19s, z19t, z19u, z19v, z19w, z19x, z19y, z19z, z1a0, z1a1, z1a2, z1a3, z1a4, z1a5, z1a6, znh⟩ := zn6
        have z1a7 := Fr.app z19e z19q
        have z9p : z4 < z62 := Nat.lt_of_lt_of_le z4y.lt zn9
        have z9q : z4 < z63 := Nat.lt_of_lt_of_le z4y.lt zna
        have z9r : z4 < z2r := Nat.lt_of_lt_of_le z4y.lt znb
        have z9s : z4 < z2s := Nat.lt_of_lt_of_le z4y.lt znc
        have zdi : z4 < z64 := Nat.lt_of_lt_of_le z4y.lt znd
        have z9t : z4 < z65 := Nat.lt_of_lt_of_le z4y.lt zne
        have z9u : z4 < z66 := Nat.lt_of_lt_of_le z4y.lt znf
        have z9v : h0.size ≤ z62 := Nat.le_trans z61.1 zn9
        have z9w : h0.size ≤ z63 := Nat.le_trans z61.1 zna
        have z9x : h0.size ≤ z2r := Nat.le_trans z61.1 znb
        have zdj : h0.size ≤ z2s := Nat.le_trans z61.1 znc
        have zdk : h0.size ≤ z64 := Nat.le_trans z61.1 znd
        have z9y : h0.size ≤ z65 := Nat.le_trans z61.1 zne
        have zni : h0.size ≤ z66 := Nat.le_trans z61.1 znf
        have znj := zn5.keep zn8 (allS z23 all0)
        have z1a8 := z61.trans zn8 (allS (Or.inr z7n) all0)
        have z1a9 : Arv Z z4z.heap z62 z7o .double (16 : Int32) [(.double (Jvm.FP.l2d ((0 : Int32).toInt64))), (.double (Jvm.FP.l2d ((0 : Int32).toInt64))), (.double (Jvm.FP.l2d ((0 : Int32).toInt64)))] (.double (Jvm.FP.l2d ((0 : Int32).toInt64))) := Arv.pad z1a0 (pad_rep [] (.double (Jvm.FP.l2d ((0 : Int32).toInt64))) 3)
        have z1aa : Arv Z z4z.heap z63 z7p .long (16 : Int32) [(.long 0), (.long 0), (.long 0)] (.long 0) := Arv.pad z1a1 (pad_rep [] (.long 0) 3)
        have z1ab : Arv Z z4z.heap z2r z50 .int 16 [(.int 0), (.int 0), (.int 0)] (.int 0) := Arv.pad z1a2 (pad_rep [] (.int 0) 3)
        have z1ac : Arv Z z4z.heap z2s z6j .int 16 [(.int 0), (.int 0), (.int 0)] (.int 0) := Arv.pad z1a3 (pad_rep [] (.int 0) 3)
        have z1ad : Arv Z z4z.heap z64 zax .int 16 [(.int 0), (.int 0), (.int 0)] (.int 0) := Arv.pad z1a4 (pad_rep [] (.int 0) 3)
        have z1ae : own_AM Z z4z.heap z65 z7q (.object y_s2) := ⟨_, _, z1a5⟩
        obtain ⟨cq890, kq890, z1af, z1ms, z1ag⟩ := isOf hZ rfl zng
        obtain ⟨_, _, ⟨zdl, L890, z1mt, n890⟩, -, z48, ⟨Lc890, znk, l890, y890, z890⟩, znl⟩ := z2q.virtualBack hx (y := own_m0) (z := own_m0) hown (mvT hZ (own_W hw 36 rfl)) (mvT hZ (own_W hw 37 rfl)) (notFace_of_selects (args := #[]) (mvT hZ (own_W hw 39 rfl))) (mvT hZ (own_W hw 39 rfl)) (mvT hZ (own_W hw 38 rfl)) (by decide) (backOf (W := 0) (rmA0 l Z a0 hw [] z4z.heap n0 A K (0 : Int32) (0 : Int32) (0 : Int32) (0 : Int64) (0 : Int64) (0 : Int64) (0 : Int32) (0 : Int32) (0 : Int32) (0 : Int32) (0 : Int32) (0 : Int32) (0 : Int32) (0 : Int32) (0 : Int32) (0 : Int64) (p1 % 3) p4 (0 : Int32) z4 z62 z63 z2r z2s z64 z65 z66 z7o z7p z50 z6j zax z7q z7r EN znj z19y z19t z1ab z19x znh z19u z1ac z19v z1ad z19w z1ae zng z19z z19r z1a9 z19s z1aa z1a6 (Nat.ne_of_lt z9s) (Nat.ne_of_lt zg) (Nat.ne_of_lt zdi) (Nat.ne_of_lt (Nat.lt_trans zg zr)) (Nat.ne_of_lt zr) (Nat.ne_of_lt z9t) (Nat.ne_of_lt (Nat.lt_trans (Nat.lt_trans z12 zq) za)) (Nat.ne_of_lt (Nat.lt_trans (Nat.lt_trans (Nat.lt_trans z12 zq) za) zg)) (Nat.ne_of_lt (Nat.lt_trans (Nat.lt_trans (Nat.lt_trans (Nat.lt_trans z12 zq) za) zg) zr)) (Nat.ne_of_lt z9p) (Nat.ne_of_lt (Nat.lt_trans zq za)) (Nat.ne_of_lt (Nat.lt_trans (Nat.lt_trans zq za) zg)) (Nat.ne_of_lt (Nat.lt_trans (Nat.lt_trans (Nat.lt_trans zq za) zg) zr)) (Nat.ne_of_lt z9q) (Nat.ne_of_lt za) (Nat.ne_of_lt (Nat.lt_trans za zg)) (Nat.ne_of_lt (Nat.lt_trans (Nat.lt_trans za zg) zr)) (Nat.ne_of_lt z9r) (Nat.ne_of_lt z12) (Nat.ne_of_lt (Nat.lt_trans z12 zq)) (Nat.ne_of_lt zq) z7s z7t z47 z23 z44 z45 z46) hZ (own_W hw 40 rfl) (own_W hw 6 rfl) (by decide) (by decide)) z1af z1ag (g := (mkF m 143 #[.val (.int p1), .val (.int p2), .val (.int p3), .val (.int p4), .val (.int p5), .val (.int p6), .val (.int (p1 % 3)), .val (.int (p2 % 3)), .val (.int (p3 % 3)), .val (.int 0), .val (.int 2), .val (.int 1), .val (.ref z4), .unset, .unset, .unset] [.null, (.int 0), (.int p4), (.double (Jvm.FP.l2d ((p1 % 3).toInt64))), (.ref z4)])) rfl (by rw [hml]; rfl) (Steps.refl _) (argsL := [(.double (Jvm.FP.l2d ((p1 % 3).toInt64))), (.int p4), (.int 0), .null]) (rest := []) (lenOf own_pd7 rfl) rfl (by show 2 * 0 + _ ≤ _; exact Nat.le_of_eq rfl) (hb hby at_143) (fun _ _ => ⟨rfl, rfl, (by decide : 8 + 0 ≤ _), (by decide : 121 + 0 ≤ _)⟩)
        dsimp only [Pt.U, Pt.locs, Pt.cells, Pt.slots] at z48 l890 y890 z890 znl znk
        replace z48 := own_sub z48 l890 y890 z890
        obtain ⟨rfl, z1ah, zdm, znm, z1ai, z1aj, z1ak, z1al, z1am, z1an, z1ao, z1ap, z1aq, z1ar, z1as, z1at, z1au, z1av, z1aw, z1ax⟩ := znk
        have z1ay := Fr.app z1a7 z1ah
        have znn := znj.keep zdm (allS z7s (allS z7t (allS z47 (allS z23 (allS z46 (allS z45 (allS z44 all0)))))))
        have z1az := z1a8.trans zdm (allS (Or.inr zdj) (allS (Or.inr zdk) (allS (Or.inr z9y) (allS (Or.inr z7n) (allS (Or.inr z9x) (allS (Or.inr z9w) (allS (Or.inr z9v) all0)))))))
        have zno := (znh.keep zdm (ninS (Ne.symm (Nat.ne_of_lt (Nat.lt_trans (Nat.lt_trans zg zr) z13))) (ninS (Ne.symm (Nat.ne_of_lt (Nat.lt_trans zr z13))) (ninS (Ne.symm (Nat.ne_of_lt z13)) (ninS (Ne.symm (Nat.ne_of_lt z9u)) (ninS (Ne.symm (Nat.ne_of_lt (Nat.lt_trans (Nat.lt_trans (Nat.lt_trans za zg) zr) z13))) (ninS (Ne.symm (Nat.ne_of_lt (Nat.lt_trans (Nat.lt_trans (Nat.lt_trans (Nat.lt_trans zq za) zg) zr) z13))) (ninS (Ne.symm (Nat.ne_of_lt (Nat.lt_trans (Nat.lt_trans (Nat.lt_trans (Nat.lt_trans (Nat.lt_trans z12 zq) za) zg) zr) z13))) nin0))))))))
        obtain ⟨cq892, kq892, z1b0, z1mu, z1b1⟩ := isOf hZ rfl znm
        obtain ⟨_, _, ⟨zdn, L892, z1mv, n892⟩, -, z49, ⟨Lc892, znp, l892, y892, z892⟩, znq⟩ := z48.virtualBack hx (y := own_m0) (z := own_m0) hown (mvT hZ (own_W hw 36 rfl)) (mvT hZ (own_W hw 37 rfl)) (notFace_of_selects (args := #[]) (mvT hZ (own_W hw 39 rfl))) (mvT hZ (own_W hw 39 rfl)) (mvT hZ (own_W hw 38 rfl)) (by decide) (backOf (W := 0) (rmA1n l Z a0 hw [] zdl.heap n0 A K (p1 % 3) (0 : Int32) (0 : Int32) (0 : Int64) (0 : Int64) (0 : Int64) (0 : Int32) (0 : Int32) (0 : Int32) p4 (0 : Int32) (0 : Int32) (0 : Int32) (0 : Int32) (0 : Int32) ((0 : Int64) + (1 : Int64)) (p2 % 3) p5 (1 : Int32) z4 z62 z63 z2r z2s z64 z65 z66 z7o z7p z50 z6j zax z7q z7r EN znn z1ap z1ak z1at z1ao zno z1al z1au z1am z1av z1an z1aw znm z1ai z1ar z1aq z1aj z1as z1ax z16 (Nat.ne_of_lt z9s) (Nat.ne_of_lt zg) (Nat.ne_of_lt zdi) (Nat.ne_of_lt (Nat.lt_trans zg zr)) (Nat.ne_of_lt zr) (Nat.ne_of_lt z9t) (Nat.ne_of_lt (Nat.lt_trans (Nat.lt_trans z12 zq) za)) (Nat.ne_of_lt (Nat.lt_trans (Nat.lt_trans (Nat.lt_trans z12 zq) za) zg)) (Nat.ne_of_lt (Nat.lt_trans (Nat.lt_trans (Nat.lt_trans (Nat.lt_trans z12 zq) za) zg) zr)) (Nat.ne_of_lt z9p) (Nat.ne_of_lt (Nat.lt_trans zq za)) (Nat.ne_of_lt (Nat.lt_trans (Nat.lt_trans zq za) zg)) (Nat.ne_of_lt (Nat.lt_trans (Nat.lt_trans (Nat.lt_trans zq za) zg) zr)) (Nat.ne_of_lt z9q) (Nat.ne_of_lt za) (Nat.ne_of_lt (Nat.lt_trans za zg)) (Nat.ne_of_lt (Nat.lt_trans (Nat.lt_trans za zg) zr)) (Nat.ne_of_lt z9r) (Nat.ne_of_lt z12) (Nat.ne_of_lt (Nat.lt_trans z12 zq)) (Nat.ne_of_lt zq) z7s z7t z47 z23 z44 z45 z46) hZ (own_W hw 40 rfl) (own_W hw 6 rfl) (by decide) (by decide)) z1b0 z1b1 (g := (mkF m 155 #[.val (.int p1), .val (.int p2), .val (.int p3), .val (.int p4), .val (.int p5), .val (.int p6), .val (.int (p1 % 3)), .val (.int (p2 % 3)), .val (.int (p3 % 3)), .val (.int 0), .val (.int 2), .val (.int 1), .val (.ref z4), .unset, .unset, .unset] [.null, (.int 1), (.int p5), (.double (Jvm.FP.l2d ((p2 % 3).toInt64))), (.ref z4)])) rfl (by rw [hml]; rfl) (Steps.refl _) (argsL := [(.double (Jvm.FP.l2d ((p2 % 3).toInt64))), (.int p5), (.int 1), .null]) (rest := []) (lenOf own_pd7 rfl) rfl (by show 2 * 0 + _ ≤ _; exact Nat.le_of_eq rfl) (hb hby at_155) (fun _ _ => ⟨rfl, rfl, (by decide : 8 + 0 ≤ _), (by decide : 121 + 0 ≤ _)⟩)
        dsimp only [Pt.U, Pt.locs, Pt.cells, Pt.slots] at z49 l892 y892 z892 znq znp
        replace z49 := own_sub z49 l892 y892 z892
        obtain ⟨rfl, z1b2, zdo, znr, z1b3, z1b4, z1b5, z1b6, z1b7, z1b8, z1b9, z1ba, z1bb, z1bc, z1bd, z1be, z1bf, z1bg, z1bh, z1bi⟩ := znp
        have z1bj := Fr.app z1ay z1b2
        have zns := znn.keep zdo (allS z7s (allS z7t (allS z47 (allS z23 (allS z46 (allS z45 (allS z44 all0)))))))
        have z1bk := z1az.trans zdo (allS (Or.inr zdj) (allS (Or.inr zdk) (allS (Or.inr z9y) (allS (Or.inr z7n) (allS (Or.inr z9x) (allS (Or.inr z9w) (allS (Or.inr z9v) all0)))))))
        have znt := (zno.keep zdo (ninS (Ne.symm (Nat.ne_of_lt (Nat.lt_trans (Nat.lt_trans zg zr) z13))) (ninS (Ne.symm (Nat.ne_of_lt (Nat.lt_trans zr z13))) (ninS (Ne.symm (Nat.ne_of_lt z13)) (ninS (Ne.symm (Nat.ne_of_lt z9u)) (ninS (Ne.symm (Nat.ne_of_lt (Nat.lt_trans (Nat.lt_trans (Nat.lt_trans za zg) zr) z13))) (ninS (Ne.symm (Nat.ne_of_lt (Nat.lt_trans (Nat.lt_trans (Nat.lt_trans (Nat.lt_trans zq za) zg) zr) z13))) (ninS (Ne.symm (Nat.ne_of_lt (Nat.lt_trans (Nat.lt_trans (Nat.lt_trans (Nat.lt_trans (Nat.lt_trans z12 zq) za) zg) zr) z13))) nin0))))))))
        obtain ⟨cq894, kq894, z1bl, z1mw, z1bm⟩ := isOf hZ rfl znr
        obtain ⟨_, _, ⟨zaz, L894, z1mx, n894⟩, -, z9z, ⟨Lc894, znu, l894, y894, z894⟩, znv⟩ := z49.virtualBack hx (y := own_m0) (z := own_m0) hown (mvT hZ (own_W hw 36 rfl)) (mvT hZ (own_W hw 37 rfl)) (notFace_of_selects (args := #[]) (mvT hZ (own_W hw 39 rfl))) (mvT hZ (own_W hw 39 rfl)) (mvT hZ (own_W hw 38 rfl)) (by decide) (backOf (W := 0) (rmA2n l Z a0 hw [] zdn.heap n0 A K (p1 % 3) (p2 % 3) (0 : Int32) (0 : Int64) ((0 : Int64) + (1 : Int64)) (0 : Int64) (0 : Int32) (1 : Int32) (0 : Int32) p4 p5 (0 : Int32) (0 : Int32) (1 : Int32) (0 : Int32) (((0 : Int64) + (1 : Int64)) + (1 : Int64)) (p3 % 3) p6 (2 : Int32) z4 z62 z63 z2r z2s z64 z65 z66 z7o z7p z50 z6j zax z7q z7r EN zns z1ba z1b5 z1be z1b9 znt z1b6 z1bf z1b7 z1bg z1b8 z1bh znr z1b3 z1bc z1bb z1b4 z1bd z1bi z4u (Nat.ne_of_lt z9s) (Nat.ne_of_lt zg) (Nat.ne_of_lt zdi) (Nat.ne_of_lt (Nat.lt_trans zg zr)) (Nat.ne_of_lt zr) (Nat.ne_of_lt z9t) (Nat.ne_of_lt (Nat.lt_trans (Nat.lt_trans z12 zq) za)) (Nat.ne_of_lt (Nat.lt_trans (Nat.lt_trans (Nat.lt_trans z12 zq) za) zg)) (Nat.ne_of_lt (Nat.lt_trans (Nat.lt_trans (Nat.lt_trans (Nat.lt_trans z12 zq) za) zg) zr)) (Nat.ne_of_lt z9p) (Nat.ne_of_lt (Nat.lt_trans zq za)) (Nat.ne_of_lt (Nat.lt_trans (Nat.lt_trans zq za) zg)) (Nat.ne_of_lt (Nat.lt_trans (Nat.lt_trans (Nat.lt_trans zq za) zg) zr)) (Nat.ne_of_lt z9q) (Nat.ne_of_lt za) (Nat.ne_of_lt (Nat.lt_trans za zg)) (Nat.ne_of_lt (Nat.lt_trans (Nat.lt_trans za zg) zr)) (Nat.ne_of_lt z9r) (Nat.ne_of_lt z12) (Nat.ne_of_lt (Nat.lt_trans z12 zq)) (Nat.ne_of_lt zq) z7s z7t z47 z23 z44 z45 z46) hZ (own_W hw 40 rfl) (own_W hw 6 rfl) (by decide) (by decide)) z1bl z1bm (g := (mkF m 167 #[.val (.int p1), .val (.int p2), .val (.int p3), .val (.int p4), .val (.int p5), .val (.int p6), .val (.int (p1 % 3)), .val (.int (p2 % 3)), .val (.int (p3 % 3)), .val (.int 0), .val (.int 2), .val (.int 1), .val (.ref z4), .unset, .unset, .unset] [.null, (.int 2), (.int p6), (.double (Jvm.FP.l2d ((p3 % 3).toInt64))), (.ref z4)])) rfl (by rw [hml]; rfl) (Steps.refl _) (argsL := [(.double (Jvm.FP.l2d ((p3 % 3).toInt64))), (.int p6), (.int 2), .null]) (rest := []) (lenOf own_pd7 rfl) rfl (by show 2 * 0 + _ ≤ _; exact Nat.le_of_eq rfl) (hb hby at_167) (fun _ _ => ⟨rfl, rfl, (by decide : 8 + 0 ≤ _), (by decide : 121 + 0 ≤ _)⟩)
        dsimp only [Pt.U, Pt.locs, Pt.cells, Pt.slots] at z9z l894 y894 z894 znv znu
        replace z9z := own_sub z9z l894 y894 z894
        obtain ⟨rfl, z1bn, zdp, zdq, z1bo, z1bp, znw, znx, z1bq, z1br, z1bs, z1bt, z1bu, z1bv, z1bw, zny, znz, z1my, z1bx, z1by⟩ := znu
        have z1bz := Fr.app z1bj z1bn
        have zdr := zns.keep zdp (allS z7s (allS z7t (allS z47 (allS z23 (allS z46 (allS z45 (allS z44 all0)))))))
        have z1c0 := z1bk.trans zdp (allS (Or.inr zdj) (allS (Or.inr zdk) (allS (Or.inr z9y) (allS (Or.inr z7n) (allS (Or.inr z9x) (allS (Or.inr z9w) (allS (Or.inr z9v) all0)))))))
        obtain ⟨cq895, kq895, z1c1, z1mz, z1c2⟩ := isOf hZ rfl zdq
        obtain ⟨_, _, ⟨z1c3, L895, z1n0, n895⟩, -, z7u, ⟨Lc895, zo0, l895, y895, z895⟩, zo1⟩ := z9z.virtualBack hx (y := own_m1) (z := own_m1) hown (mvT hZ (own_W hw 49 rfl)) (mvT hZ (own_W hw 50 rfl)) (notFace_of_selects (args := #[]) (mvT hZ (own_W hw 52 rfl))) (mvT hZ (own_W hw 52 rfl)) (mvT hZ (own_W hw 51 rfl)) (by decide) (backOf (W := 0) (rmF0 l Z a0 hw [] zaz.heap n0 A K (0 : Int32) (1 : Int32) (2 : Int32) p4 p5 p6 z4 z2r z2s z50 z6j EN zdr znx znw zny znz) hZ (own_W hw 53 rfl) (own_W hw 6 rfl) (by decide) (by decide)) z1c1 z1c2 (g := (mkF m 172 #[.val (.int p1), .val (.int p2), .val (.int p3), .val (.int p4), .val (.int p5), .val (.int p6), .val (.int (p1 % 3)), .val (.int (p2 % 3)), .val (.int (p3 % 3)), .val (.int 0), .val (.int 2), .val (.int 1), .val (.ref z4), .unset, .unset, .unset] [(.ref z4)])) rfl (by rw [hml]; rfl) (Steps.refl _) (argsL := []) (rest := []) (lenOf own_pd8 rfl) rfl (by show 2 * 0 + _ ≤ _; exact Nat.le_of_eq rfl) (hb hby at_172) (fun _ _ => ⟨rfl, rfl, (by decide : 8 + 0 ≤ _), (by decide : 121 + 0 ≤ _)⟩)
        dsimp only [Pt.U, Pt.locs, Pt.cells, Pt.slots] at z7u l895 y895 z895 zo1 zo0
        replace z7u := own_sub z7u l895 y895 z895
        obtain ⟨rfl, z1c4, zo2⟩ := zo0
        have z1c5 := Fr.app z1bz z1c4
        have z1c6 := (znt.keep zdp (ninS (Ne.symm (Nat.ne_of_lt (Nat.lt_trans (Nat.lt_trans zg zr) z13))) (ninS (Ne.symm (Nat.ne_of_lt (Nat.lt_trans zr z13))) (ninS (Ne.symm (Nat.ne_of_lt z13)) (ninS (Ne.symm (Nat.ne_of_lt z9u)) (ninS (Ne.symm (Nat.ne_of_lt (Nat.lt_trans (Nat.lt_trans (Nat.lt_trans za zg) zr) z13))) (ninS (Ne.symm (Nat.ne_of_lt (Nat.lt_trans (Nat.lt_trans (Nat.lt_trans (Nat.lt_trans zq za) zg) zr) z13))) (ninS (Ne.symm (Nat.ne_of_lt (Nat.lt_trans (Nat.lt_trans (Nat.lt_trans (Nat.lt_trans (Nat.lt_trans z12 zq) za) zg) zr) z13))) nin0))))))))
        have z1c7 : own_AM Z zaz.heap z66 z7r .int := ⟨_, _, z1c6⟩
        obtain ⟨cq898, kq898, z1c8, z1n1, z1c9⟩ := isOf hZ zo2 zdq
        obtain ⟨_, _, ⟨zds, L898, z1n2, n898⟩, -, za0, ⟨Lc898, zo3, l898, y898, z898⟩, zo4⟩ := z7u.virtualBack hx (y := own_m3) (z := own_m3) hown (mvT hZ (own_W hw 54 rfl)) (mvT hZ (own_W hw 55 rfl)) (notFace_of_selects (args := #[]) (mvT hZ (own_W hw 57 rfl))) (mvT hZ (own_W hw 57 rfl)) (mvT hZ (own_W hw 56 rfl)) (by decide) (backOf (W := 0) (rmR3n l Z a0 hw [] zaz.heap n0 A K (p1 % 3) (p2 % 3) (p3 % 3) (0 : Int64) ((0 : Int64) + (1 : Int64)) (((0 : Int64) + (1 : Int64)) + (1 : Int64)) (0 : Int32) (1 : Int32) (2 : Int32) (0 : Int32) (0 : Int32) (0 : Int32) (0 : Int32) (0 : Int32) (0 : Int32) ((((0 : Int64) + (1 : Int64)) + (1 : Int64)) + (1 : Int64)) z4 z62 z63 z2r z2s z64 z65 z66 z7o z7p z50 z7q z7r EN zdr znw zny z1br z1bx z1bs z1bt z1c7 zdq z1bo z1bv z1bp z1bw znx z1bq z1bu z1by (by decide) (by decide) (own_ib_n1 z7m) (Nat.ne_of_lt z9t) (Nat.ne_of_lt (Nat.lt_trans (Nat.lt_trans za zg) zr)) (Nat.ne_of_lt z13) (Nat.ne_of_lt z9u) (Nat.ne_of_lt (Nat.lt_trans (Nat.lt_trans (Nat.lt_trans (Nat.lt_trans z12 zq) za) zg) zr)) (Nat.ne_of_lt (Nat.lt_trans (Nat.lt_trans (Nat.lt_trans (Nat.lt_trans (Nat.lt_trans z12 zq) za) zg) zr) z13)) (Nat.ne_of_lt z9p) (Nat.ne_of_lt (Nat.lt_trans (Nat.lt_trans (Nat.lt_trans zq za) zg) zr)) (Nat.ne_of_lt (Nat.lt_trans (Nat.lt_trans (Nat.lt_trans (Nat.lt_trans zq za) zg) zr) z13)) (Nat.ne_of_lt z9q) (Nat.ne_of_lt (Nat.lt_trans (Nat.lt_trans (Nat.lt_trans za zg) zr) z13)) (Nat.ne_of_lt z9r) (Nat.ne_of_lt z12) (Nat.ne_of_lt (Nat.lt_trans z12 zq)) (Nat.ne_of_lt zq) z47 zay z23 z44 z45 z46) hZ (own_W hw 58 rfl) (own_W hw 6 rfl) (by decide) (by decide)) z1c8 z1c9 (g := (mkF m 179 #[.val (.int p1), .val (.int p2), .val (.int p3), .val (.int p4), .val (.int p5), .val (.int p6), .val (.int (p1 % 3)), .val (.int (p2 % 3)), .val (.int (p3 % 3)), .val (.int 0), .val (.int 2), .val (.int 1), .val (.ref z4), .val (.int p4), .unset, .unset] [(.ref z4)])) rfl (by rw [hml]; rfl) (Steps.refl _) (argsL := []) (rest := []) (lenOf own_pd6 rfl) rfl (by show 2 * 0 + _ ≤ _; exact Nat.le_of_eq rfl) (hb hby at_179) (fun _ _ => ⟨rfl, zo2, (by decide : 8 + 0 ≤ _), (by decide : 121 + 0 ≤ _)⟩)
        dsimp only [Pt.U, Pt.locs, Pt.cells, Pt.slots] at za0 l898 y898 z898 zo4 zo3
        replace za0 := own_sub za0 l898 y898 z898
        obtain ⟨rfl, z1ca, zdt, zdu, z1cb, z1cc, zo5, zo6, z1cd, z1ce, z1cf, z1cg, z1ch, z1ci, z1cj, zo7, z1ck, z1cl, z1cm⟩ := zo3
        have z1cn := Fr.app z1c5 z1ca
        have zdv := zdr.keep zdt (allS z47 (allS zay (allS z23 (allS z46 (allS z45 (allS z44 all0))))))
        have z1co := z1c0.trans zdt (allS (Or.inr z9y) (allS (Or.inr zni) (allS (Or.inr z7n) (allS (Or.inr z9x) (allS (Or.inr z9w) (allS (Or.inr z9v) all0))))))
        have zo8 := (znz.keep zdt (ninS (Nat.ne_of_lt (Nat.lt_trans zg zr)) (ninS (Nat.ne_of_lt (Nat.lt_trans (Nat.lt_trans zg zr) z13)) (ninS (Ne.symm (Nat.ne_of_lt z9s)) (ninS (Ne.symm (Nat.ne_of_lt za)) (ninS (Ne.symm (Nat.ne_of_lt (Nat.lt_trans zq za))) (ninS (Ne.symm (Nat.ne_of_lt (Nat.lt_trans (Nat.lt_trans z12 zq) za))) nin0)))))))
        obtain ⟨cq900, kq900, z1cp, z1n3, z1cq⟩ := isOf hZ rfl zdu
        obtain ⟨_, _, ⟨z1cr, L900, z1n4, n900⟩, -, z7v, ⟨Lc900, zo9, l900, y900, z900⟩, zoa⟩ := za0.virtualBack hx (y := own_m1) (z := own_m1) hown (mvT hZ (own_W hw 49 rfl)) (mvT hZ (own_W hw 50 rfl)) (notFace_of_selects (args := #[]) (mvT hZ (own_W hw 52 rfl))) (mvT hZ (own_W hw 52 rfl)) (mvT hZ (own_W hw 51 rfl)) (by decide) (backOf (W := 0) (rmF2 l Z a0 hw [] zds.heap n0 A K (0 : Int32) (1 : Int32) (2 : Int32) p4 p5 p6 z4 z2r z2s z50 z6j EN zdv zo6 zo5 zo7 zo8) hZ (own_W hw 53 rfl) (own_W hw 6 rfl) (by decide) (by decide)) z1cp z1cq (g := (mkF m 184 #[.val (.int p1), .val (.int p2), .val (.int p3), .val (.int p4), .val (.int p5), .val (.int p6), .val (.int (p1 % 3)), .val (.int (p2 % 3)), .val (.int (p3 % 3)), .val (.int 0), .val (.int 2), .val (.int 1), .val (.ref z4), .val (.int p4), .unset, .unset] [(.ref z4)])) rfl (by rw [hml]; rfl) (Steps.refl _) (argsL := []) (rest := []) (lenOf own_pd8 rfl) rfl (by show 2 * 0 + _ ≤ _; exact Nat.le_of_eq rfl) (hb hby at_184) (fun _ _ => ⟨rfl, rfl, (by decide : 8 + 0 ≤ _), (by decide : 121 + 0 ≤ _)⟩)
        dsimp only [Pt.U, Pt.locs, Pt.cells, Pt.slots] at z7v l900 y900 z900 zoa zo9
        replace z7v := own_sub z7v l900 y900 z900
        obtain ⟨rfl, z1cs, zob⟩ := zo9
        have z1ct := Fr.app z1cn z1cs
        obtain ⟨cq901, kq901, z1cu, z1n5, z1cv⟩ := isOf hZ zob zdu
        obtain ⟨_, _, ⟨za1, L901, z1n6, n901⟩, -, za2, ⟨Lc901, zoc, l901, y901, z901⟩, zod⟩ := z7v.virtualBack hx (y := own_m3) (z := own_m3) hown (mvT hZ (own_W hw 54 rfl)) (mvT hZ (own_W hw 55 rfl)) (notFace_of_selects (args := #[]) (mvT hZ (own_W hw 57 rfl))) (mvT hZ (own_W hw 57 rfl)) (mvT hZ (own_W hw 56 rfl)) (by decide) (backOf (W := 0) (rmR2 l Z a0 hw [] zds.heap n0 A K (p3 % 3) (p2 % 3) (p3 % 3) (((0 : Int64) + (1 : Int64)) + (1 : Int64)) ((0 : Int64) + (1 : Int64)) (((0 : Int64) + (1 : Int64)) + (1 : Int64)) (2 : Int32) (1 : Int32) (2 : Int32) (0 : Int32) (0 : Int32) (0 : Int32) (0 : Int32) (0 : Int32) (0 : Int32) ((((0 : Int64) + (1 : Int64)) + (1 : Int64)) + (1 : Int64)) z4 z62 z63 z2r z2s z64 z65 z66 z7o z7p z50 z7q z7r EN zdv zo5 zo7 z1ce z1ck z1cf z1cg z1cm zdu z1cb z1ci z1cc z1cj zo6 z1cd z1ch z1cl (by decide) (by decide) (Nat.ne_of_lt z9t) (Nat.ne_of_lt (Nat.lt_trans (Nat.lt_trans za zg) zr)) (Nat.ne_of_lt z13) (Nat.ne_of_lt z9u) (Nat.ne_of_lt (Nat.lt_trans (Nat.lt_trans (Nat.lt_trans (Nat.lt_trans z12 zq) za) zg) zr)) (Nat.ne_of_lt (Nat.lt_trans (Nat.lt_trans (Nat.lt_trans (Nat.lt_trans (Nat.lt_trans z12 zq) za) zg) zr) z13)) (Nat.ne_of_lt z9p) (Nat.ne_of_lt (Nat.lt_trans (Nat.lt_trans (Nat.lt_trans zq za) zg) zr)) (Nat.ne_of_lt (Nat.lt_trans (Nat.lt_trans (Nat.lt_trans (Nat.lt_trans zq za) zg) zr) z13)) (Nat.ne_of_lt z9q) (Nat.ne_of_lt (Nat.lt_trans (Nat.lt_trans (Nat.lt_trans za zg) zr) z13)) (Nat.ne_of_lt z9r) (Nat.ne_of_lt z12) (Nat.ne_of_lt (Nat.lt_trans z12 zq)) (Nat.ne_of_lt zq) z47 zay z23 z44 z45 z46) hZ (own_W hw 58 rfl) (own_W hw 6 rfl) (by decide) (by decide)) z1cu z1cv (g := (mkF m 191 #[.val (.int p1), .val (.int p2), .val (.int p3), .val (.int p4), .val (.int p5), .val (.int p6), .val (.int (p1 % 3)), .val (.int (p2 % 3)), .val (.int (p3 % 3)), .val (.int 0), .val (.int 2), .val (.int 1), .val (.ref z4), .val (.int p4), .val (.int p6), .unset] [(.ref z4)])) rfl (by rw [hml]; rfl) (Steps.refl _) (argsL := []) (rest := []) (lenOf own_pd6 rfl) rfl (by show 2 * 0 + _ ≤ _; exact Nat.le_of_eq rfl) (hb hby at_191) (fun _ _ => ⟨rfl, zob, (by decide : 8 + 0 ≤ _), (by decide : 121 + 0 ≤ _)⟩)
        dsimp only [Pt.U, Pt.locs, Pt.cells, Pt.slots] at za2 l901 y901 z901 zod zoc
        replace za2 := own_sub za2 l901 y901 z901
        obtain ⟨rfl, z1cw, zdw, z1cx, z1n7, z1n8, z1cy, z1cz, z1n9, z1na, z1nb, z1nc, z1nd, z1ne, z1nf, z1d0, z1ng, z1nh, z1ni⟩ := zoc
        have z1d1 := Fr.app z1ct z1cw
        have zb0 := zdv.keep zdw (allS z47 (allS zay (allS z23 (allS z46 (allS z45 (allS z44 all0))))))
        have z1nj := z1co.trans zdw (allS (Or.inr z9y) (allS (Or.inr zni) (allS (Or.inr z7n) (allS (Or.inr z9x) (allS (Or.inr z9w) (allS (Or.inr z9v) all0))))))
        have z1d2 := (zo8.keep zdw (ninS (Nat.ne_of_lt (Nat.lt_trans zg zr)) (ninS (Nat.ne_of_lt (Nat.lt_trans (Nat.lt_trans zg zr) z13)) (ninS (Ne.symm (Nat.ne_of_lt z9s)) (ninS (Ne.symm (Nat.ne_of_lt za)) (ninS (Ne.symm (Nat.ne_of_lt (Nat.lt_trans zq za))) (ninS (Ne.symm (Nat.ne_of_lt (Nat.lt_trans (Nat.lt_trans z12 zq) za))) nin0)))))))
        obtain ⟨cq903, kq903, z1d3, z1nk, z1d4⟩ := isOf hZ rfl z1cx
        obtain ⟨_, _, ⟨z1d5, L903, z1nl, n903⟩, -, z1p, ⟨Lc903, zoe, l903, y903, z903⟩, zof⟩ := za2.virtualBack hx (y := own_m1) (z := own_m1) hown (mvT hZ (own_W hw 49 rfl)) (mvT hZ (own_W hw 50 rfl)) (notFace_of_selects (args := #[]) (mvT hZ (own_W hw 52 rfl))) (mvT hZ (own_W hw 52 rfl)) (mvT hZ (own_W hw 51 rfl)) (by decide) (backOf (W := 0) (rmF1 l Z a0 hw [] za1.heap n0 A K (0 : Int32) (1 : Int32) (2 : Int32) p4 p5 p6 z4 z2r z2s z50 z6j EN zb0 z1cz z1cy z1d0 z1d2) hZ (own_W hw 53 rfl) (own_W hw 6 rfl) (by decide) (by decide)) z1d3 z1d4 (g := (mkF m 196 #[.val (.int p1), .val (.int p2), .val (.int p3), .val (.int p4), .val (.int p5), .val (.int p6), .val (.int (p1 % 3)), .val (.int (p2 % 3)), .val (.int (p3 % 3)), .val (.int 0), .val (.int 2), .val (.int 1), .val (.ref z4), .val (.int p4), .val (.int p6), .unset] [(.ref z4)])) rfl (by rw [hml]; rfl) (Steps.refl _) (argsL := []) (rest := []) (lenOf own_pd8 rfl) rfl (by show 2 * 0 + _ ≤ _; exact Nat.le_of_eq rfl) (hb hby at_196) (fun _ _ => ⟨rfl, rfl, (by decide : 8 + 0 ≤ _), (by decide : 121 + 0 ≤ _)⟩)
        dsimp only [Pt.U, Pt.locs, Pt.cells, Pt.slots] at z1p l903 y903 z903 zof zoe
        replace z1p := own_sub z1p l903 y903 z903
        obtain ⟨rfl, z1d6, z1d7⟩ := zoe
        have z1d8 := Fr.app z1d1 z1d6
        obtain ⟨_, _, ⟨zog, L904, z1nm, n904⟩, -, z1q, ⟨Lc904, zoh, l904, y904, z904⟩, zoi⟩ := Jvm.LawKit.callS z1p hx (y := own_m5) hown (mvT hZ (own_W hw 70 rfl)) (mvT hZ (own_W hw 71 rfl)) (mvT hZ (own_W hw 2 rfl)) (mvT hZ (own_W hw 72 rfl)) (by decide) (backOf (W := 1) (rmK0 l Z a0 hw [] za1.heap n0 A K (0 : Int32) (0 : Int32) (2 : Int32) (1 : Int32) p4 p5 p6 EN zb0 (by decide)) hZ (own_W hw 72 rfl) (own_W hw 2 rfl) (by decide) (by decide)) (g := (mkF m 215 #[.val (.int p1), .val (.int p2), .val (.int p3), .val (.int p4), .val (.int p5), .val (.int p6), .val (.int (p1 % 3)), .val (.int (p2 % 3)), .val (.int (p3 % 3)), .val (.int 0), .val (.int 2), .val (.int 1), .val (.ref z4), .val (.int p4), .val (.int p6), .val (.int p5)] [(.int p6), (.int p5), (.int p4), (.int 1), (.int 2), (.int 0), (.int 0), (.int p4)])) rfl (by rw [hml]; rfl) (argsL := [(.int 0), (.int 0), (.int 2), (.int 1), (.int p4), (.int p5), (.int p6)]) (rest := [(.int p4)]) (lenOf own_pd9 rfl) rfl (by show 2 * 0 + _ ≤ _; exact Nat.le_of_eq rfl) (hb hby at_215) (fun _ _ => ⟨rfl, z1d7, (by decide : 8 + 0 ≤ _), (by decide : 121 + 0 ≤ _)⟩)
        dsimp only [Pt.U, Pt.locs, Pt.cells, Pt.slots] at z1q l904 y904 z904 zoi zoh
        replace z1q := own_sub z1q l904 y904 z904
        obtain ⟨rfl, z1d9, z1da⟩ := zoh
        have z1db := Fr.app z1d8 z1d9
        obtain ⟨_, _, ⟨zoj, L905, z1nn, n905⟩, -, z1r, ⟨Lc905, zok, l905, y905, z905⟩, zol⟩ := Jvm.LawKit.callS z1q hx (y := own_m5) hown (mvT hZ (own_W hw 70 rfl)) (mvT hZ (own_W hw 71 rfl)) (mvT hZ (own_W hw 2 rfl)) (mvT hZ (own_W hw 72 rfl)) (by decide) (backOf (W := 1) (rmK2 l Z a0 hw [] za1.heap n0 A K (1 : Int32) (0 : Int32) (2 : Int32) (1 : Int32) p4 p5 p6 EN zb0 (by decide) (by decide)) hZ (own_W hw 72 rfl) (own_W hw 2 rfl) (by decide) (by decide)) (g := (mkF m 235 #[.val (.int p1), .val (.int p2), .val (.int p3), .val (.int p4), .val (.int p5), .val (.int p6), .val (.int (p1 % 3)), .val (.int (p2 % 3)), .val (.int (p3 % 3)), .val (.int 0), .val (.int 2), .val (.int 1), .val (.ref z4), .val (.int p4), .val (.int p6), .val (.int p5)] [(.int p6), (.int p5), (.int p4), (.int 1), (.int 2), (.int 0), (.int 1), (.int p6)])) rfl (by rw [hml]; rfl) (argsL := [(.int 1), (.int 0), (.int 2), (.int 1), (.int p4), (.int p5), (.int p6)]) (rest := [(.int p6)]) (lenOf own_pd9 rfl) rfl (by show 2 * 0 + _ ≤ _; exact Nat.le_of_eq rfl) (hb hby at_235) (fun _ _ => ⟨rfl, z1da, (by decide : 8 + 0 ≤ _), (by decide : 121 + 0 ≤ _)⟩)
        dsimp only [Pt.U, Pt.locs, Pt.cells, Pt.slots] at z1r l905 y905 z905 zol zok
        replace z1r := own_sub z1r l905 y905 z905
        obtain ⟨rfl, z1dc, z1dd⟩ := zok
        have z1de := Fr.app z1db z1dc
        obtain ⟨_, _, ⟨zdx, L906, z1no, n906⟩, -, z67, ⟨Lc906, zom, l906, y906, z906⟩, zon⟩ := Jvm.LawKit.callS z1r hx (y := own_m5) hown (mvT hZ (own_W hw 70 rfl)) (mvT hZ (own_W hw 71 rfl)) (mvT hZ (own_W hw 2 rfl)) (mvT hZ (own_W hw 72 rfl)) (by decide) (backOf (W := 1) (rmK1 l Z a0 hw [] za1.heap n0 A K (2 : Int32) (0 : Int32) (2 : Int32) (1 : Int32) p4 p5 p6 EN zb0 (by decide) (by decide)) hZ (own_W hw 72 rfl) (own_W hw 2 rfl) (by decide) (by decide)) (g := (mkF m 255 #[.val (.int p1), .val (.int p2), .val (.int p3), .val (.int p4), .val (.int p5), .val (.int p6), .val (.int (p1 % 3)), .val (.int (p2 % 3)), .val (.int (p3 % 3)), .val (.int 0), .val (.int 2), .val (.int 1), .val (.ref z4), .val (.int p4), .val (.int p6), .val (.int p5)] [(.int p6), (.int p5), (.int p4), (.int 1), (.int 2), (.int 0), (.int 2), (.int p5)])) rfl (by rw [hml]; rfl) (argsL := [(.int 2), (.int 0), (.int 2), (.int 1), (.int p4), (.int p5), (.int p6)]) (rest := [(.int p5)]) (lenOf own_pd9 rfl) rfl (by show 2 * 0 + _ ≤ _; exact Nat.le_of_eq rfl) (hb hby at_255) (fun _ _ => ⟨rfl, z1dd, (by decide : 8 + 0 ≤ _), (by decide : 121 + 0 ≤ _)⟩)
        dsimp only [Pt.U, Pt.locs, Pt.cells, Pt.slots] at z67 l906 y906 z906 zon zom
        replace z67 := own_sub z67 l906 y906 z906
        obtain ⟨rfl, z1df, z1np⟩ := zom
        have z1dg := Fr.app z1de z1df
        obtain ⟨fs, hr, hrun, hended, hW, hsame⟩ := z67.leave (v := some (.int 1)) (fun h => by rw [Bd.returns] at h; cases h)
        refine ⟨_, _, pre0 _ ?_, hrun, hended, _, _, rfl, ?_, ⟨_, rfl⟩, hW, hsame.mono (by decide) (by decide)⟩
        · show Steps p.tables e below (s₁.setTop (mkF m 0 #[.val (.int p1), .val (.int p2), .val (.int p3), .val (.int p4), .val (.int p5), .val (.int p6), .unset, .unset, .unset, .unset, .unset, .unset, .unset, .unset, .unset, .unset] [])) _
          refine XS.iloadN X0.here hx rfl (hb hby at_0) rfl ?_
          refine XS.iconst X0.here hx rfl (hb hby at_1) ?_
          refine iremM X0 hx rfl (hb hby at_2) rfl (by decide) ?_
          show Steps p.tables e below (s₁.setTop (mkF m 3 #[.val (.int p1), .val (.int p2), .val (.int p3), .val (.int p4), .val (.int p5), .val (.int p6), .unset, .unset, .unset, .unset, .unset, .unset, .unset, .unset, .unset, .unset] [(.int (p1 % 3))])) _
          refine XS.istore X0.here hx rfl (hb hby at_3) rfl (l' := #[.val (.int p1), .val (.int p2), .val (.int p3), .val (.int p4), .val (.int p5), .val (.int p6), .val (.int (p1 % 3)), .unset, .unset, .unset, .unset, .unset, .unset, .unset, .unset, .unset]) rfl ?_
          refine XS.iloadN X0.here hx rfl (hb hby at_5) rfl ?_
          refine XS.iconst X0.here hx rfl (hb hby at_6) ?_
          refine iremM X0 hx rfl (hb hby at_7) rfl (by decide) ?_
          show Steps p.tables e below (s₁.setTop (mkF m 8 #[.val (.int p1), .val (.int p2), .val (.int p3), .val (.int p4), .val (.int p5), .val (.int p6), .val (.int (p1 % 3)), .unset, .unset, .unset, .unset, .unset, .unset, .unset, .unset, .unset] [(.int (p2 % 3))])) _
          refine XS.istore X0.here hx rfl (hb hby at_8) rfl (l' := #[.val (.int p1), .val (.int p2), .val (.int p3), .val (.int p4), .val (.int p5), .val (.int p6), .val (.int (p1 % 3)), .val (.int (p2 % 3)), .unset, .unset, .unset, .unset, .unset, .unset, .unset, .unset]) rfl ?_
          refine XS.iloadN X0.here hx rfl (hb hby at_10) rfl ?_
          refine XS.iconst X0.here hx rfl (hb hby at_11) ?_
          refine iremM X0 hx rfl (hb hby at_12) rfl (by decide) ?_
          show Steps p.tables e below (s₁.setTop (mkF m 13 #[.val (.int p1), .val (.int p2), .val (.int p3), .val (.int p4), .val (.int p5), .val (.int p6), .val (.int (p1 % 3)), .val (.int (p2 % 3)), .unset, .unset, .unset, .unset, .unset, .unset, .unset, .unset] [(.int (p3 % 3))])) _
          refine XS.istore X0.here hx rfl (hb hby at_13) rfl (l' := #[.val (.int p1), .val (.int p2), .val (.int p3), .val (.int p4), .val (.int p5), .val (.int p6), .val (.int (p1 % 3)), .val (.int (p2 % 3)), .val (.int (p3 % 3)), .unset, .unset, .unset, .unset, .unset, .unset, .unset]) rfl ?_
          refine XS.iload X0.here hx rfl (hb hby at_15) rfl ?_
          refine XS.iconst X0.here hx rfl (hb hby at_17) ?_
          refine XS.iload X0.here hx rfl (hb hby at_18) rfl ?_
          refine XS.iconst X0.here hx rfl (hb hby at_20) ?_
          refine zmp _ ?_
          show Steps p.tables e below (zmn.setTop (mkF m 24 #[.val (.int p1), .val (.int p2), .val (.int p3), .val (.int p4), .val (.int p5), .val (.int p6), .val (.int (p1 % 3)), .val (.int (p2 % 3)), .val (.int (p3 % 3)), .unset, .unset, .unset, .unset, .unset, .unset, .unset] [(.int (own_f_rmB (p2 % 3) (1 : Int32) (p1 % 3) (0 : Int32)))])) _
          refine XS.ifYes z41.here hx rfl (pc0 := 24) (pc' := 31) rfl (hb hby at_24) rfl ((if0 _ _).trans (teq (own_bf_n2 z16 (by decide))).1) (by decide) (by decide) ?_
          show Steps p.tables e below (zmn.setTop (mkF m 31 #[.val (.int p1), .val (.int p2), .val (.int p3), .val (.int p4), .val (.int p5), .val (.int p6), .val (.int (p1 % 3)), .val (.int (p2 % 3)), .val (.int (p3 % 3)), .unset, .unset, .unset, .unset, .unset, .unset, .unset] [])) _
          refine XS.iconst z41.here hx rfl (hb hby at_31) ?_
          refine XS.iload z41.here hx rfl (hb hby at_32) rfl ?_
          refine XS.iconst z41.here hx rfl (hb hby at_34) ?_
          refine XS.iload z41.here hx rfl (hb hby at_35) rfl ?_
          refine XS.iconst z41.here hx rfl (hb hby at_37) ?_
          refine zmr _ ?_
          show Steps p.tables e below (zde.setTop (mkF m 41 #[.val (.int p1), .val (.int p2), .val (.int p3), .val (.int p4), .val (.int p5), .val (.int p6), .val (.int (p1 % 3)), .val (.int (p2 % 3)), .val (.int (p3 % 3)), .unset, .unset, .unset, .unset, .unset, .unset, .unset] [(.int (own_f_rmB (p3 % 3) (2 : Int32) (p1 % 3) (0 : Int32))), (.int 0)])) _
          refine XS.ifYes z22.here hx rfl (pc0 := 41) (pc' := 48) rfl (hb hby at_41) rfl ((if0 _ _).trans (teq (own_bf_n2 z4u (by decide))).1) (by decide) (by decide) ?_
          show Steps p.tables e below (zde.setTop (mkF m 48 #[.val (.int p1), .val (.int p2), .val (.int p3), .val (.int p4), .val (.int p5), .val (.int p6), .val (.int (p1 % 3)), .val (.int (p2 % 3)), .val (.int (p3 % 3)), .unset, .unset, .unset, .unset, .unset, .unset, .unset] [(.int 0)])) _
          refine XS.iconst z22.here hx rfl (hb hby at_48) ?_
          refine XS.iadd z22.here hx rfl (hb hby at_49) rfl ?_
          show Steps p.tables e below (zde.setTop (mkF m 50 #[.val (.int p1), .val (.int p2), .val (.int p3), .val (.int p4), .val (.int p5), .val (.int p6), .val (.int (p1 % 3)), .val (.int (p2 % 3)), .val (.int (p3 % 3)), .unset, .unset, .unset, .unset, .unset, .unset, .unset] [(.int 0)])) _
          refine XS.istore z22.here hx rfl (hb hby at_50) rfl (l' := #[.val (.int p1), .val (.int p2), .val (.int p3), .val (.int p4), .val (.int p5), .val (.int p6), .val (.int (p1 % 3)), .val (.int (p2 % 3)), .val (.int (p3 % 3)), .val (.int 0), .unset, .unset, .unset, .unset, .unset, .unset]) rfl ?_
          refine XS.iload z22.here hx rfl (hb hby at_52) rfl ?_
          refine XS.iconst z22.here hx rfl (hb hby at_54) ?_
          refine XS.iload z22.here hx rfl (hb hby at_55) rfl ?_
          refine XS.iconst z22.here hx rfl (hb hby at_57) ?_
          refine zmu _ ?_
          show Steps p.tables e below (zms.setTop (mkF m 61 #[.val (.int p1), .val (.int p2), .val (.int p3), .val (.int p4), .val (.int p5), .val (.int p6), .val (.int (p1 % 3)), .val (.int (p2 % 3)), .val (.int (p3 % 3)), .val (.int 0), .unset, .unset, .unset, .unset, .unset, .unset] [(.int (own_f_rmB (p1 % 3) (0 : Int32) (p2 % 3) (1 : Int32)))])) _
          refine XS.ifNo z2o.here hx rfl (hb hby at_61) rfl ((if0 _ _).trans (feq (own_bf_y2 z16 (by decide))).1) ?_
          show Steps p.tables e below (zms.setTop (mkF m 64 #[.val (.int p1), .val (.int p2), .val (.int p3), .val (.int p4), .val (.int p5), .val (.int p6), .val (.int (p1 % 3)), .val (.int (p2 % 3)), .val (.int (p3 % 3)), .val (.int 0), .unset, .unset, .unset, .unset, .unset, .unset] [])) _
          refine XS.iconst z2o.here hx rfl (hb hby at_64) ?_
          refine XS.goto z2o.here hx rfl (pc0 := 65) (pc' := 69) rfl (hb hby at_65) (by decide) (by decide) ?_
          refine XS.iload z2o.here hx rfl (hb hby at_69) rfl ?_
          refine XS.iconst z2o.here hx rfl (hb hby at_71) ?_
          refine XS.iload z2o.here hx rfl (hb hby at_72) rfl ?_
          refine XS.iconst z2o.here hx rfl (hb hby at_74) ?_
          refine zmw _ ?_
          show Steps p.tables e below (zdf.setTop (mkF m 78 #[.val (.int p1), .val (.int p2), .val (.int p3), .val (.int p4), .val (.int p5), .val (.int p6), .val (.int (p1 % 3)), .val (.int (p2 % 3)), .val (.int (p3 % 3)), .val (.int 0), .unset, .unset, .unset, .unset, .unset, .unset] [(.int (own_f_rmB (p3 % 3) (2 : Int32) (p2 % 3) (1 : Int32))), (.int 1)])) _
          refine XS.ifNo z1o.here hx rfl (hb hby at_78) rfl ((if0 _ _).trans (feq (own_bf_y1 z7m)).1) ?_
          show Steps p.tables e below (zdf.setTop (mkF m 81 #[.val (.int p1), .val (.int p2), .val (.int p3), .val (.int p4), .val (.int p5), .val (.int p6), .val (.int (p1 % 3)), .val (.int (p2 % 3)), .val (.int (p3 % 3)), .val (.int 0), .unset, .unset, .unset, .unset, .unset, .unset] [(.int 1)])) _
          refine XS.iconst z1o.here hx rfl (hb hby at_81) ?_
          refine XS.goto z1o.here hx rfl (pc0 := 82) (pc' := 86) rfl (hb hby at_82) (by decide) (by decide) ?_
          refine XS.iadd z1o.here hx rfl (hb hby at_86) rfl ?_
          show Steps p.tables e below (zdf.setTop (mkF m 87 #[.val (.int p1), .val (.int p2), .val (.int p3), .val (.int p4), .val (.int p5), .val (.int p6), .val (.int (p1 % 3)), .val (.int (p2 % 3)), .val (.int (p3 % 3)), .val (.int 0), .unset, .unset, .unset, .unset, .unset, .unset] [(.int 2)])) _
          refine XS.istore z1o.here hx rfl (hb hby at_87) rfl (l' := #[.val (.int p1), .val (.int p2), .val (.int p3), .val (.int p4), .val (.int p5), .val (.int p6), .val (.int (p1 % 3)), .val (.int (p2 % 3)), .val (.int (p3 % 3)), .val (.int 0), .val (.int 2), .unset, .unset, .unset, .unset, .unset]) rfl ?_
          refine XS.iload z1o.here hx rfl (hb hby at_89) rfl ?_
          refine XS.iconst z1o.here hx rfl (hb hby at_91) ?_
          refine XS.iload z1o.here hx rfl (hb hby at_92) rfl ?_
          refine XS.iconst z1o.here hx rfl (hb hby at_94) ?_
          refine zmz _ ?_
          show Steps p.tables e below (zmx.setTop (mkF m 98 #[.val (.int p1), .val (.int p2), .val (.int p3), .val (.int p4), .val (.int p5), .val (.int p6), .val (.int (p1 % 3)), .val (.int (p2 % 3)), .val (.int (p3 % 3)), .val (.int 0), .val (.int 2), .unset, .unset, .unset, .unset, .unset] [(.int (own_f_rmB (p1 % 3) (0 : Int32) (p3 % 3) (2 : Int32)))])) _
          refine XS.ifNo z2p.here hx rfl (hb hby at_98) rfl ((if0 _ _).trans (feq (own_bf_y2 z4u (by decide))).1) ?_
          show Steps p.tables e below (zmx.setTop (mkF m 101 #[.val (.int p1), .val (.int p2), .val (.int p3), .val (.int p4), .val (.int p5), .val (.int p6), .val (.int (p1 % 3)), .val (.int (p2 % 3)), .val (.int (p3 % 3)), .val (.int 0), .val (.int 2), .unset, .unset, .unset, .unset, .unset] [])) _
          refine XS.iconst z2p.here hx rfl (hb hby at_101) ?_
          refine XS.goto z2p.here hx rfl (pc0 := 102) (pc' := 106) rfl (hb hby at_102) (by decide) (by decide) ?_
          refine XS.iload z2p.here hx rfl (hb hby at_106) rfl ?_
          refine XS.iconst z2p.here hx rfl (hb hby at_108) ?_
          refine XS.iload z2p.here hx rfl (hb hby at_109) rfl ?_
          refine XS.iconst z2p.here hx rfl (hb hby at_111) ?_
          refine zn1 _ ?_
          show Steps p.tables e below (zdg.setTop (mkF m 115 #[.val (.int p1), .val (.int p2), .val (.int p3), .val (.int p4), .val (.int p5), .val (.int p6), .val (.int (p1 % 3)), .val (.int (p2 % 3)), .val (.int (p3 % 3)), .val (.int 0), .val (.int 2), .unset, .unset, .unset, .unset, .unset] [(.int (own_f_rmB (p2 % 3) (1 : Int32) (p3 % 3) (2 : Int32))), (.int 1)])) _
          refine XS.ifYes z60.here hx rfl (pc0 := 115) (pc' := 122) rfl (hb hby at_115) rfl ((if0 _ _).trans (teq (own_bf_n1 z7m)).1) (by decide) (by decide) ?_
          show Steps p.tables e below (zdg.setTop (mkF m 122 #[.val (.int p1), .val (.int p2), .val (.int p3), .val (.int p4), .val (.int p5), .val (.int p6), .val (.int (p1 % 3)), .val (.int (p2 % 3)), .val (.int (p3 % 3)), .val (.int 0), .val (.int 2), .unset, .unset, .unset, .unset, .unset] [(.int 1)])) _
          refine XS.iconst z60.here hx rfl (hb hby at_122) ?_
          refine XS.iadd z60.here hx rfl (hb hby at_123) rfl ?_
          show Steps p.tables e below (zdg.setTop (mkF m 124 #[.val (.int p1), .val (.int p2), .val (.int p3), .val (.int p4), .val (.int p5), .val (.int p6), .val (.int (p1 % 3)), .val (.int (p2 % 3)), .val (.int (p3 % 3)), .val (.int 0), .val (.int 2), .unset, .unset, .unset, .unset, .unset] [(.int 1)])) _
          refine XS.istore z60.here hx rfl (hb hby at_124) rfl (l' := #[.val (.int p1), .val (.int p2), .val (.int p3), .val (.int p4), .val (.int p5), .val (.int p6), .val (.int (p1 % 3)), .val (.int (p2 % 3)), .val (.int (p3 % 3)), .val (.int 0), .val (.int 2), .val (.int 1), .unset, .unset, .unset, .unset]) rfl ?_
          refine zn4 _ ?_
          show Steps p.tables e below (z19f.setTop (mkF m 129 #[.val (.int p1), .val (.int p2), .val (.int p3), .val (.int p4), .val (.int p5), .val (.int p6), .val (.int (p1 % 3)), .val (.int (p2 % 3)), .val (.int (p3 % 3)), .val (.int 0), .val (.int 2), .val (.int 1), .unset, .unset, .unset, .unset] [(.ref z4)])) _
          refine XS.dup zn2.here hx rfl (hb hby at_129) rfl rfl ?_
          refine zn7.trans ?_
          show Steps p.tables e below (z4z.setTop (mkF m 133 #[.val (.int p1), .val (.int p2), .val (.int p3), .val (.int p4), .val (.int p5), .val (.int p6), .val (.int (p1 % 3)), .val (.int (p2 % 3)), .val (.int (p3 % 3)), .val (.int 0), .val (.int 2), .val (.int 1), .unset, .unset, .unset, .unset] [(.ref z4)])) _
          refine XS.astore z2q.here hx rfl (hb hby at_133) rfl rfl (l' := #[.val (.int p1), .val (.int p2), .val (.int p3), .val (.int p4), .val (.int p5), .val (.int p6), .val (.int (p1 % 3)), .val (.int (p2 % 3)), .val (.int (p3 % 3)), .val (.int 0), .val (.int 2), .val (.int 1), .val (.ref z4), .unset, .unset, .unset]) rfl ?_
          refine XS.aload z2q.here hx rfl (hb hby at_135) rfl rfl ?_
          refine XS.iload z2q.here hx rfl (hb hby at_137) rfl ?_
          refine XS.i2dS z2q.here hx rfl (hb hby at_139) rfl (i2d_w _) ?_
          show Steps p.tables e below (z4z.setTop (mkF m 140 #[.val (.int p1), .val (.int p2), .val (.int p3), .val (.int p4), .val (.int p5), .val (.int p6), .val (.int (p1 % 3)), .val (.int (p2 % 3)), .val (.int (p3 % 3)), .val (.int 0), .val (.int 2), .val (.int 1), .val (.ref z4), .unset, .unset, .unset] [(.double (Jvm.FP.l2d ((p1 % 3).toInt64))), (.ref z4)])) _
          refine XS.iloadN z2q.here hx rfl (hb hby at_140) rfl ?_
          refine XS.iconst z2q.here hx rfl (hb hby at_141) ?_
          refine XS.aconstNull z2q.here hx rfl (hb hby at_142) ?_
          refine znl.trans ?_
          show Steps p.tables e below (zdl.setTop (mkF m 146 #[.val (.int p1), .val (.int p2), .val (.int p3), .val (.int p4), .val (.int p5), .val (.int p6), .val (.int (p1 % 3)), .val (.int (p2 % 3)), .val (.int (p3 % 3)), .val (.int 0), .val (.int 2), .val (.int 1), .val (.ref z4), .unset, .unset, .unset] [])) _
          refine XS.aload z48.here hx rfl (hb hby at_146) rfl rfl ?_
          refine XS.iload z48.here hx rfl (hb hby at_148) rfl ?_
          refine XS.i2dS z48.here hx rfl (hb hby at_150) rfl (i2d_w _) ?_
          show Steps p.tables e below (zdl.setTop (mkF m 151 #[.val (.int p1), .val (.int p2), .val (.int p3), .val (.int p4), .val (.int p5), .val (.int p6), .val (.int (p1 % 3)), .val (.int (p2 % 3)), .val (.int (p3 % 3)), .val (.int 0), .val (.int 2), .val (.int 1), .val (.ref z4), .unset, .unset, .unset] [(.double (Jvm.FP.l2d ((p2 % 3).toInt64))), (.ref z4)])) _
          refine XS.iload z48.here hx rfl (hb hby at_151) rfl ?_
          refine XS.iconst z48.here hx rfl (hb hby at_153) ?_
          refine XS.aconstNull z48.here hx rfl (hb hby at_154) ?_
          refine znq.trans ?_
          show Steps p.tables e below (zdn.setTop (mkF m 158 #[.val (.int p1), .val (.int p2), .val (.int p3), .val (.int p4), .val (.int p5), .val (.int p6), .val (.int (p1 % 3)), .val (.int (p2 % 3)), .val (.int (p3 % 3)), .val (.int 0), .val (.int 2), .val (.int 1), .val (.ref z4), .unset, .unset, .unset] [])) _
          refine XS.aload z49.here hx rfl (hb hby at_158) rfl rfl ?_
          refine XS.iload z49.here hx rfl (hb hby at_160) rfl ?_
          refine XS.i2dS z49.here hx rfl (hb hby at_162) rfl (i2d_w _) ?_
          show Steps p.tables e below (zdn.setTop (mkF m 163 #[.val (.int p1), .val (.int p2), .val (.int p3), .val (.int p4), .val (.int p5), .val (.int p6), .val (.int (p1 % 3)), .val (.int (p2 % 3)), .val (.int (p3 % 3)), .val (.int 0), .val (.int 2), .val (.int 1), .val (.ref z4), .unset, .unset, .unset] [(.double (Jvm.FP.l2d ((p3 % 3).toInt64))), (.ref z4)])) _
          refine XS.iload z49.here hx rfl (hb hby at_163) rfl ?_
          refine XS.iconst z49.here hx rfl (hb hby at_165) ?_
          refine XS.aconstNull z49.here hx rfl (hb hby at_166) ?_
          refine znv.trans ?_
          show Steps p.tables e below (zaz.setTop (mkF m 170 #[.val (.int p1), .val (.int p2), .val (.int p3), .val (.int p4), .val (.int p5), .val (.int p6), .val (.int (p1 % 3)), .val (.int (p2 % 3)), .val (.int (p3 % 3)), .val (.int 0), .val (.int 2), .val (.int 1), .val (.ref z4), .unset, .unset, .unset] [])) _
          refine XS.aload z9z.here hx rfl (hb hby at_170) rfl rfl ?_
          refine zo1.trans ?_
          show Steps p.tables e below (z1c3.setTop (mkF m 175 #[.val (.int p1), .val (.int p2), .val (.int p3), .val (.int p4), .val (.int p5), .val (.int p6), .val (.int (p1 % 3)), .val (.int (p2 % 3)), .val (.int (p3 % 3)), .val (.int 0), .val (.int 2), .val (.int 1), .val (.ref z4), .unset, .unset, .unset] [(.int p4)])) _
          refine XS.istore z7u.here hx rfl (hb hby at_175) rfl (l' := #[.val (.int p1), .val (.int p2), .val (.int p3), .val (.int p4), .val (.int p5), .val (.int p6), .val (.int (p1 % 3)), .val (.int (p2 % 3)), .val (.int (p3 % 3)), .val (.int 0), .val (.int 2), .val (.int 1), .val (.ref z4), .val (.int p4), .unset, .unset]) rfl ?_
          refine XS.aload z7u.here hx rfl (hb hby at_177) rfl rfl ?_
          refine zo4.trans ?_
          show Steps p.tables e below (zds.setTop (mkF m 182 #[.val (.int p1), .val (.int p2), .val (.int p3), .val (.int p4), .val (.int p5), .val (.int p6), .val (.int (p1 % 3)), .val (.int (p2 % 3)), .val (.int (p3 % 3)), .val (.int 0), .val (.int 2), .val (.int 1), .val (.ref z4), .val (.int p4), .unset, .unset] [])) _
          refine XS.aload za0.here hx rfl (hb hby at_182) rfl rfl ?_
          refine zoa.trans ?_
          show Steps p.tables e below (z1cr.setTop (mkF m 187 #[.val (.int p1), .val (.int p2), .val (.int p3), .val (.int p4), .val (.int p5), .val (.int p6), .val (.int (p1 % 3)), .val (.int (p2 % 3)), .val (.int (p3 % 3)), .val (.int 0), .val (.int 2), .val (.int 1), .val (.ref z4), .val (.int p4), .unset, .unset] [(.int p6)])) _
          refine XS.istore z7v.here hx rfl (hb hby at_187) rfl (l' := #[.val (.int p1), .val (.int p2), .val (.int p3), .val (.int p4), .val (.int p5), .val (.int p6), .val (.int (p1 % 3)), .val (.int (p2 % 3)), .val (.int (p3 % 3)), .val (.int 0), .val (.int 2), .val (.int 1), .val (.ref z4), .val (.int p4), .val (.int p6), .unset]) rfl ?_
          refine XS.aload z7v.here hx rfl (hb hby at_189) rfl rfl ?_
          refine zod.trans ?_
          show Steps p.tables e below (za1.setTop (mkF m 194 #[.val (.int p1), .val (.int p2), .val (.int p3), .val (.int p4), .val (.int p5), .val (.int p6), .val (.int (p1 % 3)), .val (.int (p2 % 3)), .val (.int (p3 % 3)), .val (.int 0), .val (.int 2), .val (.int 1), .val (.ref z4), .val (.int p4), .val (.int p6), .unset] [])) _
          refine XS.aload za2.here hx rfl (hb hby at_194) rfl rfl ?_
          refine zof.trans ?_
          show Steps p.tables e below (z1d5.setTop (mkF m 199 #[.val (.int p1), .val (.int p2), .val (.int p3), .val (.int p4), .val (.int p5), .val (.int p6), .val (.int (p1 % 3)), .val (.int (p2 % 3)), .val (.int (p3 % 3)), .val (.int 0), .val (.int 2), .val (.int 1), .val (.ref z4), .val (.int p4), .val (.int p6), .unset] [(.int p5)])) _
          refine XS.istore z1p.here hx rfl (hb hby at_199) rfl (l' := #[.val (.int p1), .val (.int p2), .val (.int p3), .val (.int p4), .val (.int p5), .val (.int p6), .val (.int (p1 % 3)), .val (.int (p2 % 3)), .val (.int (p3 % 3)), .val (.int 0), .val (.int 2), .val (.int 1), .val (.ref z4), .val (.int p4), .val (.int p6), .val (.int p5)]) rfl ?_
          refine XS.iload z1p.here hx rfl (hb hby at_201) rfl ?_
          refine XS.iconst z1p.here hx rfl (hb hby at_203) ?_
          refine XS.iload z1p.here hx rfl (hb hby at_204) rfl ?_
          refine XS.iload z1p.here hx rfl (hb hby at_206) rfl ?_
          refine XS.iload z1p.here hx rfl (hb hby at_208) rfl ?_
          refine XS.iloadN z1p.here hx rfl (hb hby at_210) rfl ?_
          refine XS.iload z1p.here hx rfl (hb hby at_211) rfl ?_
          refine XS.iload z1p.here hx rfl (hb hby at_213) rfl ?_
          refine zoi _ ?_
          show Steps p.tables e below (zog.setTop (mkF m 218 #[.val (.int p1), .val (.int p2), .val (.int p3), .val (.int p4), .val (.int p5), .val (.int p6), .val (.int (p1 % 3)), .val (.int (p2 % 3)), .val (.int (p3 % 3)), .val (.int 0), .val (.int 2), .val (.int 1), .val (.ref z4), .val (.int p4), .val (.int p6), .val (.int p5)] [(.int p4), (.int p4)])) _
          refine XS.icmpNo z1q.here hx rfl (hb hby at_218) rfl (teq (rfl : p4 = p4)).2 ?_
          show Steps p.tables e below (zog.setTop (mkF m 221 #[.val (.int p1), .val (.int p2), .val (.int p3), .val (.int p4), .val (.int p5), .val (.int p6), .val (.int (p1 % 3)), .val (.int (p2 % 3)), .val (.int (p3 % 3)), .val (.int 0), .val (.int 2), .val (.int 1), .val (.ref z4), .val (.int p4), .val (.int p6), .val (.int p5)] [])) _
          refine XS.iload z1q.here hx rfl (hb hby at_221) rfl ?_
          refine XS.iconst z1q.here hx rfl (hb hby at_223) ?_
          refine XS.iload z1q.here hx rfl (hb hby at_224) rfl ?_
          refine XS.iload z1q.here hx rfl (hb hby at_226) rfl ?_
          refine XS.iload z1q.here hx rfl (hb hby at_228) rfl ?_
          refine XS.iloadN z1q.here hx rfl (hb hby at_230) rfl ?_
          refine XS.iload z1q.here hx rfl (hb hby at_231) rfl ?_
          refine XS.iload z1q.here hx rfl (hb hby at_233) rfl ?_
          refine zol _ ?_
          show Steps p.tables e below (zoj.setTop (mkF m 238 #[.val (.int p1), .val (.int p2), .val (.int p3), .val (.int p4), .val (.int p5), .val (.int p6), .val (.int (p1 % 3)), .val (.int (p2 % 3)), .val (.int (p3 % 3)), .val (.int 0), .val (.int 2), .val (.int 1), .val (.ref z4), .val (.int p4), .val (.int p6), .val (.int p5)] [(.int p6), (.int p6)])) _
          refine XS.icmpNo z1r.here hx rfl (hb hby at_238) rfl (teq (rfl : p6 = p6)).2 ?_
          show Steps p.tables e below (zoj.setTop (mkF m 241 #[.val (.int p1), .val (.int p2), .val (.int p3), .val (.int p4), .val (.int p5), .val (.int p6), .val (.int (p1 % 3)), .val (.int (p2 % 3)), .val (.int (p3 % 3)), .val (.int 0), .val (.int 2), .val (.int 1), .val (.ref z4), .val (.int p4), .val (.int p6), .val (.int p5)] [])) _
          refine XS.iload z1r.here hx rfl (hb hby at_241) rfl ?_
          refine XS.iconst z1r.here hx rfl (hb hby at_243) ?_
          refine XS.iload z1r.here hx rfl (hb hby at_244) rfl ?_
          refine XS.iload z1r.here hx rfl (hb hby at_246) rfl ?_
          refine XS.iload z1r.here hx rfl (hb hby at_248) rfl ?_
          refine XS.iloadN z1r.here hx rfl (hb hby at_250) rfl ?_
          refine XS.iload z1r.here hx rfl (hb hby at_251) rfl ?_
          refine XS.iload z1r.here hx rfl (hb hby at_253) rfl ?_
          refine zon _ ?_
          show Steps p.tables e below (zdx.setTop (mkF m 258 #[.val (.int p1), .val (.int p2), .val (.int p3), .val (.int p4), .val (.int p5), .val (.int p6), .val (.int (p1 % 3)), .val (.int (p2 % 3)), .val (.int (p3 % 3)), .val (.int 0), .val (.int 2), .val (.int 1), .val (.ref z4), .val (.int p4), .val (.int p6), .val (.int p5)] [(.int p5), (.int p5)])) _
          refine XS.icmpNo z67.here hx rfl (hb hby at_258) rfl (teq (rfl : p5 = p5)).2 ?_
          show Steps p.tables e below (zdx.setTop (mkF m 261 #[.val (.int p1), .val (.int p2), .val (.int p3), .val (.int p4), .val (.int p5), .val (.int p6), .val (.int (p1 % 3)), .val (.int (p2 % 3)), .val (.int (p3 % 3)), .val (.int 0), .val (.int 2), .val (.int 1), .val (.ref z4), .val (.int p4), .val (.int p6), .val (.int p5)] [])) _
          refine XS.iconst z67.here hx rfl (hb hby at_261) ?_
          refine XS.goto z67.here hx rfl (pc0 := 262) (pc' := 266) rfl (hb hby at_262) (by decide) (by decide) ?_
          exact retN z67 hx (t := .boolean) Bd.returns (by simp) (hb hby at_266) hr
        · show LQ n0 _ zdx.heap _
          exact ⟨rfl, z1dg, trivial⟩
      · obtain ⟨_, _, ⟨zoo, L907, z1nq, n907⟩, -, z4a, ⟨Lc907, zop, l907, y907, z907⟩, zoq⟩ := Jvm.LawKit.callS X0 hx (y := own_m2) hown (mvT hZ (own_W hw 0 rfl)) (mvT hZ (own_W hw 1 rfl)) (mvT hZ (own_W hw 2 rfl)) (mvT hZ (own_W hw 3 rfl)) (by decide) (backOf (W := 0) (rmB l Z a0 hw [] h0 n0 A K (p2 % 3) (1 : Int32) (p1 % 3) (0 : Int32) EN OL0) hZ (own_W hw 3 rfl) (own_W hw 2 rfl) (by decide) (by decide)) (g := (mkF m 21 #[.val (.int p1), .val (.int p2), .val (.int p3), .val (.int p4), .val (.int p5), .val (.int p6), .val (.int (p1 % 3)), .val (.int (p2 % 3)), .val (.int (p3 % 3)), .unset, .unset, .unset, .unset, .unset, .unset, .unset] [(.int 0), (.int (p1 % 3)), (.int 1), (.int (p2 % 3))])) rfl (by rw [hml]; rfl) (argsL := [(.int (p2 % 3)), (.int 1), (.int (p1 % 3)), (.int 0)]) (rest := []) (lenOf own_pd4 rfl) rfl (by show 2 * 0 + _ ≤ _; exact Nat.le_of_eq rfl) (hb hby at_21) (fun _ _ => ⟨rfl, e0, (by decide : 0 + 0 ≤ _), (by decide : 0 + 0 ≤ _)⟩)
        dsimp only [Pt.U, Pt.locs, Pt.cells, Pt.slots] at z4a l907 y907 z907 zoq zop
        replace z4a := own_sub z4a l907 y907 z907
        obtain ⟨rfl, z1dh, z1di⟩ := zop
        have z1dj := Fr.app N0 z1dh
        obtain ⟨_, _, ⟨zdy, L908, z1nr, n908⟩, -, z24, ⟨Lc908, zor, l908, y908, z908⟩, zos⟩ := Jvm.LawKit.callS z4a hx (y := own_m2) hown (mvT hZ (own_W hw 0 rfl)) (mvT hZ (own_W hw 1 rfl)) (mvT hZ (own_W hw 2 rfl)) (mvT hZ (own_W hw 3 rfl)) (by decide) (backOf (W := 1) (rmB l Z a0 hw [] h0 n0 A K (p3 % 3) (2 : Int32) (p1 % 3) (0 : Int32) EN OL0) hZ (own_W hw 3 rfl) (own_W hw 2 rfl) (by decide) (by decide)) (g := (mkF m 38 #[.val (.int p1), .val (.int p2), .val (.int p3), .val (.int p4), .val (.int p5), .val (.int p6), .val (.int (p1 % 3)), .val (.int (p2 % 3)), .val (.int (p3 % 3)), .unset, .unset, .unset, .unset, .unset, .unset, .unset] [(.int 0), (.int (p1 % 3)), (.int 2), (.int (p3 % 3)), (.int 0)])) rfl (by rw [hml]; rfl) (argsL := [(.int (p3 % 3)), (.int 2), (.int (p1 % 3)), (.int 0)]) (rest := [(.int 0)]) (lenOf own_pd4 rfl) rfl (by show 2 * 0 + _ ≤ _; exact Nat.le_of_eq rfl) (hb hby at_38) (fun _ _ => ⟨rfl, z1di, (by decide : 0 + 0 ≤ _), (by decide : 0 + 0 ≤ _)⟩)
        dsimp only [Pt.U, Pt.locs, Pt.cells, Pt.slots] at z24 l908 y908 z908 zos zor
        replace z24 := own_sub z24 l908 y908 z908
        obtain ⟨rfl, z1dk, z1dl⟩ := zor
        have z1dm := Fr.app z1dj z1dk
        obtain ⟨_, _, ⟨zot, L909, z1ns, n909⟩, -, z2t, ⟨Lc909, zou, l909, y909, z909⟩, zov⟩ := Jvm.LawKit.callS z24 hx (y := own_m2) hown (mvT hZ (own_W hw 0 rfl)) (mvT hZ (own_W hw 1 rfl)) (mvT hZ (own_W hw 2 rfl)) (mvT hZ (own_W hw 3 rfl)) (by decide) (backOf (W := 0) (rmB l Z a0 hw [] h0 n0 A K (p1 % 3) (0 : Int32) (p2 % 3) (1 : Int32) EN OL0) hZ (own_W hw 3 rfl) (own_W hw 2 rfl) (by decide) (by decide)) (g := (mkF m 58 #[.val (.int p1), .val (.int p2), .val (.int p3), .val (.int p4), .val (.int p5), .val (.int p6), .val (.int (p1 % 3)), .val (.int (p2 % 3)), .val (.int (p3 % 3)), .val (.int 0), .unset, .unset, .unset, .unset, .unset, .unset] [(.int 1), (.int (p2 % 3)), (.int 0), (.int (p1 % 3))])) rfl (by rw [hml]; rfl) (argsL := [(.int (p1 % 3)), (.int 0), (.int (p2 % 3)), (.int 1)]) (rest := []) (lenOf own_pd4 rfl) rfl (by show 2 * 0 + _ ≤ _; exact Nat.le_of_eq rfl) (hb hby at_58) (fun _ _ => ⟨rfl, z1dl, (by decide : 0 + 0 ≤ _), (by decide : 0 + 0 ≤ _)⟩)
        dsimp only [Pt.U, Pt.locs, Pt.cells, Pt.slots] at z2t l909 y909 z909 zov zou
        replace z2t := own_sub z2t l909 y909 z909
        obtain ⟨rfl, z1dn, z1do⟩ := zou
        have z1dp := Fr.app z1dm z1dn
        obtain ⟨_, _, ⟨zdz, L910, z1nt, n910⟩, -, z25, ⟨Lc910, zow, l910, y910, z910⟩, zox⟩ := Jvm.LawKit.callS z2t hx (y := own_m2) hown (mvT hZ (own_W hw 0 rfl)) (mvT hZ (own_W hw 1 rfl)) (mvT hZ (own_W hw 2 rfl)) (mvT hZ (own_W hw 3 rfl)) (by decide) (backOf (W := 1) (rmB l Z a0 hw [] h0 n0 A K (p3 % 3) (2 : Int32) (p2 % 3) (1 : Int32) EN OL0) hZ (own_W hw 3 rfl) (own_W hw 2 rfl) (by decide) (by decide)) (g := (mkF m 75 #[.val (.int p1), .val (.int p2), .val (.int p3), .val (.int p4), .val (.int p5), .val (.int p6), .val (.int (p1 % 3)), .val (.int (p2 % 3)), .val (.int (p3 % 3)), .val (.int 0), .unset, .unset, .unset, .unset, .unset, .unset] [(.int 1), (.int (p2 % 3)), (.int 2), (.int (p3 % 3)), (.int 1)])) rfl (by rw [hml]; rfl) (argsL := [(.int (p3 % 3)), (.int 2), (.int (p2 % 3)), (.int 1)]) (rest := [(.int 1)]) (lenOf own_pd4 rfl) rfl (by show 2 * 0 + _ ≤ _; exact Nat.le_of_eq rfl) (hb hby at_75) (fun _ _ => ⟨rfl, z1do, (by decide : 0 + 0 ≤ _), (by decide : 0 + 0 ≤ _)⟩)
        dsimp only [Pt.U, Pt.locs, Pt.cells, Pt.slots] at z25 l910 y910 z910 zox zow
        replace z25 := own_sub z25 l910 y910 z910
        obtain ⟨rfl, z1dq, z1dr⟩ := zow
        have z1ds := Fr.app z1dp z1dq
        obtain ⟨_, _, ⟨zoy, L911, z1nu, n911⟩, -, z2u, ⟨Lc911, zoz, l911, y911, z911⟩, zp0⟩ := Jvm.LawKit.callS z25 hx (y := own_m2) hown (mvT hZ (own_W hw 0 rfl)) (mvT hZ (own_W hw 1 rfl)) (mvT hZ (own_W hw 2 rfl)) (mvT hZ (own_W hw 3 rfl)) (by decide) (backOf (W := 0) (rmB l Z a0 hw [] h0 n0 A K (p1 % 3) (0 : Int32) (p3 % 3) (2 : Int32) EN OL0) hZ (own_W hw 3 rfl) (own_W hw 2 rfl) (by decide) (by decide)) (g := (mkF m 95 #[.val (.int p1), .val (.int p2), .val (.int p3), .val (.int p4), .val (.int p5), .val (.int p6), .val (.int (p1 % 3)), .val (.int (p2 % 3)), .val (.int (p3 % 3)), .val (.int 0), .val (.int 1), .unset, .unset, .unset, .unset, .unset] [(.int 2), (.int (p3 % 3)), (.int 0), (.int (p1 % 3))])) rfl (by rw [hml]; rfl) (argsL := [(.int (p1 % 3)), (.int 0), (.int (p3 % 3)), (.int 2)]) (rest := []) (lenOf own_pd4 rfl) rfl (by show 2 * 0 + _ ≤ _; exact Nat.le_of_eq rfl) (hb hby at_95) (fun _ _ => ⟨rfl, z1dr, (by decide : 0 + 0 ≤ _), (by decide : 0 + 0 ≤ _)⟩)
        dsimp only [Pt.U, Pt.locs, Pt.cells, Pt.slots] at z2u l911 y911 z911 zp0 zoz
        replace z2u := own_sub z2u l911 y911 z911
        obtain ⟨rfl, z1dt, z1du⟩ := zoz
        have z1dv := Fr.app z1ds z1dt
        obtain ⟨_, _, ⟨ze0, L912, z1nv, n912⟩, -, z51, ⟨Lc912, zp1, l912, y912, z912⟩, zp2⟩ := Jvm.LawKit.callS z2u hx (y := own_m2) hown (mvT hZ (own_W hw 0 rfl)) (mvT hZ (own_W hw 1 rfl)) (mvT hZ (own_W hw 2 rfl)) (mvT hZ (own_W hw 3 rfl)) (by decide) (backOf (W := 1) (rmB l Z a0 hw [] h0 n0 A K (p2 % 3) (1 : Int32) (p3 % 3) (2 : Int32) EN OL0) hZ (own_W hw 3 rfl) (own_W hw 2 rfl) (by decide) (by decide)) (g := (mkF m 112 #[.val (.int p1), .val (.int p2), .val (.int p3), .val (.int p4), .val (.int p5), .val (.int p6), .val (.int (p1 % 3)), .val (.int (p2 % 3)), .val (.int (p3 % 3)), .val (.int 0), .val (.int 1), .unset, .unset, .unset, .unset, .unset] [(.int 2), (.int (p3 % 3)), (.int 1), (.int (p2 % 3)), (.int 1)])) rfl (by rw [hml]; rfl) (argsL := [(.int (p2 % 3)), (.int 1), (.int (p3 % 3)), (.int 2)]) (rest := [(.int 1)]) (lenOf own_pd4 rfl) rfl (by show 2 * 0 + _ ≤ _; exact Nat.le_of_eq rfl) (hb hby at_112) (fun _ _ => ⟨rfl, z1du, (by decide : 0 + 0 ≤ _), (by decide : 0 + 0 ≤ _)⟩)
        dsimp only [Pt.U, Pt.locs, Pt.cells, Pt.slots] at z51 l912 y912 z912 zp2 zp1
        replace z51 := own_sub z51 l912 y912 z912
        obtain ⟨rfl, z1dw, z1dx⟩ := zp1
        have z1dy := Fr.app z1dv z1dw
        obtain ⟨z1dz, z4b, zp3, z1e0, zp4, z52, z4c, -, zp5⟩ := newO z51 hx hZ hown (own_W hw 4 rfl) (own_W hw 5 rfl) (own_W hw 6 rfl) z1dx (g := (mkF m 126 #[.val (.int p1), .val (.int p2), .val (.int p3), .val (.int p4), .val (.int p5), .val (.int p6), .val (.int (p1 % 3)), .val (.int (p2 % 3)), .val (.int (p3 % 3)), .val (.int 0), .val (.int 1), .val (.int 2), .unset, .unset, .unset, .unset] [])) rfl (hb hby at_126) (by decide) (by decide)
        obtain ⟨z5, ze1⟩ : ∃ z, z = h0.size := ⟨_, rfl⟩
        rw [← ze1] at z52 z4c zp5
        have z26 : n0 ≤ z5 := Nat.le_trans (OL0.1 ▸ OL0.2.1) (Nat.le_of_eq ze1.symm)
        have z7w : h0.size ≤ z5 := Nat.le_trans KK0.1 (Nat.le_of_eq ze1.symm)
        have zp6 := OL0.ext zp4
        have z68 := KK0.ext zp4
        have z1e1 : Fld Z z4b z5 y_s0 "at" "[D" .null := z4c (Or.inl (own_W hw 15 rfl)) (ty := (.array .double)) (by decide)
        have z1e2 : Fld Z z4b z5 y_s0 "added" "[J" .null := z4c (Or.inl (own_W hw 18 rfl)) (ty := (.array .long)) (by decide)
        have z1e3 : Fld Z z4b z5 y_s0 "slot" "[I" .null := z4c (Or.inl (own_W hw 21 rfl)) (ty := (.array .int)) (by decide)
        have z1e4 : Fld Z z4b z5 y_s0 "from" "[I" .null := z4c (Or.inl (own_W hw 23 rfl)) (ty := (.array .int)) (by decide)
        have z1e5 : Fld Z z4b z5 y_s0 "to" "[I" .null := z4c (Or.inl (own_W hw 25 rfl)) (ty := (.array .int)) (by decide)
        have z1e6 : Fld Z z4b z5 y_s0 "message" y_s1 .null := z4c (Or.inl (own_W hw 29 rfl)) (ty := (.array (.object y_s2))) (by decide)
        have z1e7 : Fld Z z4b z5 y_s0 "free" "[I" .null := z4c (Or.inl (own_W hw 31 rfl)) (ty := (.array .int)) (by decide)
        have z1e8 : Fld Z z4b z5 y_s0 "size" "I" (.int 0) := z4c (Or.inl (own_W hw 42 rfl)) (ty := .int) (by decide)
        have z1e9 : Fld Z z4b z5 y_s0 "additions" "J" (.long 0) := z4c (Or.inl (own_W hw 44 rfl)) (ty := .long) (by decide)
        obtain ⟨_, _, ⟨z53, L914, z1nw, n914⟩, -, z2v, ⟨Lc914, zp7, l914, y914, z914⟩, zp8⟩ := zp3.specialBack hx (y := own_m7) rfl hown (mvT hZ (own_W hw 7 rfl)) (mvT hZ (own_W hw 8 rfl)) (mvT hZ (own_W hw 9 rfl)) (by decide) (backOf (W := 1) (rmL1 l Z a0 hw [] z4b n0 p1 p2 p3 p4 p5 p6 A K z5 EN zp6 z52 z1e1 z1e2 z1e3 z1e4 z1e5 z1e6 z1e7 z1e8 z1e9 z26) hZ (own_W hw 9 rfl) (own_W hw 6 rfl) (by decide) (by decide)) (g := (mkF m 130 #[.val (.int p1), .val (.int p2), .val (.int p3), .val (.int p4), .val (.int p5), .val (.int p6), .val (.int (p1 % 3)), .val (.int (p2 % 3)), .val (.int (p3 % 3)), .val (.int 0), .val (.int 1), .val (.int 2), .unset, .unset, .unset, .unset] [(.ref z5), (.ref z5)])) rfl (by rw [hml]; rfl) (Steps.refl _) (a := z5) (argsL := []) (rest := [(.ref z5)]) (lenOf own_pd6 rfl) rfl (by show 2 * 0 + _ ≤ _; exact Nat.le_of_eq rfl) (hb hby at_130) (fun _ _ => ⟨rfl, z1e0, (by decide : 1 + 7 ≤ _), (by decide : 9 + 112 ≤ _)⟩)
        dsimp only [Pt.U, Pt.locs, Pt.cells, Pt.slots] at z2v l914 y914 z914 zp8 zp7
        replace z2v := own_sub z2v l914 y914 z914
        obtain ⟨z69, z6a, z2w, z2x, z6b, z6c, z6d, z7x, z7y, z54, z6k, zb1, z7z, z80, rfl, z1ea, zp9, ⟨z4d, zpa⟩, ⟨z4e, zpb⟩, ⟨z4f, zpc⟩, ⟨z81, zpd⟩, ⟨z82, zpe⟩, ⟨z4g, zpf⟩, ⟨zb2, zpg⟩, z14, zs, zb, zh, zt, z15, zph, z1eb, z1ec, z1ed, z1ee, z1ef, z1eg, z1eh, z1ei, z1ej, z1ek, z1el, z1em, z1en, z1eo, z1ep, z1eq, zpi⟩ := zp7
        have z1er := Fr.app z1dy z1ea
        have za3 : z5 < z69 := Nat.lt_of_lt_of_le z52.lt zpa
        have za4 : z5 < z6a := Nat.lt_of_lt_of_le z52.lt zpb
        have za5 : z5 < z2w := Nat.lt_of_lt_of_le z52.lt zpc
        have za6 : z5 < z2x := Nat.lt_of_lt_of_le z52.lt zpd
        have ze2 : z5 < z6b := Nat.lt_of_lt_of_le z52.lt zpe
        have za7 : z5 < z6c := Nat.lt_of_lt_of_le z52.lt zpf
        have za8 : z5 < z6d := Nat.lt_of_lt_of_le z52.lt zpg
        have za9 : h0.size ≤ z69 := Nat.le_trans z68.1 zpa
        have zaa : h0.size ≤ z6a := Nat.le_trans z68.1 zpb
        have zab : h0.size ≤ z2w := Nat.le_trans z68.1 zpc
        have ze3 : h0.size ≤ z2x := Nat.le_trans z68.1 zpd
        have ze4 : h0.size ≤ z6b := Nat.le_trans z68.1 zpe
        have zac : h0.size ≤ z6c := Nat.le_trans z68.1 zpf
        have zpj : h0.size ≤ z6d := Nat.le_trans z68.1 zpg
        have zpk := zp6.keep zp9 (allS z26 all0)
        have z1es := z68.trans zp9 (allS (Or.inr z7w) all0)
        have z1et : Arv Z z53.heap z69 z7x .double (16 : Int32) [(.double (Jvm.FP.l2d ((0 : Int32).toInt64))), (.double (Jvm.FP.l2d ((0 : Int32).toInt64))), (.double (Jvm.FP.l2d ((0 : Int32).toInt64)))] (.double (Jvm.FP.l2d ((0 : Int32).toInt64))) := Arv.pad z1ek (pad_rep [] (.double (Jvm.FP.l2d ((0 : Int32).toInt64))) 3)
        have z1eu : Arv Z z53.heap z6a z7y .long (16 : Int32) [(.long 0), (.long 0), (.long 0)] (.long 0) := Arv.pad z1el (pad_rep [] (.long 0) 3)
        have z1ev : Arv Z z53.heap z2w z54 .int 16 [(.int 0), (.int 0), (.int 0)] (.int 0) := Arv.pad z1em (pad_rep [] (.int 0) 3)
        have z1ew : Arv Z z53.heap z2x z6k .int 16 [(.int 0), (.int 0), (.int 0)] (.int 0) := Arv.pad z1en (pad_rep [] (.int 0) 3)
        have z1ex : Arv Z z53.heap z6b zb1 .int 16 [(.int 0), (.int 0), (.int 0)] (.int 0) := Arv.pad z1eo (pad_rep [] (.int 0) 3)
        have z1ey : own_AM Z z53.heap z6c z7z (.object y_s2) := ⟨_, _, z1ep⟩
        obtain ⟨cq921, kq921, z1ez, z1nx, z1f0⟩ := isOf hZ rfl zph
        obtain ⟨_, _, ⟨ze5, L921, z1ny, n921⟩, -, z4h, ⟨Lc921, zpl, l921, y921, z921⟩, zpm⟩ := z2v.virtualBack hx (y := own_m0) (z := own_m0) hown (mvT hZ (own_W hw 36 rfl)) (mvT hZ (own_W hw 37 rfl)) (notFace_of_selects (args := #[]) (mvT hZ (own_W hw 39 rfl))) (mvT hZ (own_W hw 39 rfl)) (mvT hZ (own_W hw 38 rfl)) (by decide) (backOf (W := 0) (rmA0 l Z a0 hw [] z53.heap n0 A K (0 : Int32) (0 : Int32) (0 : Int32) (0 : Int64) (0 : Int64) (0 : Int64) (0 : Int32) (0 : Int32) (0 : Int32) (0 : Int32) (0 : Int32) (0 : Int32) (0 : Int32) (0 : Int32) (0 : Int32) (0 : Int64) (p1 % 3) p4 (0 : Int32) z5 z69 z6a z2w z2x z6b z6c z6d z7x z7y z54 z6k zb1 z7z z80 EN zpk z1ei z1ed z1ev z1eh zpi z1ee z1ew z1ef z1ex z1eg z1ey zph z1ej z1eb z1et z1ec z1eu z1eq (Nat.ne_of_lt za6) (Nat.ne_of_lt zh) (Nat.ne_of_lt ze2) (Nat.ne_of_lt (Nat.lt_trans zh zt)) (Nat.ne_of_lt zt) (Nat.ne_of_lt za7) (Nat.ne_of_lt (Nat.lt_trans (Nat.lt_trans z14 zs) zb)) (Nat.ne_of_lt (Nat.lt_trans (Nat.lt_trans (Nat.lt_trans z14 zs) zb) zh)) (Nat.ne_of_lt (Nat.lt_trans (Nat.lt_trans (Nat.lt_trans (Nat.lt_trans z14 zs) zb) zh) zt)) (Nat.ne_of_lt za3) (Nat.ne_of_lt (Nat.lt_trans zs zb)) (Nat.ne_of_lt (Nat.lt_trans (Nat.lt_trans zs zb) zh)) (Nat.ne_of_lt (Nat.lt_trans (Nat.lt_trans (Nat.lt_trans zs zb) zh) zt)) (Nat.ne_of_lt za4) (Nat.ne_of_lt zb) (Nat.ne_of_lt (Nat.lt_trans zb zh)) (Nat.ne_of_lt (Nat.lt_trans (Nat.lt_trans zb zh) zt)) (Nat.ne_of_lt za5) (Nat.ne_of_lt z14) (Nat.ne_of_lt (Nat.lt_trans z14 zs)) (Nat.ne_of_lt zs) z81 z82 z4g z26 z4d z4e z4f) hZ (own_W hw 40 rfl) (own_W hw 6 rfl) (by decide) (by decide)) z1ez z1f0 (g := (mkF m 143 #[.val (.int p1), .val (.int p2), .val (.int p3), .val (.int p4), .val (.int p5), .val (.int p6), .val (.int (p1 % 3)), .val (.int (p2 % 3)), .val (.int (p3 % 3)), .val (.int 0), .val (.int 1), .val (.int 2), .val (.ref z5), .unset, .unset, .unset] [.null, (.int 0), (.int p4), (.double (Jvm.FP.l2d ((p1 % 3).toInt64))), (.ref z5)])) rfl (by rw [hml]; rfl) (Steps.refl _) (argsL := [(.double (Jvm.FP.l2d ((p1 % 3).toInt64))), (.int p4), (.int 0), .null]) (rest := []) (lenOf own_pd7 rfl) rfl (by show 2 * 0 + _ ≤ _; exact Nat.le_of_eq rfl) (hb hby at_143) (fun _ _ => ⟨rfl, rfl, (by decide : 8 + 0 ≤ _), (by decide : 121 + 0 ≤ _)⟩)
        dsimp only [Pt.U, Pt.locs, Pt.cells, Pt.slots] at z4h l921 y921 z921 zpm zpl
        replace z4h := own_sub z4h l921 y921 z921
        obtain ⟨rfl, z1f1, ze6, zpn, z1f2, z1f3, z1f4, z1f5, z1f6, z1f7, z1f8, z1f9, z1fa, z1fb, z1fc, z1fd, z1fe, z1ff, z1fg, z1fh⟩ := zpl
        have z1fi := Fr.app z1er z1f1
        have zpo := zpk.keep ze6 (allS z81 (allS z82 (allS z4g (allS z26 (allS z4f (allS z4e (allS z4d all0)))))))
        have z1fj := z1es.trans ze6 (allS (Or.inr ze3) (allS (Or.inr ze4) (allS (Or.inr zac) (allS (Or.inr z7w) (allS (Or.inr zab) (allS (Or.inr zaa) (allS (Or.inr za9) all0)))))))
        have zpp := (zpi.keep ze6 (ninS (Ne.symm (Nat.ne_of_lt (Nat.lt_trans (Nat.lt_trans zh zt) z15))) (ninS (Ne.symm (Nat.ne_of_lt (Nat.lt_trans zt z15))) (ninS (Ne.symm (Nat.ne_of_lt z15)) (ninS (Ne.symm (Nat.ne_of_lt za8)) (ninS (Ne.symm (Nat.ne_of_lt (Nat.lt_trans (Nat.lt_trans (Nat.lt_trans zb zh) zt) z15))) (ninS (Ne.symm (Nat.ne_of_lt (Nat.lt_trans (Nat.lt_trans (Nat.lt_trans (Nat.lt_trans zs zb) zh) zt) z15))) (ninS (Ne.symm (Nat.ne_of_lt (Nat.lt_trans (Nat.lt_trans (Nat.lt_trans (Nat.lt_trans (Nat.lt_trans z14 zs) zb) zh) zt) z15))) nin0))))))))
        obtain ⟨cq923, kq923, z1fk, z1nz, z1fl⟩ := isOf hZ rfl zpn
        obtain ⟨_, _, ⟨ze7, L923, z1o0, n923⟩, -, z4i, ⟨Lc923, zpq, l923, y923, z923⟩, zpr⟩ := z4h.virtualBack hx (y := own_m0) (z := own_m0) hown (mvT hZ (own_W hw 36 rfl)) (mvT hZ (own_W hw 37 rfl)) (notFace_of_selects (args := #[]) (mvT hZ (own_W hw 39 rfl))) (mvT hZ (own_W hw 39 rfl)) (mvT hZ (own_W hw 38 rfl)) (by decide) (backOf (W := 0) (rmA1n l Z a0 hw [] ze5.heap n0 A K (p1 % 3) (0 : Int32) (0 : Int32) (0 : Int64) (0 : Int64) (0 : Int64) (0 : Int32) (0 : Int32) (0 : Int32) p4 (0 : Int32) (0 : Int32) (0 : Int32) (0 : Int32) (0 : Int32) ((0 : Int64) + (1 : Int64)) (p2 % 3) p5 (1 : Int32) z5 z69 z6a z2w z2x z6b z6c z6d z7x z7y z54 z6k zb1 z7z z80 EN zpo z1f9 z1f4 z1fd z1f8 zpp z1f5 z1fe z1f6 z1ff z1f7 z1fg zpn z1f2 z1fb z1fa z1f3 z1fc z1fh z16 (Nat.ne_of_lt za6) (Nat.ne_of_lt zh) (Nat.ne_of_lt ze2) (Nat.ne_of_lt (Nat.lt_trans zh zt)) (Nat.ne_of_lt zt) (Nat.ne_of_lt za7) (Nat.ne_of_lt (Nat.lt_trans (Nat.lt_trans z14 zs) zb)) (Nat.ne_of_lt (Nat.lt_trans (Nat.lt_trans (Nat.lt_trans z14 zs) zb) zh)) (Nat.ne_of_lt (Nat.lt_trans (Nat.lt_trans (Nat.lt_trans (Nat.lt_trans z14 zs) zb) zh) zt)) (Nat.ne_of_lt za3) (Nat.ne_of_lt (Nat.lt_trans zs zb)) (Nat.ne_of_lt (Nat.lt_trans (Nat.lt_trans zs zb) zh)) (Nat.ne_of_lt (Nat.lt_trans (Nat.lt_trans (Nat.lt_trans zs zb) zh) zt)) (Nat.ne_of_lt za4) (Nat.ne_of_lt zb) (Nat.ne_of_lt (Nat.lt_trans zb zh)) (Nat.ne_of_lt (Nat.lt_trans (Nat.lt_trans zb zh) zt)) (Nat.ne_of_lt za5) (Nat.ne_of_lt z14) (Nat.ne_of_lt (Nat.lt_trans z14 zs)) (Nat.ne_of_lt zs) z81 z82 z4g z26 z4d z4e z4f) hZ (own_W hw 40 rfl) (own_W hw 6 rfl) (by decide) (by decide)) z1fk z1fl (g := (mkF m 155 #[.val (.int p1), .val (.int p2), .val (.int p3), .val (.int p4), .val (.int p5), .val (.int p6), .val (.int (p1 % 3)), .val (.int (p2 % 3)), .val (.int (p3 % 3)), .val (.int 0), .val (.int 1), .val (.int 2), .val (.ref z5), .unset, .unset, .unset] [.null, (.int 1), (.int p5), (.double (Jvm.FP.l2d ((p2 % 3).toInt64))), (.ref z5)])) rfl (by rw [hml]; rfl) (Steps.refl _) (argsL := [(.double (Jvm.FP.l2d ((p2 % 3).toInt64))), (.int p5), (.int 1), .null]) (rest := []) (lenOf own_pd7 rfl) rfl (by show 2 * 0 + _ ≤ _; exact Nat.le_of_eq rfl) (hb hby at_155) (fun _ _ => ⟨rfl, rfl, (by decide : 8 + 0 ≤ _), (by decide : 121 + 0 ≤ _)⟩)
        dsimp only [Pt.U, Pt.locs, Pt.cells, Pt.slots] at z4i l923 y923 z923 zpr zpq
        replace z4i := own_sub z4i l923 y923 z923
        obtain ⟨rfl, z1fm, ze8, zps, z1fn, z1fo, z1fp, z1fq, z1fr, z1fs, z1ft, z1fu, z1fv, z1fw, z1fx, z1fy, z1fz, z1g0, z1g1, z1g2⟩ := zpq
        have z1g3 := Fr.app z1fi z1fm
        have zpt := zpo.keep ze8 (allS z81 (allS z82 (allS z4g (allS z26 (allS z4f (allS z4e (allS z4d all0)))))))
        have z1g4 := z1fj.trans ze8 (allS (Or.inr ze3) (allS (Or.inr ze4) (allS (Or.inr zac) (allS (Or.inr z7w) (allS (Or.inr zab) (allS (Or.inr zaa) (allS (Or.inr za9) all0)))))))
        have zpu := (zpp.keep ze8 (ninS (Ne.symm (Nat.ne_of_lt (Nat.lt_trans (Nat.lt_trans zh zt) z15))) (ninS (Ne.symm (Nat.ne_of_lt (Nat.lt_trans zt z15))) (ninS (Ne.symm (Nat.ne_of_lt z15)) (ninS (Ne.symm (Nat.ne_of_lt za8)) (ninS (Ne.symm (Nat.ne_of_lt (Nat.lt_trans (Nat.lt_trans (Nat.lt_trans zb zh) zt) z15))) (ninS (Ne.symm (Nat.ne_of_lt (Nat.lt_trans (Nat.lt_trans (Nat.lt_trans (Nat.lt_trans zs zb) zh) zt) z15))) (ninS (Ne.symm (Nat.ne_of_lt (Nat.lt_trans (Nat.lt_trans (Nat.lt_trans (Nat.lt_trans (Nat.lt_trans z14 zs) zb) zh) zt) z15))) nin0))))))))
        obtain ⟨cq925, kq925, z1g5, z1o1, z1g6⟩ := isOf hZ rfl zps
        obtain ⟨_, _, ⟨zb3, L925, z1o2, n925⟩, -, zad, ⟨Lc925, zpv, l925, y925, z925⟩, zpw⟩ := z4i.virtualBack hx (y := own_m0) (z := own_m0) hown (mvT hZ (own_W hw 36 rfl)) (mvT hZ (own_W hw 37 rfl)) (notFace_of_selects (args := #[]) (mvT hZ (own_W hw 39 rfl))) (mvT hZ (own_W hw 39 rfl)) (mvT hZ (own_W hw 38 rfl)) (by decide) (backOf (W := 0) (rmA2n l Z a0 hw [] ze7.heap n0 A K (p1 % 3) (p2 % 3) (0 : Int32) (0 : Int64) ((0 : Int64) + (1 : Int64)) (0 : Int64) (0 : Int32) (1 : Int32) (0 : Int32) p4 p5 (0 : Int32) (0 : Int32) (1 : Int32) (0 : Int32) (((0 : Int64) + (1 : Int64)) + (1 : Int64)) (p3 % 3) p6 (2 : Int32) z5 z69 z6a z2w z2x z6b z6c z6d z7x z7y z54 z6k zb1 z7z z80 EN zpt z1fu z1fp z1fy z1ft zpu z1fq z1fz z1fr z1g0 z1fs z1g1 zps z1fn z1fw z1fv z1fo z1fx z1g2 z4u (Nat.ne_of_lt za6) (Nat.ne_of_lt zh) (Nat.ne_of_lt ze2) (Nat.ne_of_lt (Nat.lt_trans zh zt)) (Nat.ne_of_lt zt) (Nat.ne_of_lt za7) (Nat.ne_of_lt (Nat.lt_trans (Nat.lt_trans z14 zs) zb)) (Nat.ne_of_lt (Nat.lt_trans (Nat.lt_trans (Nat.lt_trans z14 zs) zb) zh)) (Nat.ne_of_lt (Nat.lt_trans (Nat.lt_trans (Nat.lt_trans (Nat.lt_trans z14 zs) zb) zh) zt)) (Nat.ne_of_lt za3) (Nat.ne_of_lt (Nat.lt_trans zs zb)) (Nat.ne_of_lt (Nat.lt_trans (Nat.lt_trans zs zb) zh)) (Nat.ne_of_lt (Nat.lt_trans (Nat.lt_trans (Nat.lt_trans zs zb) zh) zt)) (Nat.ne_of_lt za4) (Nat.ne_of_lt zb) (Nat.ne_of_lt (Nat.lt_trans zb zh)) (Nat.ne_of_lt (Nat.lt_trans (Nat.lt_trans zb zh) zt)) (Nat.ne_of_lt za5) (Nat.ne_of_lt z14) (Nat.ne_of_lt (Nat.lt_trans z14 zs)) (Nat.ne_of_lt zs) z81 z82 z4g z26 z4d z4e z4f) hZ (own_W hw 40 rfl) (own_W hw 6 rfl) (by decide) (by decide)) z1g5 z1g6 (g := (mkF m 167 #[.val (.int p1), .val (.int p2), .val (.int p3), .val (.int p4), .val (.int p5), .val (.int p6), .val (.int (p1 % 3)), .val (.int (p2 % 3)), .val (.int (p3 % 3)), .val (.int 0), .val (.int 1), .val (.int 2), .val (.ref z5), .unset, .unset, .unset] [.null, (.int 2), (.int p6), (.double (Jvm.FP.l2d ((p3 % 3).toInt64))), (.ref z5)])) rfl (by rw [hml]; rfl) (Steps.refl _) (argsL := [(.double (Jvm.FP.l2d ((p3 % 3).toInt64))), (.int p6), (.int 2), .null]) (rest := []) (lenOf own_pd7 rfl) rfl (by show 2 * 0 + _ ≤ _; exact Nat.le_of_eq rfl) (hb hby at_167) (fun _ _ => ⟨rfl, rfl, (by decide : 8 + 0 ≤ _), (by decide : 121 + 0 ≤ _)⟩)
        dsimp only [Pt.U, Pt.locs, Pt.cells, Pt.slots] at zad l925 y925 z925 zpw zpv
        replace zad := own_sub zad l925 y925 z925
        obtain ⟨rfl, z1g7, ze9, zea, z1g8, z1g9, zpx, zpy, z1ga, z1gb, z1gc, z1gd, z1ge, z1gf, z1gg, zpz, zq0, z1o3, z1gh, z1gi⟩ := zpv
        have z1gj := Fr.app z1g3 z1g7
        have zeb := zpt.keep ze9 (allS z81 (allS z82 (allS z4g (allS z26 (allS z4f (allS z4e (allS z4d all0)))))))
        have z1gk := z1g4.trans ze9 (allS (Or.inr ze3) (allS (Or.inr ze4) (allS (Or.inr zac) (allS (Or.inr z7w) (allS (Or.inr zab) (allS (Or.inr zaa) (allS (Or.inr za9) all0)))))))
        obtain ⟨cq926, kq926, z1gl, z1o4, z1gm⟩ := isOf hZ rfl zea
        obtain ⟨_, _, ⟨z1gn, L926, z1o5, n926⟩, -, z83, ⟨Lc926, zq1, l926, y926, z926⟩, zq2⟩ := zad.virtualBack hx (y := own_m1) (z := own_m1) hown (mvT hZ (own_W hw 49 rfl)) (mvT hZ (own_W hw 50 rfl)) (notFace_of_selects (args := #[]) (mvT hZ (own_W hw 52 rfl))) (mvT hZ (own_W hw 52 rfl)) (mvT hZ (own_W hw 51 rfl)) (by decide) (backOf (W := 0) (rmF0 l Z a0 hw [] zb3.heap n0 A K (0 : Int32) (1 : Int32) (2 : Int32) p4 p5 p6 z5 z2w z2x z54 z6k EN zeb zpy zpx zpz zq0) hZ (own_W hw 53 rfl) (own_W hw 6 rfl) (by decide) (by decide)) z1gl z1gm (g := (mkF m 172 #[.val (.int p1), .val (.int p2), .val (.int p3), .val (.int p4), .val (.int p5), .val (.int p6), .val (.int (p1 % 3)), .val (.int (p2 % 3)), .val (.int (p3 % 3)), .val (.int 0), .val (.int 1), .val (.int 2), .val (.ref z5), .unset, .unset, .unset] [(.ref z5)])) rfl (by rw [hml]; rfl) (Steps.refl _) (argsL := []) (rest := []) (lenOf own_pd8 rfl) rfl (by show 2 * 0 + _ ≤ _; exact Nat.le_of_eq rfl) (hb hby at_172) (fun _ _ => ⟨rfl, rfl, (by decide : 8 + 0 ≤ _), (by decide : 121 + 0 ≤ _)⟩)
        dsimp only [Pt.U, Pt.locs, Pt.cells, Pt.slots] at z83 l926 y926 z926 zq2 zq1
        replace z83 := own_sub z83 l926 y926 z926
        obtain ⟨rfl, z1go, zq3⟩ := zq1
        have z1gp := Fr.app z1gj z1go
        have z1gq := (zpu.keep ze9 (ninS (Ne.symm (Nat.ne_of_lt (Nat.lt_trans (Nat.lt_trans zh zt) z15))) (ninS (Ne.symm (Nat.ne_of_lt (Nat.lt_trans zt z15))) (ninS (Ne.symm (Nat.ne_of_lt z15)) (ninS (Ne.symm (Nat.ne_of_lt za8)) (ninS (Ne.symm (Nat.ne_of_lt (Nat.lt_trans (Nat.lt_trans (Nat.lt_trans zb zh) zt) z15))) (ninS (Ne.symm (Nat.ne_of_lt (Nat.lt_trans (Nat.lt_trans (Nat.lt_trans (Nat.lt_trans zs zb) zh) zt) z15))) (ninS (Ne.symm (Nat.ne_of_lt (Nat.lt_trans (Nat.lt_trans (Nat.lt_trans (Nat.lt_trans (Nat.lt_trans z14 zs) zb) zh) zt) z15))) nin0))))))))
        have z1gr : own_AM Z zb3.heap z6d z80 .int := ⟨_, _, z1gq⟩
        obtain ⟨cq929, kq929, z1gs, z1o6, z1gt⟩ := isOf hZ zq3 zea
        obtain ⟨_, _, ⟨zec, L929, z1o7, n929⟩, -, zae, ⟨Lc929, zq4, l929, y929, z929⟩, zq5⟩ := z83.virtualBack hx (y := own_m3) (z := own_m3) hown (mvT hZ (own_W hw 54 rfl)) (mvT hZ (own_W hw 55 rfl)) (notFace_of_selects (args := #[]) (mvT hZ (own_W hw 57 rfl))) (mvT hZ (own_W hw 57 rfl)) (mvT hZ (own_W hw 56 rfl)) (by decide) (backOf (W := 0) (rmR3y l Z a0 hw [] zb3.heap n0 A K (p1 % 3) (p2 % 3) (p3 % 3) (0 : Int64) ((0 : Int64) + (1 : Int64)) (((0 : Int64) + (1 : Int64)) + (1 : Int64)) (0 : Int32) (1 : Int32) (2 : Int32) (0 : Int32) (0 : Int32) (0 : Int32) (0 : Int32) (0 : Int32) (0 : Int32) ((((0 : Int64) + (1 : Int64)) + (1 : Int64)) + (1 : Int64)) z5 z69 z6a z2w z2x z6b z6c z6d z7x z7y z54 z7z z80 EN zeb zpx zpz z1gb z1gh z1gc z1gd z1gr zea z1g8 z1gf z1g9 z1gg zpy z1ga z1ge z1gi (by decide) (by decide) (own_ib_y2 z7m (by decide)) (Nat.ne_of_lt za7) (Nat.ne_of_lt (Nat.lt_trans (Nat.lt_trans zb zh) zt)) (Nat.ne_of_lt z15) (Nat.ne_of_lt za8) (Nat.ne_of_lt (Nat.lt_trans (Nat.lt_trans (Nat.lt_trans (Nat.lt_trans z14 zs) zb) zh) zt)) (Nat.ne_of_lt (Nat.lt_trans (Nat.lt_trans (Nat.lt_trans (Nat.lt_trans (Nat.lt_trans z14 zs) zb) zh) zt) z15)) (Nat.ne_of_lt za3) (Nat.ne_of_lt (Nat.lt_trans (Nat.lt_trans (Nat.lt_trans zs zb) zh) zt)) (Nat.ne_of_lt (Nat.lt_trans (Nat.lt_trans (Nat.lt_trans (Nat.lt_trans zs zb) zh) zt) z15)) (Nat.ne_of_lt za4) (Nat.ne_of_lt (Nat.lt_trans (Nat.lt_trans (Nat.lt_trans zb zh) zt) z15)) (Nat.ne_of_lt za5) (Nat.ne_of_lt z14) (Nat.ne_of_lt (Nat.lt_trans z14 zs)) (Nat.ne_of_lt zs) z4g zb2 z26 z4d z4e z4f) hZ (own_W hw 58 rfl) (own_W hw 6 rfl) (by decide) (by decide)) z1gs z1gt (g := (mkF m 179 #[.val (.int p1), .val (.int p2), .val (.int p3), .val (.int p4), .val (.int p5), .val (.int p6), .val (.int (p1 % 3)), .val (.int (p2 % 3)), .val (.int (p3 % 3)), .val (.int 0), .val (.int 1), .val (.int 2), .val (.ref z5), .val (.int p4), .unset, .unset] [(.ref z5)])) rfl (by rw [hml]; rfl) (Steps.refl _) (argsL := []) (rest := []) (lenOf own_pd6 rfl) rfl (by show 2 * 0 + _ ≤ _; exact Nat.le_of_eq rfl) (hb hby at_179) (fun _ _ => ⟨rfl, zq3, (by decide : 8 + 0 ≤ _), (by decide : 121 + 0 ≤ _)⟩)
        dsimp only [Pt.U, Pt.locs, Pt.cells, Pt.slots] at zae l929 y929 z929 zq5 zq4
        replace zae := own_sub zae l929 y929 z929
        obtain ⟨rfl, z1gu, zed, zee, z1gv, z1gw, zq6, zq7, z1gx, z1gy, z1gz, z1h0, z1h1, z1h2, z1h3, zq8, z1h4, z1h5, z1h6⟩ := zq4
        have z1h7 := Fr.app z1gp z1gu
        have zef := zeb.keep zed (allS z4g (allS zb2 (allS z26 (allS z4d (allS z4e (allS z4f all0))))))
        have z1h8 := z1gk.trans zed (allS (Or.inr zac) (allS (Or.inr zpj) (allS (Or.inr z7w) (allS (Or.inr za9) (allS (Or.inr zaa) (allS (Or.inr zab) all0))))))
        have zq9 := (zq0.keep zed (ninS (Nat.ne_of_lt (Nat.lt_trans zh zt)) (ninS (Nat.ne_of_lt (Nat.lt_trans (Nat.lt_trans zh zt) z15)) (ninS (Ne.symm (Nat.ne_of_lt za6)) (ninS (Ne.symm (Nat.ne_of_lt (Nat.lt_trans (Nat.lt_trans z14 zs) zb))) (ninS (Ne.symm (Nat.ne_of_lt (Nat.lt_trans zs zb))) (ninS (Ne.symm (Nat.ne_of_lt zb)) nin0)))))))
        obtain ⟨cq931, kq931, z1h9, z1o8, z1ha⟩ := isOf hZ rfl zee
        obtain ⟨_, _, ⟨z1hb, L931, z1o9, n931⟩, -, z84, ⟨Lc931, zqa, l931, y931, z931⟩, zqb⟩ := zae.virtualBack hx (y := own_m1) (z := own_m1) hown (mvT hZ (own_W hw 49 rfl)) (mvT hZ (own_W hw 50 rfl)) (notFace_of_selects (args := #[]) (mvT hZ (own_W hw 52 rfl))) (mvT hZ (own_W hw 52 rfl)) (mvT hZ (own_W hw 51 rfl)) (by decide) (backOf (W := 0) (rmF1 l Z a0 hw [] zec.heap n0 A K (0 : Int32) (2 : Int32) (2 : Int32) p4 p5 p6 z5 z2w z2x z54 z6k EN zef zq7 zq6 zq8 zq9) hZ (own_W hw 53 rfl) (own_W hw 6 rfl) (by decide) (by decide)) z1h9 z1ha (g := (mkF m 184 #[.val (.int p1), .val (.int p2), .val (.int p3), .val (.int p4), .val (.int p5), .val (.int p6), .val (.int (p1 % 3)), .val (.int (p2 % 3)), .val (.int (p3 % 3)), .val (.int 0), .val (.int 1), .val (.int 2), .val (.ref z5), .val (.int p4), .unset, .unset] [(.ref z5)])) rfl (by rw [hml]; rfl) (Steps.refl _) (argsL := []) (rest := []) (lenOf own_pd8 rfl) rfl (by show 2 * 0 + _ ≤ _; exact Nat.le_of_eq rfl) (hb hby at_184) (fun _ _ => ⟨rfl, rfl, (by decide : 8 + 0 ≤ _), (by decide : 121 + 0 ≤ _)⟩)
        dsimp only [Pt.U, Pt.locs, Pt.cells, Pt.slots] at z84 l931 y931 z931 zqb zqa
        replace z84 := own_sub z84 l931 y931 z931
        obtain ⟨rfl, z1hc, zqc⟩ := zqa
        have z1hd := Fr.app z1h7 z1hc
        obtain ⟨cq932, kq932, z1he, z1oa, z1hf⟩ := isOf hZ zqc zee
        obtain ⟨_, _, ⟨zaf, L932, z1ob, n932⟩, -, zag, ⟨Lc932, zqd, l932, y932, z932⟩, zqe⟩ := z84.virtualBack hx (y := own_m3) (z := own_m3) hown (mvT hZ (own_W hw 54 rfl)) (mvT hZ (own_W hw 55 rfl)) (notFace_of_selects (args := #[]) (mvT hZ (own_W hw 57 rfl))) (mvT hZ (own_W hw 57 rfl)) (mvT hZ (own_W hw 56 rfl)) (by decide) (backOf (W := 0) (rmR2 l Z a0 hw [] zec.heap n0 A K (p2 % 3) (p3 % 3) (p3 % 3) ((0 : Int64) + (1 : Int64)) (((0 : Int64) + (1 : Int64)) + (1 : Int64)) (((0 : Int64) + (1 : Int64)) + (1 : Int64)) (1 : Int32) (2 : Int32) (2 : Int32) (0 : Int32) (0 : Int32) (0 : Int32) (0 : Int32) (0 : Int32) (0 : Int32) ((((0 : Int64) + (1 : Int64)) + (1 : Int64)) + (1 : Int64)) z5 z69 z6a z2w z2x z6b z6c z6d z7x z7y z54 z7z z80 EN zef zq6 zq8 z1gy z1h4 z1gz z1h0 z1h6 zee z1gv z1h2 z1gw z1h3 zq7 z1gx z1h1 z1h5 (by decide) (by decide) (Nat.ne_of_lt za7) (Nat.ne_of_lt (Nat.lt_trans (Nat.lt_trans zb zh) zt)) (Nat.ne_of_lt z15) (Nat.ne_of_lt za8) (Nat.ne_of_lt (Nat.lt_trans (Nat.lt_trans (Nat.lt_trans (Nat.lt_trans z14 zs) zb) zh) zt)) (Nat.ne_of_lt (Nat.lt_trans (Nat.lt_trans (Nat.lt_trans (Nat.lt_trans (Nat.lt_trans z14 zs) zb) zh) zt) z15)) (Nat.ne_of_lt za3) (Nat.ne_of_lt (Nat.lt_trans (Nat.lt_trans (Nat.lt_trans zs zb) zh) zt)) (Nat.ne_of_lt (Nat.lt_trans (Nat.lt_trans (Nat.lt_trans (Nat.lt_trans zs zb) zh) zt) z15)) (Nat.ne_of_lt za4) (Nat.ne_of_lt (Nat.lt_trans (Nat.lt_trans (Nat.lt_trans zb zh) zt) z15)) (Nat.ne_of_lt za5) (Nat.ne_of_lt z14) (Nat.ne_of_lt (Nat.lt_trans z14 zs)) (Nat.ne_of_lt zs) z4g zb2 z26 z4d z4e z4f) hZ (own_W hw 58 rfl) (own_W hw 6 rfl) (by decide) (by decide)) z1he z1hf (g := (mkF m 191 #[.val (.int p1), .val (.int p2), .val (.int p3), .val (.int p4), .val (.int p5), .val (.int p6), .val (.int (p1 % 3)), .val (.int (p2 % 3)), .val (.int (p3 % 3)), .val (.int 0), .val (.int 1), .val (.int 2), .val (.ref z5), .val (.int p4), .val (.int p5), .unset] [(.ref z5)])) rfl (by rw [hml]; rfl) (Steps.refl _) (argsL := []) (rest := []) (lenOf own_pd6 rfl) rfl (by show 2 * 0 + _ ≤ _; exact Nat.le_of_eq rfl) (hb hby at_191) (fun _ _ => ⟨rfl, zqc, (by decide : 8 + 0 ≤ _), (by decide : 121 + 0 ≤ _)⟩)
        dsimp only [Pt.U, Pt.locs, Pt.cells, Pt.slots] at zag l932 y932 z932 zqe zqd
        replace zag := own_sub zag l932 y932 z932
        obtain ⟨rfl, z1hg, zeg, z1hh, z1oc, z1od, z1hi, z1hj, z1oe, z1of, z1og, z1oh, z1oi, z1oj, z1ok, z1hk, z1ol, z1om, z1on⟩ := zqd
        have z1hl := Fr.app z1hd z1hg
        have zb4 := zef.keep zeg (allS z4g (allS zb2 (allS z26 (allS z4f (allS z4e (allS z4d all0))))))
        have z1oo := z1h8.trans zeg (allS (Or.inr zac) (allS (Or.inr zpj) (allS (Or.inr z7w) (allS (Or.inr zab) (allS (Or.inr zaa) (allS (Or.inr za9) all0))))))
        have z1hm := (zq9.keep zeg (ninS (Nat.ne_of_lt (Nat.lt_trans zh zt)) (ninS (Nat.ne_of_lt (Nat.lt_trans (Nat.lt_trans zh zt) z15)) (ninS (Ne.symm (Nat.ne_of_lt za6)) (ninS (Ne.symm (Nat.ne_of_lt zb)) (ninS (Ne.symm (Nat.ne_of_lt (Nat.lt_trans zs zb))) (ninS (Ne.symm (Nat.ne_of_lt (Nat.lt_trans (Nat.lt_trans z14 zs) zb))) nin0)))))))
        obtain ⟨cq934, kq934, z1hn, z1op, z1ho⟩ := isOf hZ rfl z1hh
        obtain ⟨_, _, ⟨z1hp, L934, z1oq, n934⟩, -, z1s, ⟨Lc934, zqf, l934, y934, z934⟩, zqg⟩ := zag.virtualBack hx (y := own_m1) (z := own_m1) hown (mvT hZ (own_W hw 49 rfl)) (mvT hZ (own_W hw 50 rfl)) (notFace_of_selects (args := #[]) (mvT hZ (own_W hw 52 rfl))) (mvT hZ (own_W hw 52 rfl)) (mvT hZ (own_W hw 51 rfl)) (by decide) (backOf (W := 0) (rmF2 l Z a0 hw [] zaf.heap n0 A K (0 : Int32) (2 : Int32) (2 : Int32) p4 p5 p6 z5 z2w z2x z54 z6k EN zb4 z1hj z1hi z1hk z1hm) hZ (own_W hw 53 rfl) (own_W hw 6 rfl) (by decide) (by decide)) z1hn z1ho (g := (mkF m 196 #[.val (.int p1), .val (.int p2), .val (.int p3), .val (.int p4), .val (.int p5), .val (.int p6), .val (.int (p1 % 3)), .val (.int (p2 % 3)), .val (.int (p3 % 3)), .val (.int 0), .val (.int 1), .val (.int 2), .val (.ref z5), .val (.int p4), .val (.int p5), .unset] [(.ref z5)])) rfl (by rw [hml]; rfl) (Steps.refl _) (argsL := []) (rest := []) (lenOf own_pd8 rfl) rfl (by show 2 * 0 + _ ≤ _; exact Nat.le_of_eq rfl) (hb hby at_196) (fun _ _ => ⟨rfl, rfl, (by decide : 8 + 0 ≤ _), (by decide : 121 + 0 ≤ _)⟩)
        dsimp only [Pt.U, Pt.locs, Pt.cells, Pt.slots] at z1s l934 y934 z934 zqg zqf
        replace z1s := own_sub z1s l934 y934 z934
        obtain ⟨rfl, z1hq, z1hr⟩ := zqf
        have z1hs := Fr.app z1hl z1hq
        obtain ⟨_, _, ⟨zqh, L935, z1or, n935⟩, -, z1t, ⟨Lc935, zqi, l935, y935, z935⟩, zqj⟩ := Jvm.LawKit.callS z1s hx (y := own_m5) hown (mvT hZ (own_W hw 70 rfl)) (mvT hZ (own_W hw 71 rfl)) (mvT hZ (own_W hw 2 rfl)) (mvT hZ (own_W hw 72 rfl)) (by decide) (backOf (W := 1) (rmK0 l Z a0 hw [] zaf.heap n0 A K (0 : Int32) (0 : Int32) (1 : Int32) (2 : Int32) p4 p5 p6 EN zb4 (by decide)) hZ (own_W hw 72 rfl) (own_W hw 2 rfl) (by decide) (by decide)) (g := (mkF m 215 #[.val (.int p1), .val (.int p2), .val (.int p3), .val (.int p4), .val (.int p5), .val (.int p6), .val (.int (p1 % 3)), .val (.int (p2 % 3)), .val (.int (p3 % 3)), .val (.int 0), .val (.int 1), .val (.int 2), .val (.ref z5), .val (.int p4), .val (.int p5), .val (.int p6)] [(.int p6), (.int p5), (.int p4), (.int 2), (.int 1), (.int 0), (.int 0), (.int p4)])) rfl (by rw [hml]; rfl) (argsL := [(.int 0), (.int 0), (.int 1), (.int 2), (.int p4), (.int p5), (.int p6)]) (rest := [(.int p4)]) (lenOf own_pd9 rfl) rfl (by show 2 * 0 + _ ≤ _; exact Nat.le_of_eq rfl) (hb hby at_215) (fun _ _ => ⟨rfl, z1hr, (by decide : 8 + 0 ≤ _), (by decide : 121 + 0 ≤ _)⟩)
        dsimp only [Pt.U, Pt.locs, Pt.cells, Pt.slots] at z1t l935 y935 z935 zqj zqi
        replace z1t := own_sub z1t l935 y935 z935
        obtain ⟨rfl, z1ht, z1hu⟩ := zqi
        have z1hv := Fr.app z1hs z1ht
        obtain ⟨_, _, ⟨zqk, L936, z1os, n936⟩, -, z1u, ⟨Lc936, zql, l936, y936, z936⟩, zqm⟩ := Jvm.LawKit.callS z1t hx (y := own_m5) hown (mvT hZ (own_W hw 70 rfl)) (mvT hZ (own_W hw 71 rfl)) (mvT hZ (own_W hw 2 rfl)) (mvT hZ (own_W hw 72 rfl)) (by decide) (backOf (W := 1) (rmK1 l Z a0 hw [] zaf.heap n0 A K (1 : Int32) (0 : Int32) (1 : Int32) (2 : Int32) p4 p5 p6 EN zb4 (by decide) (by decide)) hZ (own_W hw 72 rfl) (own_W hw 2 rfl) (by decide) (by decide)) (g := (mkF m 235 #[.val (.int p1), .val (.int p2), .val (.int p3), .val (.int p4), .val (.int p5), .val (.int p6), .val (.int (p1 % 3)), .val (.int (p2 % 3)), .val (.int (p3 % 3)), .val (.int 0), .val (.int 1), .val (.int 2), .val (.ref z5), .val (.int p4), .val (.int p5), .val (.int p6)] [(.int p6), (.int p5), (.int p4), (.int 2), (.int 1), (.int 0), (.int 1), (.int p5)])) rfl (by rw [hml]; rfl) (argsL := [(.int 1), (.int 0), (.int 1), (.int 2), (.int p4), (.int p5), (.int p6)]) (rest := [(.int p5)]) (lenOf own_pd9 rfl) rfl (by show 2 * 0 + _ ≤ _; exact Nat.le_of_eq rfl) (hb hby at_235) (fun _ _ => ⟨rfl, z1hu, (by decide : 8 + 0 ≤ _), (by decide : 121 + 0 ≤ _)⟩)
        dsimp only [Pt.U, Pt.locs, Pt.cells, Pt.slots] at z1u l936 y936 z936 zqm zql
        replace z1u := own_sub z1u l936 y936 z936
        obtain ⟨rfl, z1hw, z1hx⟩ := zql
        have z1hy := Fr.app z1hv z1hw
        obtain ⟨_, _, ⟨zeh, L937, z1ot, n937⟩, -, z6e, ⟨Lc937, zqn, l937, y937, z937⟩, zqo⟩ := Jvm.LawKit.callS z1u hx (y := own_m5) hown (mvT hZ (own_W hw 70 rfl)) (mvT hZ (own_W hw 71 rfl)) (mvT hZ (own_W hw 2 rfl)) (mvT hZ (own_W hw 72 rfl)) (by decide) (backOf (W := 1) (rmK2 l Z a0 hw [] zaf.heap n0 A K (2 : Int32) (0 : Int32) (1 : Int32) (2 : Int32) p4 p5 p6 EN zb4 (by decide) (by decide)) hZ (own_W hw 72 rfl) (own_W hw 2 rfl) (by decide) (by decide)) (g := (mkF m 255 #[.val (.int p1), .val (.int p2), .val (.int p3), .val (.int p4), .val (.int p5), .val (.int p6), .val (.int (p1 % 3)), .val (.int (p2 % 3)), .val (.int (p3 % 3)), .val (.int 0), .val (.int 1), .val (.int 2), .val (.ref z5), .val (.int p4), .val (.int p5), .val (.int p6)] [(.int p6), (.int p5), (.int p4), (.int 2), (.int 1), (.int 0), (.int 2), (.int p6)])) rfl (by rw [hml]; rfl) (argsL := [(.int 2), (.int 0), (.int 1), (.int 2), (.int p4), (.int p5), (.int p6)]) (rest := [(.int p6)]) (lenOf own_pd9 rfl) rfl (by show 2 * 0 + _ ≤ _; exact Nat.le_of_eq rfl) (hb hby at_255) (fun _ _ => ⟨rfl, z1hx, (by decide : 8 + 0 ≤ _), (by decide : 121 + 0 ≤ _)⟩)
        dsimp only [Pt.U, Pt.locs, Pt.cells, Pt.slots] at z6e l937 y937 z937 zqo zqn
        replace z6e := own_sub z6e l937 y937 z937
        obtain ⟨rfl, z1hz, z1ou⟩ := zqn
        have z1i0 := Fr.app z1hy z1hz
        obtain ⟨fs, hr, hrun, hended, hW, hsame⟩ := z6e.leave (v := some (.int 1)) (fun h => by rw [Bd.returns] at h; cases h)
        refine ⟨_, _, pre0 _ ?_, hrun, hended, _, _, rfl, ?_, ⟨_, rfl⟩, hW, hsame.mono (by decide) (by decide)⟩
        · show Steps p.tables e below (s₁.setTop (mkF m 0 #[.val (.int p1), .val (.int p2), .val (.int p3), .val (.int p4), .val (.int p5), .val (.int p6), .unset, .unset, .unset, .unset, .unset, .unset, .unset, .unset, .unset, .unset] [])) _
          refine XS.iloadN X0.here hx rfl (hb hby at_0) rfl ?_
          refine XS.iconst X0.here hx rfl (hb hby at_1) ?_
          refine iremM X0 hx rfl (hb hby at_2) rfl (by decide) ?_
          show Steps p.tables e below (s₁.setTop (mkF m 3 #[.val (.int p1), .val (.int p2), .val (.int p3), .val (.int p4), .val (.int p5), .val (.int p6), .unset, .unset, .unset, .unset, .unset, .unset, .unset, .unset, .unset, .unset] [(.int (p1 % 3))])) _
          refine XS.istore X0.here hx rfl (hb hby at_3) rfl (l' := #[.val (.int p1), .val (.int p2), .val (.int p3), .val (.int p4), .val (.int p5), .val (.int p6), .val (.int (p1 % 3)), .unset, .unset, .unset, .unset, .unset, .unset, .unset, .unset, .unset]) rfl ?_
          refine XS.iloadN X0.here hx rfl (hb hby at_5) rfl ?_
          refine XS.iconst X0.here hx rfl (hb hby at_6) ?_
          refine iremM X0 hx rfl (hb hby at_7) rfl (by decide) ?_
          show Steps p.tables e below (s₁.setTop (mkF m 8 #[.val (.int p1), .val (.int p2), .val (.int p3), .val (.int p4), .val (.int p5), .val (.int p6), .val (.int (p1 % 3)), .unset, .unset, .unset, .unset, .unset, .unset, .unset, .unset, .unset] [(.int (p2 % 3))])) _
          refine XS.istore X0.here hx rfl (hb hby at_8) rfl (l' := #[.val (.int p1), .val (.int p2), .val (.int p3), .val (.int p4), .val (.int p5), .val (.int p6), .val (.int (p1 % 3)), .val (.int (p2 % 3)), .unset, .unset, .unset, .unset, .unset, .unset, .unset, .unset]) rfl ?_
          refine XS.iloadN X0.here hx rfl (hb hby at_10) rfl ?_
          refine XS.iconst X0.here hx rfl (hb hby at_11) ?_
          refine iremM X0 hx rfl (hb hby at_12) rfl (by decide) ?_
          show Steps p.tables e below (s₁.setTop (mkF m 13 #[.val (.int p1), .val (.int p2), .val (.int p3), .val (.int p4), .val (.int p5), .val (.int p6), .val (.int (p1 % 3)), .val (.int (p2 % 3)), .unset, .unset, .unset, .unset, .unset, .unset, .unset, .unset] [(.int (p3 % 3))])) _
          refine XS.istore X0.here hx rfl (hb hby at_13) rfl (l' := #[.val (.int p1), .val (.int p2), .val (.int p3), .val (.int p4), .val (.int p5), .val (.int p6), .val (.int (p1 % 3)), .val (.int (p2 % 3)), .val (.int (p3 % 3)), .unset, .unset, .unset, .unset, .unset, .unset, .unset]) rfl ?_
          refine XS.iload X0.here hx rfl (hb hby at_15) rfl ?_
          refine XS.iconst X0.here hx rfl (hb hby at_17) ?_
          refine XS.iload X0.here hx rfl (hb hby at_18) rfl ?_
          refine XS.iconst X0.here hx rfl (hb hby at_20) ?_
          refine zoq _ ?_
          show Steps p.tables e below (zoo.setTop (mkF m 24 #[.val (.int p1), .val (.int p2), .val (.int p3), .val (.int p4), .val (.int p5), .val (.int p6), .val (.int (p1 % 3)), .val (.int (p2 % 3)), .val (.int (p3 % 3)), .unset, .unset, .unset, .unset, .unset, .unset, .unset] [(.int (own_f_rmB (p2 % 3) (1 : Int32) (p1 % 3) (0 : Int32)))])) _
          refine XS.ifYes z4a.here hx rfl (pc0 := 24) (pc' := 31) rfl (hb hby at_24) rfl ((if0 _ _).trans (teq (own_bf_n2 z16 (by decide))).1) (by decide) (by decide) ?_
          show Steps p.tables e below (zoo.setTop (mkF m 31 #[.val (.int p1), .val (.int p2), .val (.int p3), .val (.int p4), .val (.int p5), .val (.int p6), .val (.int (p1 % 3)), .val (.int (p2 % 3)), .val (.int (p3 % 3)), .unset, .unset, .unset, .unset, .unset, .unset, .unset] [])) _
          refine XS.iconst z4a.here hx rfl (hb hby at_31) ?_
          refine XS.iload z4a.here hx rfl (hb hby at_32) rfl ?_
          refine XS.iconst z4a.here hx rfl (hb hby at_34) ?_
          refine XS.iload z4a.here hx rfl (hb hby at_35) rfl ?_
          refine XS.iconst z4a.here hx rfl (hb hby at_37) ?_
          refine zos _ ?_
          show Steps p.tables e below (zdy.setTop (mkF m 41 #[.val (.int p1), .val (.int p2), .val (.int p3), .val (.int p4), .val (.int p5), .val (.int p6), .val (.int (p1 % 3)), .val (.int (p2 % 3)), .val (.int (p3 % 3)), .unset, .unset, .unset, .unset, .unset, .unset, .unset] [(.int (own_f_rmB (p3 % 3) (2 : Int32) (p1 % 3) (0 : Int32))), (.int 0)])) _
          refine XS.ifYes z24.here hx rfl (pc0 := 41) (pc' := 48) rfl (hb hby at_41) rfl ((if0 _ _).trans (teq (own_bf_n2 z4u (by decide))).1) (by decide) (by decide) ?_
          show Steps p.tables e below (zdy.setTop (mkF m 48 #[.val (.int p1), .val (.int p2), .val (.int p3), .val (.int p4), .val (.int p5), .val (.int p6), .val (.int (p1 % 3)), .val (.int (p2 % 3)), .val (.int (p3 % 3)), .unset, .unset, .unset, .unset, .unset, .unset, .unset] [(.int 0)])) _
          refine XS.iconst z24.here hx rfl (hb hby at_48) ?_
          refine XS.iadd z24.here hx rfl (hb hby at_49) rfl ?_
          show Steps p.tables e below (zdy.setTop (mkF m 50 #[.val (.int p1), .val (.int p2), .val (.int p3), .val (.int p4), .val (.int p5), .val (.int p6), .val (.int (p1 % 3)), .val (.int (p2 % 3)), .val (.int (p3 % 3)), .unset, .unset, .unset, .unset, .unset, .unset, .unset] [(.int 0)])) _
          refine XS.istore z24.here hx rfl (hb hby at_50) rfl (l' := #[.val (.int p1), .val (.int p2), .val (.int p3), .val (.int p4), .val (.int p5), .val (.int p6), .val (.int (p1 % 3)), .val (.int (p2 % 3)), .val (.int (p3 % 3)), .val (.int 0), .unset, .unset, .unset, .unset, .unset, .unset]) rfl ?_
          refine XS.iload z24.here hx rfl (hb hby at_52) rfl ?_
          refine XS.iconst z24.here hx rfl (hb hby at_54) ?_
          refine XS.iload z24.here hx rfl (hb hby at_55) rfl ?_
          refine XS.iconst z24.here hx rfl (hb hby at_57) ?_
          refine zov _ ?_
          show Steps p.tables e below (zot.setTop (mkF m 61 #[.val (.int p1), .val (.int p2), .val (.int p3), .val (.int p4), .val (.int p5), .val (.int p6), .val (.int (p1 % 3)), .val (.int (p2 % 3)), .val (.int (p3 % 3)), .val (.int 0), .unset, .unset, .unset, .unset, .unset, .unset] [(.int (own_f_rmB (p1 % 3) (0 : Int32) (p2 % 3) (1 : Int32)))])) _
          refine XS.ifNo z2t.here hx rfl (hb hby at_61) rfl ((if0 _ _).trans (feq (own_bf_y2 z16 (by decide))).1) ?_
          show Steps p.tables e below (zot.setTop (mkF m 64 #[.val (.int p1), .val (.int p2), .val (.int p3), .val (.int p4), .val (.int p5), .val (.int p6), .val (.int (p1 % 3)), .val (.int (p2 % 3)), .val (.int (p3 % 3)), .val (.int 0), .unset, .unset, .unset, .unset, .unset, .unset] [])) _
          refine XS.iconst z2t.here hx rfl (hb hby at_64) ?_
          refine XS.goto z2t.here hx rfl (pc0 := 65) (pc' := 69) rfl (hb hby at_65) (by decide) (by decide) ?_
          refine XS.iload z2t.here hx rfl (hb hby at_69) rfl ?_
          refine XS.iconst z2t.here hx rfl (hb hby at_71) ?_
          refine XS.iload z2t.here hx rfl (hb hby at_72) rfl ?_
          refine XS.iconst z2t.here hx rfl (hb hby at_74) ?_
          refine zox _ ?_
          show Steps p.tables e below (zdz.setTop (mkF m 78 #[.val (.int p1), .val (.int p2), .val (.int p3), .val (.int p4), .val (.int p5), .val (.int p6), .val (.int (p1 % 3)), .val (.int (p2 % 3)), .val (.int (p3 % 3)), .val (.int 0), .unset, .unset, .unset, .unset, .unset, .unset] [(.int (own_f_rmB (p3 % 3) (2 : Int32) (p2 % 3) (1 : Int32))), (.int 1)])) _
          refine XS.ifYes z25.here hx rfl (pc0 := 78) (pc' := 85) rfl (hb hby at_78) rfl ((if0 _ _).trans (teq (own_bf_n2 z7m (by decide))).1) (by decide) (by decide) ?_
          show Steps p.tables e below (zdz.setTop (mkF m 85 #[.val (.int p1), .val (.int p2), .val (.int p3), .val (.int p4), .val (.int p5), .val (.int p6), .val (.int (p1 % 3)), .val (.int (p2 % 3)), .val (.int (p3 % 3)), .val (.int 0), .unset, .unset, .unset, .unset, .unset, .unset] [(.int 1)])) _
          refine XS.iconst z25.here hx rfl (hb hby at_85) ?_
          refine XS.iadd z25.here hx rfl (hb hby at_86) rfl ?_
          show Steps p.tables e below (zdz.setTop (mkF m 87 #[.val (.int p1), .val (.int p2), .val (.int p3), .val (.int p4), .val (.int p5), .val (.int p6), .val (.int (p1 % 3)), .val (.int (p2 % 3)), .val (.int (p3 % 3)), .val (.int 0), .unset, .unset, .unset, .unset, .unset, .unset] [(.int 1)])) _
          refine XS.istore z25.here hx rfl (hb hby at_87) rfl (l' := #[.val (.int p1), .val (.int p2), .val (.int p3), .val (.int p4), .val (.int p5), .val (.int p6), .val (.int (p1 % 3)), .val (.int (p2 % 3)), .val (.int (p3 % 3)), .val (.int 0), .val (.int 1), .unset, .unset, .unset, .unset, .unset]) rfl ?_
          refine XS.iload z25.here hx rfl (hb hby at_89) rfl ?_
          refine XS.iconst z25.here hx rfl (hb hby at_91) ?_
          refine XS.iload z25.here hx rfl (hb hby at_92) rfl ?_
          refine XS.iconst z25.here hx rfl (hb hby at_94) ?_
          refine zp0 _ ?_
          show Steps p.tables e below (zoy.setTop (mkF m 98 #[.val (.int p1), .val (.int p2), .val (.int p3), .val (.int p4), .val (.int p5), .val (.int p6), .val (.int (p1 % 3)), .val (.int (p2 % 3)), .val (.int (p3 % 3)), .val (.int 0), .val (.int 1), .unset, .unset, .unset, .unset, .unset] [(.int (own_f_rmB (p1 % 3) (0 : Int32) (p3 % 3) (2 : Int32)))])) _
          refine XS.ifNo z2u.here hx rfl (hb hby at_98) rfl ((if0 _ _).trans (feq (own_bf_y2 z4u (by decide))).1) ?_
          show Steps p.tables e below (zoy.setTop (mkF m 101 #[.val (.int p1), .val (.int p2), .val (.int p3), .val (.int p4), .val (.int p5), .val (.int p6), .val (.int (p1 % 3)), .val (.int (p2 % 3)), .val (.int (p3 % 3)), .val (.int 0), .val (.int 1), .unset, .unset, .unset, .unset, .unset] [])) _
          refine XS.iconst z2u.here hx rfl (hb hby at_101) ?_
          refine XS.goto z2u.here hx rfl (pc0 := 102) (pc' := 106) rfl (hb hby at_102) (by decide) (by decide) ?_
          refine XS.iload z2u.here hx rfl (hb hby at_106) rfl ?_
          refine XS.iconst z2u.here hx rfl (hb hby at_108) ?_
          refine XS.iload z2u.here hx rfl (hb hby at_109) rfl ?_
          refine XS.iconst z2u.here hx rfl (hb hby at_111) ?_
          refine zp2 _ ?_
          show Steps p.tables e below (ze0.setTop (mkF m 115 #[.val (.int p1), .val (.int p2), .val (.int p3), .val (.int p4), .val (.int p5), .val (.int p6), .val (.int (p1 % 3)), .val (.int (p2 % 3)), .val (.int (p3 % 3)), .val (.int 0), .val (.int 1), .unset, .unset, .unset, .unset, .unset] [(.int (own_f_rmB (p2 % 3) (1 : Int32) (p3 % 3) (2 : Int32))), (.int 1)])) _
          refine XS.ifNo z51.here hx rfl (hb hby at_115) rfl ((if0 _ _).trans (feq (own_bf_y2 z7m (by decide))).1) ?_
          show Steps p.tables e below (ze0.setTop (mkF m 118 #[.val (.int p1), .val (.int p2), .val (.int p3), .val (.int p4), .val (.int p5), .val (.int p6), .val (.int (p1 % 3)), .val (.int (p2 % 3)), .val (.int (p3 % 3)), .val (.int 0), .val (.int 1), .unset, .unset, .unset, .unset, .unset] [(.int 1)])) _
          refine XS.iconst z51.here hx rfl (hb hby at_118) ?_
          refine XS.goto z51.here hx rfl (pc0 := 119) (pc' := 123) rfl (hb hby at_119) (by decide) (by decide) ?_
          refine XS.iadd z51.here hx rfl (hb hby at_123) rfl ?_
          show Steps p.tables e below (ze0.setTop (mkF m 124 #[.val (.int p1), .val (.int p2), .val (.int p3), .val (.int p4), .val (.int p5), .val (.int p6), .val (.int (p1 % 3)), .val (.int (p2 % 3)), .val (.int (p3 % 3)), .val (.int 0), .val (.int 1), .unset, .unset, .unset, .unset, .unset] [(.int 2)])) _
          refine XS.istore z51.here hx rfl (hb hby at_124) rfl (l' := #[.val (.int p1), .val (.int p2), .val (.int p3), .val (.int p4), .val (.int p5), .val (.int p6), .val (.int (p1 % 3)), .val (.int (p2 % 3)), .val (.int (p3 % 3)), .val (.int 0), .val (.int 1), .val (.int 2), .unset, .unset, .unset, .unset]) rfl ?_
          refine zp5 _ ?_
          show Steps p.tables e below (z1dz.setTop (mkF m 129 #[.val (.int p1), .val (.int p2), .val (.int p3), .val (.int p4), .val (.int p5), .val (.int p6), .val (.int (p1 % 3)), .val (.int (p2 % 3)), .val (.int (p3 % 3)), .val (.int 0), .val (.int 1), .val (.int 2), .unset, .unset, .unset, .unset] [(.ref z5)])) _
          refine XS.dup zp3.here hx rfl (hb hby at_129) rfl rfl ?_
          refine zp8.trans ?_
          show Steps p.tables e below (z53.setTop (mkF m 133 #[.val (.int p1), .val (.int p2), .val (.int p3), .val (.int p4), .val (.int p5), .val (.int p6), .val (.int (p1 % 3)), .val (.int (p2 % 3)), .val (.int (p3 % 3)), .val (.int 0), .val (.int 1), .val (.int 2), .unset, .unset, .unset, .unset] [(.ref z5)])) _
          refine XS.astore z2v.here hx rfl (hb hby at_133) rfl rfl (l' := #[.val (.int p1), .val (.int p2), .val (.int p3), .val (.int p4), .val (.int p5), .val (.int p6), .val (.int (p1 % 3)), .val (.int (p2 % 3)), .val (.int (p3 % 3)), .val (.int 0), .val (.int 1), .val (.int 2), .val (.ref z5), .unset, .unset, .unset]) rfl ?_
          refine XS.aload z2v.here hx rfl (hb hby at_135) rfl rfl ?_
          refine XS.iload z2v.here hx rfl (hb hby at_137) rfl ?_
          refine XS.i2dS z2v.here hx rfl (hb hby at_139) rfl (i2d_w _) ?_
          show Steps p.tables e below (z53.setTop (mkF m 140 #[.val (.int p1), .val (.int p2), .val (.int p3), .val (.int p4), .val (.int p5), .val (.int p6), .val (.int (p1 % 3)), .val (.int (p2 % 3)), .val (.int (p3 % 3)), .val (.int 0), .val (.int 1), .val (.int 2), .val (.ref z5), .unset, .unset, .unset] [(.double (Jvm.FP.l2d ((p1 % 3).toInt64))), (.ref z5)])) _
          refine XS.iloadN z2v.here hx rfl (hb hby at_140) rfl ?_
          refine XS.iconst z2v.here hx rfl (hb hby at_141) ?_
          refine XS.aconstNull z2v.here hx rfl (hb hby at_142) ?_
          refine zpm.trans ?_
          show Steps p.tables e below (ze5.setTop (mkF m 146 #[.val (.int p1), .val (.int p2), .val (.int p3), .val (.int p4), .val (.int p5), .val (.int p6), .val (.int (p1 % 3)), .val (.int (p2 % 3)), .val (.int (p3 % 3)), .val (.int 0), .val (.int 1), .val (.int 2), .val (.ref z5), .unset, .unset, .unset] [])) _
          refine XS.aload z4h.here hx rfl (hb hby at_146) rfl rfl ?_
          refine XS.iload z4h.here hx rfl (hb hby at_148) rfl ?_
          refine XS.i2dS z4h.here hx rfl (hb hby at_150) rfl (i2d_w _) ?_
          show Steps p.tables e below (ze5.setTop (mkF m 151 #[.val (.int p1), .val (.int p2), .val (.int p3), .val (.int p4), .val (.int p5), .val (.int p6), .val (.int (p1 % 3)), .val (.int (p2 % 3)), .val (.int (p3 % 3)), .val (.int 0), .val (.int 1), .val (.int 2), .val (.ref z5), .unset, .unset, .unset] [(.double (Jvm.FP.l2d ((p2 % 3).toInt64))), (.ref z5)])) _
          refine XS.iload z4h.here hx rfl (hb hby at_151) rfl ?_
          refine XS.iconst z4h.here hx rfl (hb hby at_153) ?_
          refine XS.aconstNull z4h.here hx rfl (hb hby at_154) ?_
          refine zpr.trans ?_
          show Steps p.tables e below (ze7.setTop (mkF m 158 #[.val (.int p1), .val (.int p2), .val (.int p3), .val (.int p4), .val (.int p5), .val (.int p6), .val (.int (p1 % 3)), .val (.int (p2 % 3)), .val (.int (p3 % 3)), .val (.int 0), .val (.int 1), .val (.int 2), .val (.ref z5), .unset, .unset, .unset] [])) _
          refine XS.aload z4i.here hx rfl (hb hby at_158) rfl rfl ?_
          refine XS.iload z4i.here hx rfl (hb hby at_160) rfl ?_
          refine XS.i2dS z4i.here hx rfl (hb hby at_162) rfl (i2d_w _) ?_
          show Steps p.tables e below (ze7.setTop (mkF m 163 #[.val (.int p1), .val (.int p2), .val (.int p3), .val (.int p4), .val (.int p5), .val (.int p6), .val (.int (p1 % 3)), .val (.int (p2 % 3)), .val (.int (p3 % 3)), .val (.int 0), .val (.int 1), .val (.int 2), .val (.ref z5), .unset, .unset, .unset] [(.double (Jvm.FP.l2d ((p3 % 3).toInt64))), (.ref z5)])) _
          refine XS.iload z4i.here hx rfl (hb hby at_163) rfl ?_
          refine XS.iconst z4i.here hx rfl (hb hby at_165) ?_
          refine XS.aconstNull z4i.here hx rfl (hb hby at_166) ?_
          refine zpw.trans ?_
          show Steps p.tables e below (zb3.setTop (mkF m 170 #[.val (.int p1), .val (.int p2), .val (.int p3), .val (.int p4), .val (.int p5), .val (.int p6), .val (.int (p1 % 3)), .val (.int (p2 % 3)), .val (.int (p3 % 3)), .val (.int 0), .val (.int 1), .val (.int 2), .val (.ref z5), .unset, .unset, .unset] [])) _
          refine XS.aload zad.here hx rfl (hb hby at_170) rfl rfl ?_
          refine zq2.trans ?_
          show Steps p.tables e below (z1gn.setTop (mkF m 175 #[.val (.int p1), .val (.int p2), .val (.int p3), .val (.int p4), .val (.int p5), .val (.int p6), .val (.int (p1 % 3)), .val (.int (p2 % 3)), .val (.int (p3 % 3)), .val (.int 0), .val (.int 1), .val (.int 2), .val (.ref z5), .unset, .unset, .unset] [(.int p4)])) _
          refine XS.istore z83.here hx rfl (hb hby at_175) rfl (l' := #[.val (.int p1), .val (.int p2), .val (.int p3), .val (.int p4), .val (.int p5), .val (.int p6), .val (.int (p1 % 3)), .val (.int (p2 % 3)), .val (.int (p3 % 3)), .val (.int 0), .val (.int 1), .val (.int 2), .val (.ref z5), .val (.int p4), .unset, .unset]) rfl ?_
          refine XS.aload z83.here hx rfl (hb hby at_177) rfl rfl ?_
          refine zq5.trans ?_
          show Steps p.tables e below (zec.setTop (mkF m 182 #[.val (.int p1), .val (.int p2), .val (.int p3), .val (.int p4), .val (.int p5), .val (.int p6), .val (.int (p1 % 3)), .val (.int (p2 % 3)), .val (.int (p3 % 3)), .val (.int 0), .val (.int 1), .val (.int 2), .val (.ref z5), .val (.int p4), .unset, .unset] [])) _
          refine XS.aload zae.here hx rfl (hb hby at_182) rfl rfl ?_
          refine zqb.trans ?_
          show Steps p.tables e below (z1hb.setTop (mkF m 187 #[.val (.int p1), .val (.int p2), .val (.int p3), .val (.int p4), .val (.int p5), .val (.int p6), .val (.int (p1 % 3)), .val (.int (p2 % 3)), .val (.int (p3 % 3)), .val (.int 0), .val (.int 1), .val (.int 2), .val (.ref z5), .val (.int p4), .unset, .unset] [(.int p5)])) _
          refine XS.istore z84.here hx rfl (hb hby at_187) rfl (l' := #[.val (.int p1), .val (.int p2), .val (.int p3), .val (.int p4), .val (.int p5), .val (.int p6), .val (.int (p1 % 3)), .val (.int (p2 % 3)), .val (.int (p3 % 3)), .val (.int 0), .val (.int 1), .val (.int 2), .val (.ref z5), .val (.int p4), .val (.int p5), .unset]) rfl ?_
          refine XS.aload z84.here hx rfl (hb hby at_189) rfl rfl ?_
          refine zqe.trans ?_
          show Steps p.tables e below (zaf.setTop (mkF m 194 #[.val (.int p1), .val (.int p2), .val (.int p3), .val (.int p4), .val (.int p5), .val (.int p6), .val (.int (p1 % 3)), .val (.int (p2 % 3)), .val (.int (p3 % 3)), .val (.int 0), .val (.int 1), .val (.int 2), .val (.ref z5), .val (.int p4), .val (.int p5), .unset] [])) _
          refine XS.aload zag.here hx rfl (hb hby at_194) rfl rfl ?_
          refine zqg.trans ?_
          show Steps p.tables e below (z1hp.setTop (mkF m 199 #[.val (.int p1), .val (.int p2), .val (.int p3), .val (.int p4), .val (.int p5), .val (.int p6), .val (.int (p1 % 3)), .val (.int (p2 % 3)), .val (.int (p3 % 3)), .val (.int 0), .val (.int 1), .val (.int 2), .val (.ref z5), .val (.int p4), .val (.int p5), .unset] [(.int p6)])) _
          refine XS.istore z1s.here hx rfl (hb hby at_199) rfl (l' := #[.val (.int p1), .val (.int p2), .val (.int p3), .val (.int p4), .val (.int p5), .val (.int p6), .val (.int (p1 % 3)), .val (.int (p2 % 3)), .val (.int (p3 % 3)), .val (.int 0), .val (.int 1), .val (.int 2), .val (.ref z5), .val (.int p4), .val (.int p5), .val (.int p6)]) rfl ?_
          refine XS.iload z1s.here hx rfl (hb hby at_201) rfl ?_
          refine XS.iconst z1s.here hx rfl (hb hby at_203) ?_
          refine XS.iload z1s.here hx rfl (hb hby at_204) rfl ?_
          refine XS.iload z1s.here hx rfl (hb hby at_206) rfl ?_
          refine XS.iload z1s.here hx rfl (hb hby at_208) rfl ?_
          refine XS.iloadN z1s.here hx rfl (hb hby at_210) rfl ?_
          refine XS.iload z1s.here hx rfl (hb hby at_211) rfl ?_
          refine XS.iload z1s.here hx rfl (hb hby at_213) rfl ?_
          refine zqj _ ?_
          show Steps p.tables e below (zqh.setTop (mkF m 218 #[.val (.int p1), .val (.int p2), .val (.int p3), .val (.int p4), .val (.int p5), .val (.int p6), .val (.int (p1 % 3)), .val (.int (p2 % 3)), .val (.int (p3 % 3)), .val (.int 0), .val (.int 1), .val (.int 2), .val (.ref z5), .val (.int p4), .val (.int p5), .val (.int p6)] [(.int p4), (.int p4)])) _
          refine XS.icmpNo z1t.here hx rfl (hb hby at_218) rfl (teq (rfl : p4 = p4)).2 ?_
          show Steps p.tables e below (zqh.setTop (mkF m 221 #[.val (.int p1), .val (.int p2), .val (.int p3), .val (.int p4), .val (.int p5), .val (.int p6), .val (.int (p1 % 3)), .val (.int (p2 % 3)), .val (.int (p3 % 3)), .val (.int 0), .val (.int 1), .val (.int 2), .val (.ref z5), .val (.int p4), .val (.int p5), .val (.int p6)] [])) _
          refine XS.iload z1t.here hx rfl (hb hby at_221) rfl ?_
          refine XS.iconst z1t.here hx rfl (hb hby at_223) ?_
          refine XS.iload z1t.here hx rfl (hb hby at_224) rfl ?_
          refine XS.iload z1t.here hx rfl (hb hby at_226) rfl ?_
          refine XS.iload z1t.here hx rfl (hb hby at_228) rfl ?_
          refine XS.iloadN z1t.here hx rfl (hb hby at_230) rfl ?_
          refine XS.iload z1t.here hx rfl (hb hby at_231) rfl ?_
          refine XS.iload z1t.here hx rfl (hb hby at_233) rfl ?_
          refine zqm _ ?_
          show Steps p.tables e below (zqk.setTop (mkF m 238 #[.val (.int p1), .val (.int p2), .val (.int p3), .val (.int p4), .val (.int p5), .val (.int p6), .val (.int (p1 % 3)), .val (.int (p2 % 3)), .val (.int (p3 % 3)), .val (.int 0), .val (.int 1), .val (.int 2), .val (.ref z5), .val (.int p4), .val (.int p5), .val (.int p6)] [(.int p5), (.int p5)])) _
          refine XS.icmpNo z1u.here hx rfl (hb hby at_238) rfl (teq (rfl : p5 = p5)).2 ?_
          show Steps p.tables e below (zqk.setTop (mkF m 241 #[.val (.int p1), .val (.int p2), .val (.int p3), .val (.int p4), .val (.int p5), .val (.int p6), .val (.int (p1 % 3)), .val (.int (p2 % 3)), .val (.int (p3 % 3)), .val (.int 0), .val (.int 1), .val (.int 2), .val (.ref z5), .val (.int p4), .val (.int p5), .val (.int p6)] [])) _
          refine XS.iload z1u.here hx rfl (hb hby at_241) rfl ?_
          refine XS.iconst z1u.here hx rfl (hb hby at_243) ?_
          refine XS.iload z1u.here hx rfl (hb hby at_244) rfl ?_
          refine XS.iload z1u.here hx rfl (hb hby at_246) rfl ?_
          refine XS.iload z1u.here hx rfl (hb hby at_248) rfl ?_
          refine XS.iloadN z1u.here hx rfl (hb hby at_250) rfl ?_
          refine XS.iload z1u.here hx rfl (hb hby at_251) rfl ?_
          refine XS.iload z1u.here hx rfl (hb hby at_253) rfl ?_
          refine zqo _ ?_
          show Steps p.tables e below (zeh.setTop (mkF m 258 #[.val (.int p1), .val (.int p2), .val (.int p3), .val (.int p4), .val (.int p5), .val (.int p6), .val (.int (p1 % 3)), .val (.int (p2 % 3)), .val (.int (p3 % 3)), .val (.int 0), .val (.int 1), .val (.int 2), .val (.ref z5), .val (.int p4), .val (.int p5), .val (.int p6)] [(.int p6), (.int p6)])) _
          refine XS.icmpNo z6e.here hx rfl (hb hby at_258) rfl (teq (rfl : p6 = p6)).2 ?_
          show Steps p.tables e below (zeh.setTop (mkF m 261 #[.val (.int p1), .val (.int p2), .val (.int p3), .val (.int p4), .val (.int p5), .val (.int p6), .val (.int (p1 % 3)), .val (.int (p2 % 3)), .val (.int (p3 % 3)), .val (.int 0), .val (.int 1), .val (.int 2), .val (.ref z5), .val (.int p4), .val (.int p5), .val (.int p6)] [])) _
          refine XS.iconst z6e.here hx rfl (hb hby at_261) ?_
          refine XS.goto z6e.here hx rfl (pc0 := 262) (pc' := 266) rfl (hb hby at_262) (by decide) (by decide) ?_
          exact retN z6e hx (t := .boolean) Bd.returns (by simp) (hb hby at_266) hr
        · show LQ n0 _ zeh.heap _
          exact ⟨rfl, z1i0, trivial⟩
set_option maxRecDepth 65536 in
set_option maxHeartbeats 40000000 in
theorem comes_1 {Post : Tables → Env → Array Value → State → Outcome → State → Prop} (hpost : ∀ tb e args s v u, (limb_1_1.after args s (.returned v) u = true ∧ limb_1_2.after args s (.returned v) u = true ∧ True) → FrameEnd s (.returned v) u (Jvm.fieldLocs frame_1_writes args s ++ Jvm.arrayLocs frame_1_arrays args s ++ Jvm.staticLocs frame_1_statics s) 24 320 → Post tb e args s (.returned v) u) :
    ArmFor flags0 classFile x code maxLocals ret World_1 tables_1 room_1 Calls_1 rest_1 Pre_1 Post := by
  intro l hfl _ _ p e ha hc hk s m args below hf hA hF happ hP
  obtain ⟨hcalls, hrest, hpre⟩ := hP
  obtain ⟨-, -, -, hnamed, -, -, -, hat⟩ := (Spec.applies_iff hf).mp happ
  obtain ⟨hg, hn⟩ := and_e (Cond.before_iff.mp (show (Jvm.Cond.and given_1 narrow_1).before args s = true from hpre))
  obtain ⟨gA0, gB0⟩ := and_e hg
  obtain ⟨gA1, gB1⟩ := and_e gB0
  obtain ⟨gA2, gB2⟩ := and_e gB1
  obtain ⟨gA3, gB3⟩ := and_e gB2
  obtain ⟨gA4, gB4⟩ := and_e gB3
  obtain ⟨gA5, gB5⟩ := and_e gB4
  obtain ⟨w0, w1, w2, w3, w4, w5, rfl⟩ : ∃ w0 w1 w2 w3 w4 w5 : Value, args = #[w0, w1, w2, w3, w4, w5] := by
    have hs : args.size = 6 := by simpa [Cond.value, given_1] using gA0
    obtain ⟨L⟩ := args
    match L, hs with
    | [w0, w1, w2, w3, w4, w5], _ => exact ⟨w0, w1, w2, w3, w4, w5, rfl⟩
  have hw := fun d (hd : d ∈ tables_1) => atoms_spec (ws := Jvm.Cond.code x code maxLocals ret :: tables_1) hat d (List.mem_cons_of_mem _ hd)
  have hfit : Fit s := fun {y c} hc i hi => by
    obtain ⟨ha, rfl⟩ := Array.getElem?_eq_some_iff.mp hc
    have q := List.all_eq_true.mp ((Array.all_eq_true_iff_forall_mem.mp hF) _ (Array.getElem_mem ha)) i (List.mem_range.mpr hi)
    simpa [Array.getElem?_eq_getElem hi] using q
  obtain ⟨i0, ei0⟩ := is_v gA1
  obtain rfl : w0 = (.int i0) := Option.some.inj ei0
  obtain ⟨i1, ei1⟩ := is_v gA2
  obtain rfl : w1 = (.int i1) := Option.some.inj ei1
  obtain ⟨i2, ei2⟩ := is_v gA3
  obtain rfl : w2 = (.int i2) := Option.some.inj ei2
  obtain ⟨i3, ei3⟩ := is_v gA4
  obtain rfl : w3 = (.int i3) := Option.some.inj ei3
  obtain ⟨i4, ei4⟩ := is_v gA5
  obtain rfl : w4 = (.int i4) := Option.some.inj ei4
  obtain ⟨i5, ei5⟩ := is_v gB5
  obtain rfl : w5 = (.int i5) := Option.some.inj ei5
  have EN : own_St s (fun n => [].getD n 0) (fun n => [].getD n 0) := trivial
  obtain ⟨n, o, h1, h2, h3, _, L, rfl, hQ, hq⟩ := rm0 l s _ hw tables_1 s.heap s.heap.size i0 i1 i2 i3 i4 i5 (fun n => [].getD n 0) (fun n => [].getD n 0) EN (Old.start s) p e ha hc hk s m _ below hf ((Spec.applies_iff_loose hf).mp happ).1 ⟨rfl, State.Warmed39.refl s, rfl⟩ trivial
  obtain ⟨rfl, N, -⟩ := hQ
  refine ⟨n, _, h1, h2, h3, hpost _ _ _ _ _ _ ⟨Cond.after_iff.mpr rfl, Cond.after_iff.mpr (eq_i res_at (Term.int_eval (1)) rfl), trivial⟩ ⟨hq.1, hq.2.1, (hq.2.2.sift fun y hy => Or.inr (N y hy)).mono (by decide) (by decide)⟩⟩
theorem main_1_1 : Claimed_1_1 := comes_1 fun _ _ _ _ _ _ h hF => ⟨h.1, hF⟩
theorem main_1_2 : Claimed_1_2 := comes_1 fun _ _ _ _ _ _ h hF => ⟨h.2.1, hF⟩
end Jvm.Pilot.@@N@@
namespace Jvm.Pilot.@@N@@
open Jvm Jvm.ClassFile Sem Op Lib Jvm.Free Jvm.Stand Jvm.Pilot.@@N@@.Jvm.D
/-! MADE BY PROGRAM (witnessworld.py) out of the Statement's table words and the real class files: 15 classes; the members and pool entries that the words name. The judged class is class 1, her method 1. -/
namespace start1
open Jvm.ClassFile
def u (s : String) : CpInfo := .utf8 (stringToUtf16 s)
/-- a pool by its gaps: so many unusable entries, then the entry; so many at the end -/
def gap : Nat → List CpInfo → List CpInfo
  | 0, r => r
  | n + 1, r => .unusable :: gap n r
def poolList (es : List (Nat × CpInfo)) (last : Nat) : List CpInfo := es.foldr (fun e r => gap e.1 (e.2 :: r)) (gap last [])
def pool (es : List (Nat × CpInfo)) (last : Nat) : Array CpInfo := ⟨poolList es last⟩
def fileOf (pool : Array CpInfo) (this : Nat) (attrs : Array Attribute := #[]) (ms : Array MethodInfo := #[]) (fl : Nat := 33) (sup : Nat := 0) (ifs : Array Nat := #[]) (fds : Array FieldInfo := #[]) : ClassFile where
  minorVersion := 0
  majorVersion := 65
  constantPool := pool
  accessFlags := fl
  thisClass := this
  superClass := sup
  interfaces := ifs
  fields := fds
  methods := ms
  attributes := attrs
def plain (name : String) (sup : Option ClassId) : Class where
  name := name
  kind := .ordinary
  loader := none
  accessFlags := 33
  super := sup
  interfaces := #[]
  cf := none
  fields := #[]
  methods := #[]
  instanceTypes := #[]
  staticTypes := #[]
  resolved := #[]
  callSites := []
  init := .initialized
  statics := none
  mirror := none

def pool0 : Array CpInfo := pool [(5, u "<init>"), (0, u "()V"), (1, .class_ 10), (1, u "java/lang/Object")] 113

def k0c0 : Code := { maxStack := 0, maxLocals := 1, code := object_method_1_code, exceptionTable := #[], attributes := #[] }
def k0m0 : Method := { name := "<init>", desc := "()V", sig := { parameters := [], returnType := none }, accessFlags := 1, code := some k0c0 }
/-- java/lang/Object -/
def k0 : Class := { plain "java/lang/Object" none with
  accessFlags := 33
  interfaces := #[]
  cf := some (fileOf pool0 8 #[] #[{ accessFlags := 1, nameIndex := 5, descriptorIndex := 6, attributes := #[] }] 33 0 #[] #[])
  fields := #[]
  methods := #[k0m0]
  instanceTypes := #[]
  staticTypes := #[]
  resolved := Array.replicate 124 none
  statics := none }

def pool1 : Array CpInfo := pool [(2, .class_ 4), (0, .nameAndType 5 6), (0, u "java/lang/Object"), (0, u "<init>"), (0, u "()V"), (0, .methodref 8 9), (0, .class_ 10), (0, .nameAndType 11 12), (0, u "com/example/ringleader/ringleader/engine/EventQueueFirstFromPinLaw"), (0, u "before"), (0, u "(IIII)Z"), (0, .class_ 14), (0, u "com/example/ringleader/ringleader/engine/EventQueue"), (0, .methodref 13 3), (0, .methodref 13 17), (0, .nameAndType 18 19), (0, u "add"), (0, u "(DIILjava/lang/Object;)V"), (0, .methodref 13 21), (0, .nameAndType 22 23), (0, u "firstFrom"), (0, u "()I"), (0, .methodref 13 25), (0, .nameAndType 26 6), (0, u "removeFirst"), (0, .methodref 8 28), (0, .nameAndType 29 30), (0, u "pick"), (0, u "(IIIIIII)I"), (2, u "law"), (0, u "(IIIIII)Z")] 3

def k1m0 : Method := { name := "<init>", desc := "()V", sig := { parameters := [], returnType := none }, accessFlags := 1, code := none }
def k1c1 : Code := { maxStack := 8, maxLocals := 16, code := code, exceptionTable := #[], attributes := #[] }
def k1m1 : Method := { name := "law", desc := "(IIIIII)Z", sig := { parameters := [.int, .int, .int, .int, .int, .int], returnType := some .boolean }, accessFlags := 9, code := some k1c1 }
def k1c2 : Code := { maxStack := 2, maxLocals := 4, code := method_3_code, exceptionTable := #[], attributes := #[] }
def k1m2 : Method := { name := "before", desc := "(IIII)Z", sig := { parameters := [.int, .int, .int, .int], returnType := some .boolean }, accessFlags := 10, code := some k1c2 }
def k1c3 : Code := { maxStack := 2, maxLocals := 7, code := method_4_code, exceptionTable := #[], attributes := #[] }
def k1m3 : Method := { name := "pick", desc := "(IIIIIII)I", sig := { parameters := [.int, .int, .int, .int, .int, .int, .int], returnType := some .int }, accessFlags := 10, code := some k1c3 }
/-- com/example/ringleader/ringleader/engine/EventQueueFirstFromPinLaw -/
def k1 : Class := { plain "com/example/ringleader/ringleader/engine/EventQueueFirstFromPinLaw" (some 0) with
  accessFlags := 49
  interfaces := #[]
  cf := some (fileOf pool1 8 #[] #[{ accessFlags := 1, nameIndex := 5, descriptorIndex := 6, attributes := #[] }, { accessFlags := 9, nameIndex := 33, descriptorIndex := 34, attributes := #[] }, { accessFlags := 10, nameIndex := 11, descriptorIndex := 12, attributes := #[] }, { accessFlags := 10, nameIndex := 29, descriptorIndex := 30, attributes := #[] }] 49 2 #[] #[])
  fields := #[]
  methods := #[k1m0, k1m1, k1m2, k1m3]
  instanceTypes := #[]
  staticTypes := #[]
  resolved := Array.replicate 38 none
  statics := none }

def pool2 : Array CpInfo := pool [(3, .methodref 4 5), (0, .class_ 6), (0, .nameAndType 7 8), (0, u "java/lang/Object"), (0, u "<init>"), (0, u "()V"), (0, .fieldref 10 11), (0, .class_ 12), (0, .nameAndType 13 14), (0, u "com/example/ringleader/ringleader/engine/EventQueue"), (0, u "at"), (0, u "[D"), (0, .fieldref 10 16), (0, .nameAndType 17 18), (0, u "added"), (0, u "[J"), (0, .fieldref 10 20), (0, .nameAndType 21 22), (0, u "slot"), (0, u "[I"), (0, .fieldref 10 24), (0, .nameAndType 25 22), (0, u "from"), (0, .fieldref 10 27), (0, .nameAndType 28 22), (0, u "to"), (0, .fieldref 10 30), (0, .nameAndType 31 32), (0, u "message"), (0, u "[Ljava/lang/Object;"), (0, .fieldref 10 34), (0, .nameAndType 35 22), (0, u "free"), (0, .methodref 10 37), (0, .nameAndType 38 39), (0, u "fillFree"), (0, u "(I)V"), (0, .fieldref 10 41), (0, .nameAndType 42 43), (0, u "size"), (0, u "I"), (3, .methodref 10 48), (0, .nameAndType 49 50), (0, u "move"), (0, u "(II)V"), (0, .fieldref 10 52), (0, .nameAndType 53 54), (0, u "additions"), (0, u "J"), (0, .methodref 10 56), (0, .nameAndType 57 58), (0, u "put"), (0, u "(IDJI)V"), (0, .methodref 60 61), (0, .class_ 62), (0, .nameAndType 63 64), (0, u "java/lang/Math"), (0, u "min"), (0, u "(II)I"), (0, .methodref 10 66), (0, .nameAndType 67 68), (0, u "isBefore"), (0, u "(DJDJ)Z"), (33, u "ARITY"), (2, u "MAX_EVENTS"), (3, u "add"), (0, u "(DIILjava/lang/Object;)V"), (7, u "firstFrom"), (0, u "()I"), (4, u "removeFirst")] 18

def k2c0 : Code := { maxStack := 2, maxLocals := 1, code := prog_48_method_1_code, exceptionTable := #[], attributes := #[] }
def k2m0 : Method := { name := "<init>", desc := "()V", sig := { parameters := [], returnType := none }, accessFlags := 0, code := some k2c0 }
def k2c1 : Code := { maxStack := 11, maxLocals := 9, code := prog_48_method_2_code, exceptionTable := #[], attributes := #[] }
def k2m1 : Method := { name := "add", desc := "(DIILjava/lang/Object;)V", sig := { parameters := [.double, .int, .int, (.object "java/lang/Object")], returnType := none }, accessFlags := 0, code := some k2c1 }
def k2c2 : Code := { maxStack := 3, maxLocals := 1, code := prog_48_method_5_code, exceptionTable := #[], attributes := #[] }
def k2m2 : Method := { name := "firstFrom", desc := "()I", sig := { parameters := [], returnType := some .int }, accessFlags := 0, code := some k2c2 }
def k2c3 : Code := { maxStack := 8, maxLocals := 12, code := prog_48_method_8_code, exceptionTable := #[], attributes := #[] }
def k2m3 : Method := { name := "removeFirst", desc := "()V", sig := { parameters := [], returnType := none }, accessFlags := 0, code := some k2c3 }
def k2c4 : Code := { maxStack := 4, maxLocals := 8, code := prog_48_method_9_code, exceptionTable := #[], attributes := #[] }
def k2m4 : Method := { name := "isBefore", desc := "(DJDJ)Z", sig := { parameters := [.double, .long, .double, .long], returnType := some .boolean }, accessFlags := 10, code := some k2c4 }
def k2c5 : Code := { maxStack := 8, maxLocals := 3, code := prog_48_method_10_code, exceptionTable := #[], attributes := #[] }
def k2m5 : Method := { name := "move", desc := "(II)V", sig := { parameters := [.int, .int], returnType := none }, accessFlags := 2, code := some k2c5 }
def k2c6 : Code := { maxStack := 4, maxLocals := 7, code := prog_48_method_11_code, exceptionTable := #[], attributes := #[] }
def k2m6 : Method := { name := "put", desc := "(IDJI)V", sig := { parameters := [.int, .double, .long, .int], returnType := none }, accessFlags := 2, code := some k2c6 }
def k2c7 : Code := { maxStack := 3, maxLocals := 3, code := prog_48_method_13_code, exceptionTable := #[], attributes := #[] }
def k2m7 : Method := { name := "fillFree", desc := "(I)V", sig := { parameters := [.int], returnType := none }, accessFlags := 2, code := some k2c7 }
/-- com/example/ringleader/ringleader/engine/EventQueue -/
def k2 : Class := { plain "com/example/ringleader/ringleader/engine/EventQueue" (some 0) with
  accessFlags := 32
  interfaces := #[]
  cf := some (fileOf pool2 10 #[] #[{ accessFlags := 0, nameIndex := 7, descriptorIndex := 8, attributes := #[] }, { accessFlags := 0, nameIndex := 109, descriptorIndex := 110, attributes := #[] }, { accessFlags := 0, nameIndex := 118, descriptorIndex := 119, attributes := #[] }, { accessFlags := 0, nameIndex := 124, descriptorIndex := 8, attributes := #[] }, { accessFlags := 10, nameIndex := 67, descriptorIndex := 68, attributes := #[] }, { accessFlags := 2, nameIndex := 49, descriptorIndex := 50, attributes := #[] }, { accessFlags := 2, nameIndex := 57, descriptorIndex := 58, attributes := #[] }, { accessFlags := 2, nameIndex := 38, descriptorIndex := 39, attributes := #[] }] 32 4 #[] #[{ accessFlags := 26, nameIndex := 102, descriptorIndex := 43, attributes := #[] }, { accessFlags := 26, nameIndex := 105, descriptorIndex := 43, attributes := #[] }, { accessFlags := 2, nameIndex := 13, descriptorIndex := 14, attributes := #[] }, { accessFlags := 2, nameIndex := 17, descriptorIndex := 18, attributes := #[] }, { accessFlags := 2, nameIndex := 21, descriptorIndex := 22, attributes := #[] }, { accessFlags := 2, nameIndex := 25, descriptorIndex := 22, attributes := #[] }, { accessFlags := 2, nameIndex := 28, descriptorIndex := 22, attributes := #[] }, { accessFlags := 2, nameIndex := 31, descriptorIndex := 32, attributes := #[] }, { accessFlags := 2, nameIndex := 35, descriptorIndex := 22, attributes := #[] }, { accessFlags := 2, nameIndex := 42, descriptorIndex := 43, attributes := #[] }, { accessFlags := 2, nameIndex := 53, descriptorIndex := 54, attributes := #[] }])
  fields := #[{ name := "ARITY", type := .int, accessFlags := 26, slot := 0, constantValue := 0 }, { name := "MAX_EVENTS", type := .int, accessFlags := 26, slot := 1, constantValue := 0 }, { name := "at", type := (.array .double), accessFlags := 2, slot := 0, constantValue := 0 }, { name := "added", type := (.array .long), accessFlags := 2, slot := 1, constantValue := 0 }, { name := "slot", type := (.array .int), accessFlags := 2, slot := 2, constantValue := 0 }, { name := "from", type := (.array .int), accessFlags := 2, slot := 3, constantValue := 0 }, { name := "to", type := (.array .int), accessFlags := 2, slot := 4, constantValue := 0 }, { name := "message", type := (.array (.object "java/lang/Object")), accessFlags := 2, slot := 5, constantValue := 0 }, { name := "free", type := (.array .int), accessFlags := 2, slot := 6, constantValue := 0 }, { name := "size", type := .int, accessFlags := 2, slot := 7, constantValue := 0 }, { name := "additions", type := .long, accessFlags := 2, slot := 8, constantValue := 0 }]
  methods := #[k2m0, k2m1, k2m2, k2m3, k2m4, k2m5, k2m6, k2m7]
  instanceTypes := #[(.array .double), (.array .long), (.array .int), (.array .int), (.array .int), (.array (.object "java/lang/Object")), (.array .int), .int, .long]
  staticTypes := #[.int, .int]
  resolved := Array.replicate 143 none
  statics := none }

def pool3 : Array CpInfo := pool [(1, .class_ 2), (0, u "java/lang/Math"), (1, .class_ 6), (1, u "java/lang/Object"), (0, u "<init>"), (0, u "()V"), (89, .class_ 100), (1, u "java/lang/Math$RandomNumberGeneratorHolder"), (71, u "negativeZeroFloatBits"), (0, u "J"), (2, u "negativeZeroDoubleBits"), (24, u "min"), (43, u "$assertionsDisabled"), (0, u "Z"), (88, u "(II)I"), (2, u "twoToTheDoubleScaleDown"), (0, u "D"), (4, u "twoToTheDoubleScaleUp"), (9, u "E"), (3, u "PI"), (2, u "TAU"), (2, u "DEGREES_TO_RADIANS"), (0, u "RADIANS_TO_DEGREES")] 94

def k3m0 : Method := { name := "<init>", desc := "()V", sig := { parameters := [], returnType := none }, accessFlags := 2, code := none }
def k3c1 : Code := { maxStack := 2, maxLocals := 2, code := jdk_29_method_69_code, exceptionTable := #[], attributes := #[] }
def k3m1 : Method := { name := "min", desc := "(II)I", sig := { parameters := [.int, .int], returnType := some .int }, accessFlags := 9, code := some k3c1 }
/-- java/lang/Math -/
def k3 : Class := { plain "java/lang/Math" (some 0) with
  accessFlags := 49
  interfaces := #[]
  cf := some (fileOf pool3 1 #[.nestMembers #[98]] #[{ accessFlags := 2, nameIndex := 7, descriptorIndex := 8, attributes := #[] }, { accessFlags := 9, nameIndex := 201, descriptorIndex := 335, attributes := #[] }] 49 4 #[] #[{ accessFlags := 25, nameIndex := 354, descriptorIndex := 339, attributes := #[] }, { accessFlags := 25, nameIndex := 358, descriptorIndex := 339, attributes := #[] }, { accessFlags := 25, nameIndex := 361, descriptorIndex := 339, attributes := #[] }, { accessFlags := 26, nameIndex := 364, descriptorIndex := 339, attributes := #[] }, { accessFlags := 26, nameIndex := 365, descriptorIndex := 339, attributes := #[] }, { accessFlags := 26, nameIndex := 172, descriptorIndex := 173, attributes := #[] }, { accessFlags := 26, nameIndex := 176, descriptorIndex := 173, attributes := #[] }, { accessFlags := 8, nameIndex := 344, descriptorIndex := 339, attributes := #[] }, { accessFlags := 8, nameIndex := 338, descriptorIndex := 339, attributes := #[] }, { accessFlags := 4120, nameIndex := 245, descriptorIndex := 246, attributes := #[] }])
  fields := #[{ name := "E", type := .double, accessFlags := 25, slot := 0, constantValue := 0 }, { name := "PI", type := .double, accessFlags := 25, slot := 1, constantValue := 0 }, { name := "TAU", type := .double, accessFlags := 25, slot := 2, constantValue := 0 }, { name := "DEGREES_TO_RADIANS", type := .double, accessFlags := 26, slot := 3, constantValue := 0 }, { name := "RADIANS_TO_DEGREES", type := .double, accessFlags := 26, slot := 4, constantValue := 0 }, { name := "negativeZeroFloatBits", type := .long, accessFlags := 26, slot := 5, constantValue := 0 }, { name := "negativeZeroDoubleBits", type := .long, accessFlags := 26, slot := 6, constantValue := 0 }, { name := "twoToTheDoubleScaleUp", type := .double, accessFlags := 8, slot := 7, constantValue := 0 }, { name := "twoToTheDoubleScaleDown", type := .double, accessFlags := 8, slot := 8, constantValue := 0 }, { name := "$assertionsDisabled", type := .boolean, accessFlags := 4120, slot := 9, constantValue := 0 }]
  methods := #[k3m0, k3m1]
  instanceTypes := #[]
  staticTypes := #[.double, .double, .double, .double, .double, .long, .long, .double, .double, .boolean]
  resolved := Array.replicate 460 none
  statics := none }

def pool4 : Array CpInfo := pool [(1, u "java/lang/Cloneable"), (0, .class_ 1), (0, u "java/lang/Object"), (0, .class_ 3)] 3

/-- java/lang/Cloneable -/
def k4 : Class := { plain "java/lang/Cloneable" (some 0) with
  accessFlags := 1537
  interfaces := #[]
  cf := some (fileOf pool4 2 #[] #[] 1537 4 #[] #[])
  fields := #[]
  methods := #[]
  instanceTypes := #[]
  staticTypes := #[]
  resolved := Array.replicate 8 none
  statics := none }

def pool5 : Array CpInfo := pool [(1, u "java/io/Serializable"), (0, .class_ 1), (0, u "java/lang/Object"), (0, .class_ 3)] 3

/-- java/io/Serializable -/
def k5 : Class := { plain "java/io/Serializable" (some 0) with
  accessFlags := 1537
  interfaces := #[]
  cf := some (fileOf pool5 2 #[] #[] 1537 4 #[] #[])
  fields := #[]
  methods := #[]
  instanceTypes := #[]
  staticTypes := #[]
  resolved := Array.replicate 8 none
  statics := none }

/-- the primitive byte -/
def k6 : Class := { plain "byte" none with kind := .primitive 'B', accessFlags := 0x411 }
/-- [B -/
def k7 : Class := { plain "[B" (some 0) with kind := .array 6 .byte, interfaces := #[4, 5], accessFlags := 1041 }

/-- the primitive double -/
def k8 : Class := { plain "double" none with kind := .primitive 'D', accessFlags := 0x411 }
/-- [D -/
def k9 : Class := { plain "[D" (some 0) with kind := .array 8 .double, interfaces := #[4, 5], accessFlags := 1041 }

/-- the primitive int -/
def k10 : Class := { plain "int" none with kind := .primitive 'I', accessFlags := 0x411 }
/-- [I -/
def k11 : Class := { plain "[I" (some 0) with kind := .array 10 .int, interfaces := #[4, 5], accessFlags := 1041 }

/-- the primitive long -/
def k12 : Class := { plain "long" none with kind := .primitive 'J', accessFlags := 0x411 }
/-- [J -/
def k13 : Class := { plain "[J" (some 0) with kind := .array 12 .long, interfaces := #[4, 5], accessFlags := 1041 }

/-- [Ljava/lang/Object; -/
def k14 : Class := { plain "[Ljava/lang/Object;" (some 0) with kind := .array 0 (.object "java/lang/Object"), interfaces := #[4, 5], accessFlags := 1041 }

def heap : Heap := #[]
def classes : Array Class := #[k0, k1, k2, k3, k4, k5, k6, k7, k8, k9, k10, k11, k12, k13, k14]
def interned : List (Array UInt16 × Addr) := []
def slotsUsed : Nat := 0
def theMethod : MethodId := ⟨1, 1⟩
def args0 : Array Value := #[.int 5, .int 4, .int 3, .int 1, .int 2, .int 3]
def aboutOver (below : List Frame) : State where
  vm := { classes := classes, interned := interned.toArray }
  heap := heap
  slotsUsed := slotsUsed
  threads := #[{ frames := .invoking theMethod args0 :: below }]
def below0 : List Frame := [.native { method := ⟨0, 0⟩, args := #[] }]
def about1 : State := aboutOver below0
def p0 : Program := .bare "" "" ""
def e0 : Env := launch0.env 0 0 0
theorem w_frames : about1.frames = Frame.invoking theMethod args0 :: below0 := rfl
set_option maxRecDepth 65536 in
theorem w_args : argsFit about1.vm theMethod args0 = true := by decide +kernel
set_option maxRecDepth 65536 in
theorem w_heap : heapFits about1 = true := by decide +kernel
set_option maxRecDepth 65536 in
theorem w_runnable : about1.curStatus? = some .runnable := by decide +kernel
set_option maxRecDepth 65536 in
theorem w_alone : about1.alone = true := by decide +kernel
set_option maxRecDepth 65536 in
theorem w_named : about1.methodNamed? x = some theMethod := by decide +kernel
set_option maxRecDepth 65536 in
theorem w_hears : about1.hears theMethod below0 = true := by decide +kernel
set_option maxRecDepth 65536 in
theorem w_ripe : about1.ripe theMethod args0 below0 = true := by decide +kernel
theorem w_running : about1.status = .running := rfl
set_option maxRecDepth 65536 in
theorem w_room : about1.hasRoom e0.platform room_1 = true :=
  launch0.hasRoom_least _ room_1 (by decide +kernel) (by decide +kernel) (by decide +kernel) (by decide +kernel) (by decide +kernel) (by decide +kernel)
theorem allAtoms_all (ts : List Jvm.Cond) (a : Array Jvm.Value) (st : Jvm.State) : (allAtoms ts).before a st = ts.all (fun c => c.before a st) := by
  induction ts with
  | nil => rfl
  | cons c t ih =>
    show (Jvm.Cond.and c (allAtoms t)).before a st = _
    rw [Jvm.Cond.before_and, ih, List.all_cons]
def words1 : List Jvm.Cond := Jvm.Cond.code x code maxLocals ret :: tables_1
/-- a 'code' word, met by the world's own term for the bytes: nothing is compared byte by byte -/
theorem code_word {y : MethodName} {bytes : ByteArray} {mx : Nat} {rt : Option FieldType} {a : Array Value} {s : State} {m : MethodId} {meth : Method} {c : Code} (h1 : s.methodNamed? y = some m) (h2 : s.vm.method? m = some meth) (h3 : meth.code = some c) (h4 : c.code = bytes)
    (h5 : (c.maxLocals == mx && c.exceptionTable.isEmpty && decide (c.maxStack ≤ mostOperands) && decide (meth.sig.returnType = rt) && !meth.locks && decide (parseMethodDescriptor y.desc = some meth.sig)) = true) : (Jvm.Cond.code y bytes mx rt).before a s = true := by
  simp only [Bool.and_eq_true, beq_iff_eq, Bool.not_eq_true', decide_eq_true_eq] at h5
  obtain ⟨⟨⟨⟨⟨g1, g2⟩, g3⟩, g4⟩, g5⟩, g6⟩ := h5
  simp [Cond.before, Cond.holds, Cond.value, h1, h2, h3, h4, g1, g2, g3, g4, g5, g6]
def isCode : Jvm.Cond → Bool
  | .code _ _ _ _ => true
  | _ => false
theorem all_split {L : List Jvm.Cond} {P : Jvm.Cond → Bool} (h1 : L.all (fun c => isCode c || P c) = true) (h2 : ∀ c ∈ L.filter isCode, P c = true) : L.all P = true := by
  refine List.all_eq_true.mpr fun c hc => ?_
  have h := List.all_eq_true.mp h1 c hc
  rcases Bool.eq_false_or_eq_true (isCode c) with hi | hi
  · exact h2 c (List.mem_filter.mpr ⟨hc, hi⟩)
  · simpa [hi] using h
set_option maxRecDepth 65536 in
theorem w_c0 : (Jvm.Cond.code x code maxLocals ret).before args0 about1 = true := code_word (m := ⟨1, 1⟩) (meth := k1m1) (c := k1c1) (by decide +kernel) rfl rfl rfl (by decide +kernel)
set_option maxRecDepth 65536 in
theorem w_c1 : (Jvm.Cond.code ({ cls := "com/example/ringleader/ringleader/engine/EventQueueFirstFromPinLaw", name := "before", desc := "(IIII)Z" } : Jvm.MethodName) method_3_code (4 : Nat) (Option.some Jvm.ClassFile.FieldType.boolean)).before args0 about1 = true := code_word (m := ⟨1, 2⟩) (meth := k1m2) (c := k1c2) (by decide +kernel) rfl rfl rfl (by decide +kernel)
set_option maxRecDepth 65536 in
theorem w_c2 : (Jvm.Cond.code ({ cls := "com/example/ringleader/ringleader/engine/EventQueue", name := "<init>", desc := "()V" } : Jvm.MethodName) prog_48_method_1_code (1 : Nat) (Option.none : Option Jvm.ClassFile.FieldType)).before args0 about1 = true := code_word (m := ⟨2, 0⟩) (meth := k2m0) (c := k2c0) (by decide +kernel) rfl rfl rfl (by decide +kernel)
set_option maxRecDepth 65536 in
theorem w_c3 : (Jvm.Cond.code ({ cls := "java/lang/Object", name := "<init>", desc := "()V" } : Jvm.MethodName) object_method_1_code (1 : Nat) (Option.none : Option Jvm.ClassFile.FieldType)).before args0 about1 = true := code_word (m := ⟨0, 0⟩) (meth := k0m0) (c := k0c0) (by decide +kernel) rfl rfl rfl (by decide +kernel)
set_option maxRecDepth 65536 in
theorem w_c4 : (Jvm.Cond.code ({ cls := "com/example/ringleader/ringleader/engine/EventQueue", name := "fillFree", desc := "(I)V" } : Jvm.MethodName) prog_48_method_13_code (3 : Nat) (Option.none : Option Jvm.ClassFile.FieldType)).before args0 about1 = true := code_word (m := ⟨2, 7⟩) (meth := k2m7) (c := k2c7) (by decide +kernel) rfl rfl rfl (by decide +kernel)
set_option maxRecDepth 65536 in
theorem w_c5 : (Jvm.Cond.code ({ cls := "com/example/ringleader/ringleader/engine/EventQueue", name := "add", desc := "(DIILjava/lang/Object;)V" } : Jvm.MethodName) prog_48_method_2_code (9 : Nat) (Option.none : Option Jvm.ClassFile.FieldType)).before args0 about1 = true := code_word (m := ⟨2, 1⟩) (meth := k2m1) (c := k2c1) (by decide +kernel) rfl rfl rfl (by decide +kernel)
set_option maxRecDepth 65536 in
theorem w_c6 : (Jvm.Cond.code ({ cls := "com/example/ringleader/ringleader/engine/EventQueue", name := "put", desc := "(IDJI)V" } : Jvm.MethodName) prog_48_method_11_code (7 : Nat) (Option.none : Option Jvm.ClassFile.FieldType)).before args0 about1 = true := code_word (m := ⟨2, 6⟩) (meth := k2m6) (c := k2c6) (by decide +kernel) rfl rfl rfl (by decide +kernel)
set_option maxRecDepth 65536 in
theorem w_c7 : (Jvm.Cond.code ({ cls := "com/example/ringleader/ringleader/engine/EventQueue", name := "firstFrom", desc := "()I" } : Jvm.MethodName) prog_48_method_5_code (1 : Nat) (Option.some Jvm.ClassFile.FieldType.int)).before args0 about1 = true := code_word (m := ⟨2, 2⟩) (meth := k2m2) (c := k2c2) (by decide +kernel) rfl rfl rfl (by decide +kernel)
set_option maxRecDepth 65536 in
theorem w_c8 : (Jvm.Cond.code ({ cls := "com/example/ringleader/ringleader/engine/EventQueue", name := "removeFirst", desc := "()V" } : Jvm.MethodName) prog_48_method_8_code (12 : Nat) (Option.none : Option Jvm.ClassFile.FieldType)).before args0 about1 = true := code_word (m := ⟨2, 3⟩) (meth := k2m3) (c := k2c3) (by decide +kernel) rfl rfl rfl (by decide +kernel)
set_option maxRecDepth 65536 in
theorem w_c9 : (Jvm.Cond.code ({ cls := "java/lang/Math", name := "min", desc := "(II)I" } : Jvm.MethodName) jdk_29_method_69_code (2 : Nat) (Option.some Jvm.ClassFile.FieldType.int)).before args0 about1 = true := code_word (m := ⟨3, 1⟩) (meth := k3m1) (c := k3c1) (by decide +kernel) rfl rfl rfl (by decide +kernel)
set_option maxRecDepth 65536 in
theorem w_c10 : (Jvm.Cond.code ({ cls := "com/example/ringleader/ringleader/engine/EventQueue", name := "isBefore", desc := "(DJDJ)Z" } : Jvm.MethodName) prog_48_method_9_code (8 : Nat) (Option.some Jvm.ClassFile.FieldType.boolean)).before args0 about1 = true := code_word (m := ⟨2, 4⟩) (meth := k2m4) (c := k2c4) (by decide +kernel) rfl rfl rfl (by decide +kernel)
set_option maxRecDepth 65536 in
theorem w_c11 : (Jvm.Cond.code ({ cls := "com/example/ringleader/ringleader/engine/EventQueue", name := "move", desc := "(II)V" } : Jvm.MethodName) prog_48_method_10_code (3 : Nat) (Option.none : Option Jvm.ClassFile.FieldType)).before args0 about1 = true := code_word (m := ⟨2, 5⟩) (meth := k2m5) (c := k2c5) (by decide +kernel) rfl rfl rfl (by decide +kernel)
set_option maxRecDepth 65536 in
theorem w_c12 : (Jvm.Cond.code ({ cls := "com/example/ringleader/ringleader/engine/EventQueueFirstFromPinLaw", name := "pick", desc := "(IIIIIII)I" } : Jvm.MethodName) method_4_code (7 : Nat) (Option.some Jvm.ClassFile.FieldType.int)).before args0 about1 = true := code_word (m := ⟨1, 3⟩) (meth := k1m3) (c := k1c3) (by decide +kernel) rfl rfl rfl (by decide +kernel)
def codes1 : List Jvm.Cond := [Jvm.Cond.code x code maxLocals ret, Jvm.Cond.code ({ cls := "com/example/ringleader/ringleader/engine/EventQueueFirstFromPinLaw", name := "before", desc := "(IIII)Z" } : Jvm.MethodName) method_3_code (4 : Nat) (Option.some Jvm.ClassFile.FieldType.boolean), Jvm.Cond.code ({ cls := "com/example/ringleader/ringleader/engine/EventQueue", name := "<init>", desc := "()V" } : Jvm.MethodName) prog_48_method_1_code (1 : Nat) (Option.none : Option Jvm.ClassFile.FieldType), Jvm.Cond.code ({ cls := "java/lang/Object", name := "<init>", desc := "()V" } : Jvm.MethodName) object_method_1_code (1 : Nat) (Option.none : Option Jvm.ClassFile.FieldType), Jvm.Cond.code ({ cls := "com/example/ringleader/ringleader/engine/EventQueue", name := "fillFree", desc := "(I)V" } : Jvm.MethodName) prog_48_method_13_code (3 : Nat) (Option.none : Option Jvm.ClassFile.FieldType), Jvm.Cond.code ({ cls := "com/example/ringleader/ringleader/engine/EventQueue", name := "add", desc := "(DIILjava/lang/Object;)V" } : Jvm.MethodName) prog_48_method_2_code (9 : Nat) (Option.none : Option Jvm.ClassFile.FieldType), Jvm.Cond.code ({ cls := "com/example/ringleader/ringleader/engine/EventQueue", name := "put", desc := "(IDJI)V" } : Jvm.MethodName) prog_48_method_11_code (7 : Nat) (Option.none : Option Jvm.ClassFile.FieldType), Jvm.Cond.code ({ cls := "com/example/ringleader/ringleader/engine/EventQueue", name := "firstFrom", desc := "()I" } : Jvm.MethodName) prog_48_method_5_code (1 : Nat) (Option.some Jvm.ClassFile.FieldType.int), Jvm.Cond.code ({ cls := "com/example/ringleader/ringleader/engine/EventQueue", name := "removeFirst", desc := "()V" } : Jvm.MethodName) prog_48_method_8_code (12 : Nat) (Option.none : Option Jvm.ClassFile.FieldType), Jvm.Cond.code ({ cls := "java/lang/Math", name := "min", desc := "(II)I" } : Jvm.MethodName) jdk_29_method_69_code (2 : Nat) (Option.some Jvm.ClassFile.FieldType.int), Jvm.Cond.code ({ cls := "com/example/ringleader/ringleader/engine/EventQueue", name := "isBefore", desc := "(DJDJ)Z" } : Jvm.MethodName) prog_48_method_9_code (8 : Nat) (Option.some Jvm.ClassFile.FieldType.boolean), Jvm.Cond.code ({ cls := "com/example/ringleader/ringleader/engine/EventQueue", name := "move", desc := "(II)V" } : Jvm.MethodName) prog_48_method_10_code (3 : Nat) (Option.none : Option Jvm.ClassFile.FieldType), Jvm.Cond.code ({ cls := "com/example/ringleader/ringleader/engine/EventQueueFirstFromPinLaw", name := "pick", desc := "(IIIIIII)I" } : Jvm.MethodName) method_4_code (7 : Nat) (Option.some Jvm.ClassFile.FieldType.int)]
set_option maxRecDepth 65536 in
theorem codes_eq : words1.filter isCode = codes1 := rfl
theorem w_codes : ∀ c ∈ words1.filter isCode, c.before args0 about1 = true := by
  rw [codes_eq]
  intro c hc
  simp only [codes1, List.mem_cons, List.not_mem_nil, or_false] at hc
  rcases hc with rfl | rfl | rfl | rfl | rfl | rfl | rfl | rfl | rfl | rfl | rfl | rfl | rfl
  · exact w_c0
  · exact w_c1
  · exact w_c2
  · exact w_c3
  · exact w_c4
  · exact w_c5
  · exact w_c6
  · exact w_c7
  · exact w_c8
  · exact w_c9
  · exact w_c10
  · exact w_c11
  · exact w_c12
set_option maxRecDepth 65536 in
theorem w_t1 : (words1.take 24).all (fun c => isCode c || c.before args0 about1) = true := by decide +kernel
set_option maxRecDepth 65536 in
theorem w_t2 : ((words1.drop 24).take 24).all (fun c => isCode c || c.before args0 about1) = true := by decide +kernel
set_option maxRecDepth 65536 in
theorem w_t3 : (((words1.drop 24).drop 24).take 24).all (fun c => isCode c || c.before args0 about1) = true := by decide +kernel
set_option maxRecDepth 65536 in
theorem w_t4 : (((words1.drop 24).drop 24).drop 24).all (fun c => isCode c || c.before args0 about1) = true := by decide +kernel
theorem w_tables : (allAtoms (Jvm.Cond.code x code maxLocals ret :: tables_1)).before args0 about1 = true := by
  rw [allAtoms_all]
  show words1.all (fun c => c.before args0 about1) = true
  refine all_split ?_ w_codes
  rw [← List.take_append_drop 24 words1, List.all_append, w_t1, ← List.take_append_drop 24 (words1.drop 24), List.all_append, w_t2, ← List.take_append_drop 24 ((words1.drop 24).drop 24), List.all_append, w_t3, w_t4]
  rfl
set_option maxRecDepth 65536 in
theorem w_case : (Jvm.Cond.and given_1 narrow_1).before args0 about1 = true := by decide +kernel
theorem w_applies : (headSpec (Jvm.Cond.code x code maxLocals ret :: tables_1) room_1).applies x e0.platform about1 = true :=
  (Spec.applies_iff w_frames).mpr ⟨w_running, w_runnable, w_alone, w_named, w_hears, w_ripe, w_room, w_tables⟩
theorem atStart : AtStart classFile x code maxLocals ret World_1 tables_1 room_1 Calls_1 rest_1 Pre_1 launch0 p0 e0 about1 theMethod args0 below0 :=
  ⟨lists_1, trivial, launch0.admits_env _ _ _, launch0.least_env, fairChoices_fair.cas, fairChoices_fair.clock, w_frames, w_args, w_heap, w_applies, trivial, trivial, w_case⟩
end start1
theorem witness_1 : WitnessClaimed_1 := ⟨start1.p0, start1.e0, start1.about1, start1.theMethod, start1.args0, start1.below0, start1.atStart⟩
end Jvm.Pilot.@@N@@
