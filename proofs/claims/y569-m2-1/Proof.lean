import JvmDerived
import JvmDerived.Pilot.@@N@@Statement
import JvmDerived.Pilot.@@N@@Code
set_option linter.unusedVariables false
set_option linter.unusedSimpArgs false
namespace Jvm.RoadKit
open Sem ClassFile Op Lib Jvm.Stand Jvm.Free Jvm.LawKit
section New
variable {p : Program} {l : Launch} {e : Env} {R : Room} {s : State} {m : MethodId} {args : Array Value} {below : List Frame} {meth : Method} {c : Code} {T : State} {locs : List Loc} {cells slots : Nat}
theorem retI (X : Stand p l e R s m args below meth c T locs cells slots) (hx : p.tables.exec = Jvm.exec) {pc : Nat} {Ls : Array Slot} {z : Int32} {rest : List Value} (hret : meth.sig.returnType = some .int) (hd : decode c.code pc = .ok (.ireturn, 1)) {fs : List Frame}
    (hl : ∀ (f : JFrame) (acts : List Action), f.method = m → f.locked = none → f.entered = [] → (doReturn e (T.setTop f) acts (some (.int z))).1 = T.setFrames fs) : Steps p.tables e below (T.setTop (mkF m pc Ls (.int z :: rest))) (T.setFrames fs) :=
  retOut X hx hret rfl (Or.inl ⟨rfl, Or.inl rfl, _, rfl⟩) hd hl
end New
end Jvm.RoadKit
namespace Jvm.Pilot.@@N@@
open Jvm Jvm.ClassFile Sem Op Lib Jvm.Free Jvm.Stand Jvm.LawKit Jvm.RoadKit Bundle Jvm.Pilot.@@N@@.Jvm.D
theorem own_sub {p : Program} {l : Launch} {e : Env} {R : Room} {s : State} {m : MethodId} {args : Array Value} {below : List Frame} {meth : Method} {c : Code} {T : State} {L L' : List Loc} {k k' n n' : Nat} (X : Stand p l e R s m args below meth c T L k n) (hl : L = L') (hk : k = k') (hn : n = n') : Stand p l e R s m args below meth c T L' k' n' := by
  subst hl hk hn
  exact X
abbrev own_m0 : MethodName := ⟨"com/example/ringleader/ringleader/engine/EventQueue", "isEmpty", "()Z"⟩
abbrev own_m1 : MethodName := ⟨"com/example/ringleader/ringleader/engine/EventQueue", "removeFirst", "()V"⟩
abbrev own_m2 : MethodName := ⟨"com/example/ringleader/ringleader/engine/EventQueue", "put", "(IDJI)V"⟩
abbrev own_m3 : MethodName := ⟨"com/example/ringleader/ringleader/engine/EventQueue", "add", "(DIILjava/lang/Object;)V"⟩
abbrev own_m4 : MethodName := ⟨"com/example/ringleader/ringleader/engine/EventQueue", "move", "(II)V"⟩
abbrev own_m5 : MethodName := ⟨"java/lang/Math", "min", "(II)I"⟩
abbrev own_m6 : MethodName := ⟨"com/example/ringleader/ringleader/engine/EventQueue", "isBefore", "(DJDJ)Z"⟩
abbrev own_m7 : MethodName := ⟨"java/lang/Integer", "<init>", "(I)V"⟩
abbrev own_m8 : MethodName := ⟨"java/lang/Integer", "valueOf", "(I)Ljava/lang/Integer;"⟩
abbrev own_m9 : MethodName := ⟨"com/example/ringleader/ringleader/engine/EventQueue", "fillFree", "(I)V"⟩
abbrev own_m10 : MethodName := ⟨"java/lang/Number", "<init>", "()V"⟩
abbrev own_m11 : MethodName := ⟨"com/example/ringleader/ringleader/engine/EventQueue", "<init>", "()V"⟩
/-- what a body that writes nothing leaves: its value, no place written, the heap as it was -/
def PQ (w : Option Value) (h0 : Heap) (n0 : Nat) (v : Option Value) (h : Heap) (L : List Loc) : Prop := v = w ∧ Fr n0 L ∧ h = h0
def LQ (n0 : Nat) (v : Option Value) (h : Heap) (L : List Loc) : Prop := v = some (.int (1 : Int32)) ∧ Fr n0 L ∧ True
theorem own_selpS {s : State} {args args' : Array Value} {y x2 y2 : MethodName} (w : (Cond.selects y.cls x2 y2).before args' s = true) (h2 : y2.cls = y.cls) (hp : (Cond.privateMethod y).before args s = true) (hi : (Cond.instanceMethod y).before args' s = true) (hy : y.cls ≠ "java/lang/invoke/MethodHandle" ∧ y.cls ≠ "java/lang/invoke/VarHandle") : (Cond.selects y.cls y y).before args' s = true := by
  obtain ⟨c, r, m, h1, -, h3, -, k, hk, hki⟩ := Cond.selects_spec w
  have hc : s.vm.findClass y.cls = some m.cls := by rw [← h2]; exact findClass_of_methodNamed h3
  exact Stand.selects_self_of_private hc hk hki (Cond.privateMethod_at hp) hi hy
theorem own_selpI {s : State} {args args' : Array Value} {y : MethodName} {n : Nat} (w : (Cond.instantiable y.cls n).before args' s = true) (hp : (Cond.privateMethod y).before args s = true) (hi : (Cond.instanceMethod y).before args' s = true) (hy : y.cls ≠ "java/lang/invoke/MethodHandle" ∧ y.cls ≠ "java/lang/invoke/VarHandle") : (Cond.selects y.cls y y).before args' s = true := by
  obtain ⟨c, k, h1, h2, -, h4, -⟩ := Cond.instantiable_spec w
  exact Stand.selects_self_of_private h1 h2 (by simpa using (Bool.or_eq_false_iff.mp h4).1) (Cond.privateMethod_at hp) hi hy
theorem own_W {a0 : Array Value} {Z : State} (hw : ∀ d ∈ tables_1, d.before a0 Z = true) (i : Nat) {d : Jvm.Cond} (h : tables_1[i]? = some d) : d.before a0 Z = true := hw d (List.mem_of_getElem? h)
theorem own_Ix {α : Type} {P : Prop} {l : List α} {a : α} (i : Nat) (h : l[i]? = some a) : a ∈ l ∨ P := Or.inl (List.mem_of_getElem? h)
abbrev y_s0 : String := "com/example/ringleader/ringleader/engine/EventQueue"
abbrev y_s1 : String := "[Ljava/lang/Object;"
abbrev y_s2 : String := "java/lang/Integer"
abbrev y_s3 : String := "java/lang/Object"
theorem own_pd0 : parseMethodDescriptor "(IDJI)V" = some ⟨[.int, .double, .long, .int], none⟩ := by decide +kernel
theorem own_pd1 : parseMethodDescriptor "(II)V" = some ⟨[.int, .int], none⟩ := by decide +kernel
theorem own_pd2 : parseMethodDescriptor "(II)I" = some ⟨[.int, .int], some .int⟩ := by decide +kernel
theorem own_pd3 : parseMethodDescriptor "(DJDJ)Z" = some ⟨[.double, .long, .double, .long], some .boolean⟩ := by decide +kernel
theorem own_pd4 : parseMethodDescriptor "()V" = some ⟨[], none⟩ := by decide +kernel
theorem own_pd5 : parseMethodDescriptor "(I)V" = some ⟨[.int], none⟩ := by decide +kernel
theorem own_pd6 : parseMethodDescriptor "()Z" = some ⟨[], some .boolean⟩ := by decide +kernel
theorem own_pd7 : parseMethodDescriptor "(DIILjava/lang/Object;)V" = some ⟨[.double, .int, .int, (.object y_s3)], none⟩ := by decide +kernel
theorem own_pd8 : parseMethodDescriptor "(I)Ljava/lang/Integer;" = some ⟨[.int], some (.object y_s2)⟩ := by decide +kernel
def own_Bx (Z : State) (a : Addr) : Prop := ∃ c : Cell, Bxs Z a c y_s2 "I" (256 : Int32) (fun j => .int (j - 128))
theorem own_bxstart {s : State} {args : Array Value} {a : Addr} {c : Cell} (et : ∀ idx, (Term.static "java/lang/Integer$IntegerCache" "cache" "[Ljava/lang/Integer;").eval args s none idx s = some (.ref a)) (A : Arr s s.heap a c (.object y_s2)) (q : c.slots.size < 2 ^ 31) (e : c.slots.size.toInt32 = (256 : Int32))
    (h : (Cond.all (.static "java/lang/Integer$IntegerCache" "cache" "[Ljava/lang/Integer;") (.and (.exactly (.elem (.static "java/lang/Integer$IntegerCache" "cache" "[Ljava/lang/Integer;") (.index 0)) y_s2) (.eq (.field (.elem (.static "java/lang/Integer$IntegerCache" "cache" "[Ljava/lang/Integer;") (.index 0)) y_s2 "value" "I") (.sub (.index 0) (.int 128))))).value args s none s [] = some true) : own_Bx s a :=
  ⟨c, Bxs.start et A q e (by decide) h fun X j hj hh => eqv_i (by
    have e1 : (Term.index 0).eval args s none [j.toNatClampNeg] s = some (.int j) := by
      show some (Value.int (j.toNatClampNeg).toInt32) = _
      rw [(back32 hj).1]
    simp [Term.eval, e1]
    exact (back32 hj).1) hh⟩
theorem own_bxin {c : Cell} {q : Int32} (S : c.slots.size = (256 : Int32).toNatClampNeg) (h1 : ¬ q < (-128 : Int32)) (h2 : ¬ (127 : Int32) < q) : ¬ ((q + (128 : Int32)) < 0 ∨ c.slots.size ≤ (q + (128 : Int32)).toNatClampNeg) := by
  have e := c_iadd q 128
  have r := rng32 (q + 128)
  have r2 := rng32 q
  simp only [Int32.lt_iff_toInt_lt] at h1 h2 ⊢
  have k1 : (-128 : Int32).toInt = -128 := rfl
  have k2 : (127 : Int32).toInt = 127 := rfl
  have k3 : (128 : Int32).toInt = 128 := rfl
  have k4 : (0 : Int32).toInt = 0 := rfl
  have k5 : (256 : Int32).toNatClampNeg = 256 := rfl
  rw [k1] at h1; rw [k2] at h2; rw [k3] at e; rw [k4]
  simp only [Int32.toNatClampNeg] at *
  omega
theorem own_bxv (q : Int32) : q + (128 : Int32) - 128 = q := by
  apply Int32.toInt_inj.mp
  have e := c_iadd q 128
  have e2 := c_isub (q + 128) 128
  have r := rng32 q
  have r2 := rng32 (q + 128 - 128)
  have k3 : (128 : Int32).toInt = 128 := rfl
  omega
def QV (Z : State) (q1 : Int32) (h0 : Heap) (n0 : Nat) (v : Option Value) (h : Heap) (L : List Loc) : Prop := ∃ r : Addr, v = some (.ref r) ∧ Fr n0 L ∧ Keep h0 h [] ∧ Exa Z h r y_s2 ∧ Fld Z h r y_s2 "value" "I" (.int q1)
theorem own_k (p : Int32) : ∃ n, n < 4 ∧ (p &&& (3 : Int32)) = Int32.ofNat n := by
  have q := c_mask p 3 2 (by decide) (by decide)
  refine ⟨(p.toInt % 4).toNat, by omega, ?_⟩
  rw [← Int32.toInt_inj, q, Int32.toInt_ofNat_small (by omega)]
  omega
theorem own_b53 (x : Int32) : B53 x.toInt64 := by
  have r := rng32 x
  exact ⟨by rw [c_i2l]; omega, by rw [c_i2l]; omega⟩
theorem own_llt (x y : Int32) : ((lcmpW (x.toInt64) (y.toInt64)) < (0 : Int32)) = (x < y) := by rw [lw_lt, Int64.lt_iff_toInt_lt, c_i2l, c_i2l, Int32.lt_iff_toInt_lt]
theorem own_leq (x y : Int32) : ((lcmpW (x.toInt64) (y.toInt64)) = (0 : Int32)) = (x = y) := by rw [lw_eq, ← Int64.toInt_inj, c_i2l, c_i2l, Int32.toInt_inj]
theorem own_sw1 {a b : Int32} (h : a < b) : ¬ (b < a) := by rw [Int32.lt_iff_toInt_lt] at *; omega
theorem own_sw2 {a b : Int32} (h : a < b) : ¬ (b = a) := fun e => by subst e; rw [Int32.lt_iff_toInt_lt] at h; omega
theorem own_sw3 {a b : Int32} (h : a = b) : ¬ (b < a) := by subst h; rw [Int32.lt_iff_toInt_lt]; omega
theorem own_sw4 {a b : Int32} (h : ¬ (a < b)) (k : ¬ (a = b)) : b < a := by rw [Int32.lt_iff_toInt_lt] at *; rw [← Int32.toInt_inj] at k; omega
theorem own_sw5 {a b : Int32} (h : a = b) : ¬ (a < b) := by subst h; rw [Int32.lt_iff_toInt_lt]; omega
theorem own_sw6 {a b : Int32} (h : a < b) : ¬ (a = b) := fun e => by subst e; rw [Int32.lt_iff_toInt_lt] at h; omega
theorem own_sw7 {a b : Int32} (h : ¬ (a < b)) (k : ¬ (b < a)) : a = b := by rw [Int32.lt_iff_toInt_lt] at h k; apply Int32.toInt_inj.mp; omega
theorem own_irr (a : Int32) : ¬ (a < a) := by rw [Int32.lt_iff_toInt_lt]; omega
theorem own_dup2X1 {tb : Tables} [Ours tb] {e : Env} {below : List Frame} {T target : State} {m : MethodId} {c : Code} {g : JFrame} (h : At T m c below) (hx : tb.exec = Jvm.exec) (hg : g.method = m) {x : Int64} {b : Addr} {rest : List Value} (hd : decode c.code g.pc = .ok (.dup2_x1, 1)) (hs : g.stack = .long x :: .ref b :: rest)
    (hr : Steps tb e below (T.setTop { g with pc := g.pc + 1, stack := .long x :: .ref b :: .long x :: rest }) target) : Steps tb e below (T.setTop g) target := by
  subst hg
  jvm_step h [h.top, hx, hd, hs, Value.category]
  exact hr
theorem own_z64 : (0 : Int32).toInt64 = (0 : Int64) := by decide
theorem own_newD {Z : State} {h : Heap} {a : Addr} {k : ClassId} {z : Int32} (A : Arr Z h a (newA k .double z) .double) (q : ¬ z < 0) : Arv Z h a k .double z [] (.double (Jvm.FP.l2d ((0 : Int32).toInt64))) := by rw [own_z64]; exact Arv.newD A q
/-- an array of sixteen, whatever it holds -/
def own_AM (Z : State) (h : Heap) (a : Addr) (k : ClassId) (ty : FieldType) : Prop := ∃ (vs : List Value) (dv : Value), Arv Z h a k ty (16 : Int32) vs dv
theorem own_AM.lt {Z : State} {h : Heap} {a : Addr} {k : ClassId} {ty : FieldType} (F : own_AM Z h a k ty) : a < h.size := by obtain ⟨_, _, F⟩ := F; exact F.lt
theorem own_AM.ext {Z : State} {h h' : Heap} {a : Addr} {k : ClassId} {ty : FieldType} (F : own_AM Z h a k ty) (E : Ext h h') : own_AM Z h' a k ty := by obtain ⟨_, _, F⟩ := F; exact ⟨_, _, F.ext E⟩
theorem own_AM.other {Z : State} {h h' : Heap} {a b : Addr} {k : ClassId} {ty : FieldType} {sl : Nat} {v : Value} (F : own_AM Z h b k ty) (W : Wr h h' a sl v) (q : b ≠ a) : own_AM Z h' b k ty := by obtain ⟨_, _, F⟩ := F; exact ⟨_, _, F.other W q⟩
theorem own_AM.keep {Z : State} {h h' : Heap} {a : Addr} {k : ClassId} {ty : FieldType} {ws : List Addr} (F : own_AM Z h a k ty) (K : Keep h h' ws) (q : a ∉ ws) : own_AM Z h' a k ty := by obtain ⟨_, _, F⟩ := F; exact ⟨_, _, F.keep K q⟩
theorem own_AM.set {Z : State} {h h' : Heap} {a : Addr} {k : ClassId} {ty : FieldType} {j : Int32} {v : Value} (F : own_AM Z h a k ty) (hv : fits ty v = true) (W : Wr h h' a j.toNatClampNeg v) : own_AM Z h' a k ty := by
  obtain ⟨vs, dv, F⟩ := F
  obtain ⟨c, A, q, S, N, H, G⟩ := Arv.pad F (pad_rep vs dv 16)
  have hs : j.toNatClampNeg < 16 := by
    have h5 : c.slots.size = 16 := S.trans (by decide)
    obtain ⟨cell, h1, -, h3, -⟩ := id W
    have h6 : cell = c := Option.some.inj (h1.symm.trans A.1)
    rw [h6] at h3
    omega
  exact ⟨_, _, Arv.set A q S N H G hv W _ rfl (by rw [List.length_append, List.length_replicate]; omega)⟩
theorem own_eqv {s : State} {args : Array Value} {t u : Term} {w : Value} (hu : u.eval args s none [] s = some w) (h : (Cond.eq t u).value args s none s [] = some true) (hk : (match w with | .retAddr _ => false | .float _ => false | .double _ => false | _ => true) = true := by rfl) : t.eval args s none [] s = some w := by
  obtain ⟨x, y, e1, e2, -, -⟩ := cmp_v (Or.inl h)
  cases hu.symm.trans e2
  rw [e1]
  simp only [Cond.value, e1, hu] at h
  cases x <;> cases w <;> simp at h hk ⊢ <;> exact h
theorem own_fld {s : State} {args : Array Value} {t : Term} {C n d : String} {a : Addr} {v : Value} (ht : t.eval args s none [] s = some (.ref a)) (h : (Term.field t C n d).eval args s none [] s = some v) : Fld s s.heap a C n d v := Fld.start ((fld_at ht).symm.trans h)
theorem own_len {s : State} {args : Array Value} {t : Term} {ty : FieldType} {a : Addr} {n : Int32} (ht : t.eval args s none [] s = some (.ref a)) (ha : (Cond.arrayOf t ty).value args s none s [] = some true) (hl : (Cond.eq (.length t) (.int n)).value args s none s [] = some true) (hn : ¬ n < 0) :
    ∃ c : Cell, Arr s s.heap a c ty ∧ c.slots.size < 2 ^ 31 ∧ c.slots.size.toInt32 = n := by
  obtain ⟨c, A⟩ := Arr.start ht ha
  have e := own_eqv (Term.int_eval n) hl
  have A2 := A.fin (Vm.Alike.refl _)
  obtain ⟨x, c2, e1, e2, e3⟩ := Term.length_spec e
  cases ht.symm.trans e1
  cases A2.symm.trans e2
  have h31 := SBG.length_lt ht A2 e
  refine ⟨c, A, h31, ?_⟩
  have := len_f ht A2 h31
  rw [e] at this
  simpa using (Option.some.inj this).symm
theorem own_elem {s : State} {args : Array Value} {t : Term} {ty : FieldType} {a : Addr} {c : Cell} {j : Int32} {v : Value} (ht : t.eval args s none [] s = some (.ref a)) (A : Arr s s.heap a c ty) (h : (Term.elem t (.int j)).eval args s none [] s = some v) : c.slots[j.toNatClampNeg]? = some v := (elem_in h ht (Term.int_eval j) A.1).2
theorem own_all0 {s : State} {args : Array Value} {t : Term} {ty : FieldType} {a : Addr} {c : Cell} {k n : Int32} (ht : ∀ idx, t.eval args s none idx s = some (.ref a)) (A : Arr s s.heap a c ty) (h31 : c.slots.size < 2 ^ 31) (hn : c.slots.size.toInt32 = n)
    (h : (Cond.all t (.or (.lt (.index 0) (.int k)) (.eq (.elem t (.index 0)) (.int 0)))).value args s none s [] = some true) (j : Nat) (hj : j < n.toNatClampNeg) (hk : ¬ j.toInt32 < k) : c.slots[j]? = some (.int 0) := by
  have A2 := A.fin (Vm.Alike.refl _)
  have hsz : n.toNatClampNeg = c.slots.size := by rw [← hn]; simp only [Int32.toNatClampNeg, len_toInt h31]; rfl
  have hj2 : j < c.slots.size := hsz ▸ hj
  have q := Cond.all_elim (ht []) A2 h j hj2
  have e1 : (Term.index 0).eval args s none [j] s = some (.int j.toInt32) := rfl
  have l1 : (Cond.lt (.index 0) (.int k)).value args s none s [j] = some false := by
    simp [Cond.value, e1, Term.int_eval, hk]
  have q2 : (Cond.eq (.elem t (.index 0)) (.int 0)).value args s none s [j] = some true := by
    have q3 : (match (Cond.lt (.index 0) (.int k)).value args s none s [j] with | some false => (Cond.eq (.elem t (.index 0)) (.int 0)).value args s none s [j] | x => x) = some true := q
    rw [l1] at q3
    exact q3
  obtain ⟨x, y, e2, e3, -, -⟩ := cmp_v (Or.inl q2)
  cases (Term.int_eval (args := args) (first := s) (o := none) (idx := [j]) (s := s) 0).symm.trans e3
  have e4 : (Term.elem t (.index 0)).eval args s none [j] s = some (.int 0) := by
    simp only [Cond.value, e2, e3] at q2
    rw [e2]; cases x <;> simp at q2 ⊢; exact q2
  have e5 := elem_in e4 (ht [j]) e1 A.1
  have e6 : (Nat.toInt32 j).toNatClampNeg = j := by simp only [Int32.toNatClampNeg, len_toInt (Nat.lt_trans hj2 h31)]; rfl
  rw [e6] at e5
  exact e5.2
theorem own_csne {s : State} {args : Array Value} {t : Term} {v : Int32} (e : t.eval args s none [] s = some (.int v)) (h : (Cond.not (.eq t (.int 0))).value args s none s [] = some true) : ¬ (v = (0 : Int32)) := by
  have q := not_v h
  intro hv
  subst hv
  have q2 := Cond.eq_ints e (Term.int_eval (args := args) (first := s) (o := none) (idx := []) (s := s) 0)
  rw [q2] at q
  simp at q
theorem own_orref {s : State} {args : Array Value} {C f d : String} (h : (Cond.isRef (.static C f d)).value args s none s [] = some true) (hi : (Cond.initializedFor C f d).before args s = true ∨ ((Cond.initialized C).before args s = true ∧ (Cond.laysStatic C f d).before args s = true)) : (Sta s s.heap C f d .null) ∨ (∃ a, Sta s s.heap C f d (.ref a)) := by
  obtain ⟨x, e, hr⟩ := isR_v h
  rcases ref_cases hr with rfl | ⟨a, rfl⟩
  · exact Or.inl (Sta.start e hi)
  · exact Or.inr ⟨a, Sta.start e hi⟩
def own_St (Z : State) (A : Nat → Addr) (K : Nat → ClassId) : Prop := ((Sta Z Z.heap "java/lang/Integer$IntegerCache" "cache" "[Ljava/lang/Integer;" (.ref (A 0))) ∧ (Exa Z Z.heap (A 0) "[Ljava/lang/Integer;") ∧ (Sta Z Z.heap "java/lang/Integer$IntegerCache" "high" "I" (.int 127)) ∧ (own_Bx Z (A 0)) ∧ True) ∧ True
theorem y0_0 : decode prog_48_method_9_code 0 = .ok (.dload_n 0, 1) := by decide +kernel
theorem y0_1 : decode prog_48_method_9_code 1 = .ok (.dload 4, 2) := by decide +kernel
theorem y0_3 : decode prog_48_method_9_code 3 = .ok (.dcmp .g, 1) := by decide +kernel
theorem y0_4 : decode prog_48_method_9_code 4 = .ok (.ifCond .lt 17, 3) := by decide +kernel
theorem y0_7 : decode prog_48_method_9_code 7 = .ok (.dload_n 0, 1) := by decide +kernel
theorem y0_8 : decode prog_48_method_9_code 8 = .ok (.dload 4, 2) := by decide +kernel
theorem y0_10 : decode prog_48_method_9_code 10 = .ok (.dcmp .l, 1) := by decide +kernel
theorem y0_11 : decode prog_48_method_9_code 11 = .ok (.ifCond .ne 14, 3) := by decide +kernel
theorem y0_14 : decode prog_48_method_9_code 14 = .ok (.lload_n 2, 1) := by decide +kernel
theorem y0_15 : decode prog_48_method_9_code 15 = .ok (.lload 6, 2) := by decide +kernel
theorem y0_17 : decode prog_48_method_9_code 17 = .ok (.lcmp, 1) := by decide +kernel
theorem y0_18 : decode prog_48_method_9_code 18 = .ok (.ifCond .ge 7, 3) := by decide +kernel
theorem y0_21 : decode prog_48_method_9_code 21 = .ok (.iconst 1, 1) := by decide +kernel
theorem y0_22 : decode prog_48_method_9_code 22 = .ok (.goto 4, 3) := by decide +kernel
theorem y0_25 : decode prog_48_method_9_code 25 = .ok (.iconst 0, 1) := by decide +kernel
theorem y0_26 : decode prog_48_method_9_code 26 = .ok (.ireturn, 1) := by decide +kernel
theorem own_pn0 : plainName y_s0 = true := by first | (simp [plainName, overriddenIn]; done) | decide +kernel
def own_f_rmIB (x1 : Int32) (x2 : Int32) (c1 : Int64) (c2 : Int64) : Int32 := if (lcmpW (x1.toInt64) (x2.toInt64)) < (0 : Int32) then (1 : Int32)
  else if (lcmpW (x1.toInt64) (x2.toInt64)) = (0 : Int32) then (if (lcmpW c1 c2) < (0 : Int32) then (1 : Int32)
      else (0 : Int32))
    else (0 : Int32)
set_option maxRecDepth 65536 in
set_option maxHeartbeats 40000000 in
theorem rmIB (l : Launch) (Z : State) (a0 : Array Value) (hw : ∀ d ∈ tables_1, d.before a0 Z = true) (ws : List Jvm.Cond) (h0 : Heap) (n0 : Nat) (A : Nat → Addr) (K : Nat → ClassId) (x1 : Int32) (x2 : Int32) (c1 : Int64) (c2 : Int64)  (EN : own_St Z A K) (OL0 : Old Z n0 h0) :
    MetFree l own_m6 (head1 (Jvm.Cond.code own_m6 prog_48_method_9_code 8 (some .boolean) :: ws) (Room.mk 0 0 0 0)) (fun a U => a = #[(.double (Jvm.FP.l2d (x1.toInt64))), (.long c1), (.double (Jvm.FP.l2d (x2.toInt64))), (.long c2)] ∧ Z.Warmed39 U.vm ∧ U.heap = h0) (fun _ _ _ _ _ => True) (fun _ U o U' => ∃ v L, o = .returned v ∧ (PQ (some (.int (own_f_rmIB x1 x2 c1 c2))) h0 n0) v U'.heap L ∧ FrameEnd U o U' L (Room.mk 0 0 0 0).cells (Room.mk 0 0 0 0).slots) := by
  refine MetFree.of_bodySF (plainFor_of_name own_pn0) hisR ?_
  intro p e s m args below meth c s₁ Bd hml0 hP hK
  obtain ⟨rfl, hZ, hh⟩ := hP
  have hx := Bd.exec
  have hby := Bd.bytes
  have hml : c.maxLocals = 8 := hml0
  have hown : s.vm.findClass y_s0 = some m.cls := findClass_of_methodNamed Bd.named
  have hnm := (name_of_methodNamed Bd.named Bd.method).1
  have X0 : Stand p l e (Room.mk 0 0 0 0) s m #[(.double (Jvm.FP.l2d (x1.toInt64))), (.long c1), (.double (Jvm.FP.l2d (x2.toInt64))), (.long c2)] below meth c s₁ [] 0 0 := Stand.of_body Bd
  have e0 : s₁.heap = h0 := by rw [← hh, Bd.state]; rfl
  have N0 := Fr.nil n0
  have pre0 : ∀ t, Steps p.tables e below (s₁.setTop (mkF m 0 #[.val (.double (Jvm.FP.l2d (x1.toInt64))), .second, .val (.long c1), .second, .val (.double (Jvm.FP.l2d (x2.toInt64))), .second, .val (.long c2), .second] [])) t → Steps p.tables e below (s₁.setTop (entryFrame m #[(.double (Jvm.FP.l2d (x1.toInt64))), (.long c1), (.double (Jvm.FP.l2d (x2.toInt64))), (.long c2)] 8)) t := fun t k => castTop (by first | (simp [entryFrame, mkF, argsToLocals, Value.category, maxLocals]; done) | rfl) k
  have KK0 : Keep h0 h0 [] := Keep.refl _ _
  have z3 : ∀ t, Steps p.tables e below (s₁.setTop (mkF m 4 #[.val (.double (Jvm.FP.l2d (x1.toInt64))), .second, .val (.long c1), .second, .val (.double (Jvm.FP.l2d (x2.toInt64))), .second, .val (.long c2), .second] [(.int (lcmpW (x1.toInt64) (x2.toInt64)))])) t → Steps p.tables e below (s₁.setTop (entryFrame m #[(.double (Jvm.FP.l2d (x1.toInt64))), (.long c1), (.double (Jvm.FP.l2d (x2.toInt64))), (.long c2)] 8)) t := fun t k => pre0 t (by
    show Steps p.tables e below (s₁.setTop (mkF m 0 #[.val (.double (Jvm.FP.l2d (x1.toInt64))), .second, .val (.long c1), .second, .val (.double (Jvm.FP.l2d (x2.toInt64))), .second, .val (.long c2), .second] [])) _
    refine XS.dloadN X0.here hx rfl (hb hby y0_0) rfl ?_
    refine XS.dload X0.here hx rfl (hb hby y0_1) rfl ?_
    refine XS.dcmpS X0.here hx rfl (hb hby y0_3) rfl (dcmpV_w (own_b53 x1) (own_b53 x2) _) ?_
    exact k)
  by_cases z0 : (lcmpW (x1.toInt64) (x2.toInt64)) < (0 : Int32)
  · obtain ⟨fs, hr, hrun, hended, hW, hsame⟩ := X0.leave (v := some (.int 1)) (fun h => by rw [Bd.returns] at h; cases h)
    refine ⟨_, _, z3 _ ?_, hrun, hended, _, _, rfl, ?_, ⟨_, rfl⟩, hW, hsame.mono (by decide) (by decide)⟩
    · show Steps p.tables e below (s₁.setTop (mkF m 4 #[.val (.double (Jvm.FP.l2d (x1.toInt64))), .second, .val (.long c1), .second, .val (.double (Jvm.FP.l2d (x2.toInt64))), .second, .val (.long c2), .second] [(.int (lcmpW (x1.toInt64) (x2.toInt64)))])) _
      refine XS.ifYes X0.here hx rfl (pc0 := 4) (pc' := 21) rfl (hb hby y0_4) rfl ((if0 _ _).trans (tlt z0).1) (by decide) (by decide) ?_
      show Steps p.tables e below (s₁.setTop (mkF m 21 #[.val (.double (Jvm.FP.l2d (x1.toInt64))), .second, .val (.long c1), .second, .val (.double (Jvm.FP.l2d (x2.toInt64))), .second, .val (.long c2), .second] [])) _
      refine XS.iconst X0.here hx rfl (hb hby y0_21) ?_
      refine XS.goto X0.here hx rfl (pc0 := 22) (pc' := 26) rfl (hb hby y0_22) (by decide) (by decide) ?_
      exact retN X0 hx (t := .boolean) Bd.returns (by simp) (hb hby y0_26) hr
    · show PQ (some (.int (own_f_rmIB x1 x2 c1 c2))) h0 n0 _ s₁.heap _
      rw [e0]
      exact ⟨congrArg (fun z => some (Value.int z)) (by unfold own_f_rmIB; rw [if_pos z0]), N0, rfl⟩
  · have z4 : ∀ t, Steps p.tables e below (s₁.setTop (mkF m 11 #[.val (.double (Jvm.FP.l2d (x1.toInt64))), .second, .val (.long c1), .second, .val (.double (Jvm.FP.l2d (x2.toInt64))), .second, .val (.long c2), .second] [(.int (lcmpW (x1.toInt64) (x2.toInt64)))])) t → Steps p.tables e below (s₁.setTop (entryFrame m #[(.double (Jvm.FP.l2d (x1.toInt64))), (.long c1), (.double (Jvm.FP.l2d (x2.toInt64))), (.long c2)] 8)) t := fun t k => z3 t (by
      show Steps p.tables e below (s₁.setTop (mkF m 4 #[.val (.double (Jvm.FP.l2d (x1.toInt64))), .second, .val (.long c1), .second, .val (.double (Jvm.FP.l2d (x2.toInt64))), .second, .val (.long c2), .second] [(.int (lcmpW (x1.toInt64) (x2.toInt64)))])) _
      refine XS.ifNo X0.here hx rfl (hb hby y0_4) rfl ((if0 _ _).trans (flt z0).1) ?_
      show Steps p.tables e below (s₁.setTop (mkF m 7 #[.val (.double (Jvm.FP.l2d (x1.toInt64))), .second, .val (.long c1), .second, .val (.double (Jvm.FP.l2d (x2.toInt64))), .second, .val (.long c2), .second] [])) _
      refine XS.dloadN X0.here hx rfl (hb hby y0_7) rfl ?_
      refine XS.dload X0.here hx rfl (hb hby y0_8) rfl ?_
      refine XS.dcmpS X0.here hx rfl (hb hby y0_10) rfl (dcmpV_w (own_b53 x1) (own_b53 x2) _) ?_
      exact k)
    by_cases z1 : (lcmpW (x1.toInt64) (x2.toInt64)) = (0 : Int32)
    · have z5 : ∀ t, Steps p.tables e below (s₁.setTop (mkF m 18 #[.val (.double (Jvm.FP.l2d (x1.toInt64))), .second, .val (.long c1), .second, .val (.double (Jvm.FP.l2d (x2.toInt64))), .second, .val (.long c2), .second] [(.int (lcmpW c1 c2))])) t → Steps p.tables e below (s₁.setTop (entryFrame m #[(.double (Jvm.FP.l2d (x1.toInt64))), (.long c1), (.double (Jvm.FP.l2d (x2.toInt64))), (.long c2)] 8)) t := fun t k => z4 t (by
        show Steps p.tables e below (s₁.setTop (mkF m 11 #[.val (.double (Jvm.FP.l2d (x1.toInt64))), .second, .val (.long c1), .second, .val (.double (Jvm.FP.l2d (x2.toInt64))), .second, .val (.long c2), .second] [(.int (lcmpW (x1.toInt64) (x2.toInt64)))])) _
        refine XS.ifNo X0.here hx rfl (hb hby y0_11) rfl ((if0 _ _).trans (teq z1).2) ?_
        show Steps p.tables e below (s₁.setTop (mkF m 14 #[.val (.double (Jvm.FP.l2d (x1.toInt64))), .second, .val (.long c1), .second, .val (.double (Jvm.FP.l2d (x2.toInt64))), .second, .val (.long c2), .second] [])) _
        refine XS.lloadN X0.here hx rfl (hb hby y0_14) rfl ?_
        refine XS.lload X0.here hx rfl (hb hby y0_15) rfl ?_
        refine XS.lcmp X0.here hx rfl (hb hby y0_17) rfl ?_
        exact k)
      by_cases z2 : (lcmpW c1 c2) < (0 : Int32)
      · obtain ⟨fs, hr, hrun, hended, hW, hsame⟩ := X0.leave (v := some (.int 1)) (fun h => by rw [Bd.returns] at h; cases h)
        refine ⟨_, _, z5 _ ?_, hrun, hended, _, _, rfl, ?_, ⟨_, rfl⟩, hW, hsame.mono (by decide) (by decide)⟩
        · show Steps p.tables e below (s₁.setTop (mkF m 18 #[.val (.double (Jvm.FP.l2d (x1.toInt64))), .second, .val (.long c1), .second, .val (.double (Jvm.FP.l2d (x2.toInt64))), .second, .val (.long c2), .second] [(.int (lcmpW c1 c2))])) _
          refine XS.ifNo X0.here hx rfl (hb hby y0_18) rfl ((if0 _ _).trans (tlt z2).2.1) ?_
          show Steps p.tables e below (s₁.setTop (mkF m 21 #[.val (.double (Jvm.FP.l2d (x1.toInt64))), .second, .val (.long c1), .second, .val (.double (Jvm.FP.l2d (x2.toInt64))), .second, .val (.long c2), .second] [])) _
          refine XS.iconst X0.here hx rfl (hb hby y0_21) ?_
          refine XS.goto X0.here hx rfl (pc0 := 22) (pc' := 26) rfl (hb hby y0_22) (by decide) (by decide) ?_
          exact retN X0 hx (t := .boolean) Bd.returns (by simp) (hb hby y0_26) hr
        · show PQ (some (.int (own_f_rmIB x1 x2 c1 c2))) h0 n0 _ s₁.heap _
          rw [e0]
          exact ⟨congrArg (fun z => some (Value.int z)) (by unfold own_f_rmIB; rw [if_neg z0, if_pos z1, if_pos z2]), N0, rfl⟩
      · obtain ⟨fs, hr, hrun, hended, hW, hsame⟩ := X0.leave (v := some (.int 0)) (fun h => by rw [Bd.returns] at h; cases h)
        refine ⟨_, _, z5 _ ?_, hrun, hended, _, _, rfl, ?_, ⟨_, rfl⟩, hW, hsame.mono (by decide) (by decide)⟩
        · show Steps p.tables e below (s₁.setTop (mkF m 18 #[.val (.double (Jvm.FP.l2d (x1.toInt64))), .second, .val (.long c1), .second, .val (.double (Jvm.FP.l2d (x2.toInt64))), .second, .val (.long c2), .second] [(.int (lcmpW c1 c2))])) _
          refine XS.ifYes X0.here hx rfl (pc0 := 18) (pc' := 25) rfl (hb hby y0_18) rfl ((if0 _ _).trans (flt z2).2.1) (by decide) (by decide) ?_
          show Steps p.tables e below (s₁.setTop (mkF m 25 #[.val (.double (Jvm.FP.l2d (x1.toInt64))), .second, .val (.long c1), .second, .val (.double (Jvm.FP.l2d (x2.toInt64))), .second, .val (.long c2), .second] [])) _
          refine XS.iconst X0.here hx rfl (hb hby y0_25) ?_
          exact retN X0 hx (t := .boolean) Bd.returns (by simp) (hb hby y0_26) hr
        · show PQ (some (.int (own_f_rmIB x1 x2 c1 c2))) h0 n0 _ s₁.heap _
          rw [e0]
          exact ⟨congrArg (fun z => some (Value.int z)) (by unfold own_f_rmIB; rw [if_neg z0, if_pos z1, if_neg z2]), N0, rfl⟩
    · obtain ⟨fs, hr, hrun, hended, hW, hsame⟩ := X0.leave (v := some (.int 0)) (fun h => by rw [Bd.returns] at h; cases h)
      refine ⟨_, _, z4 _ ?_, hrun, hended, _, _, rfl, ?_, ⟨_, rfl⟩, hW, hsame.mono (by decide) (by decide)⟩
      · show Steps p.tables e below (s₁.setTop (mkF m 11 #[.val (.double (Jvm.FP.l2d (x1.toInt64))), .second, .val (.long c1), .second, .val (.double (Jvm.FP.l2d (x2.toInt64))), .second, .val (.long c2), .second] [(.int (lcmpW (x1.toInt64) (x2.toInt64)))])) _
        refine XS.ifYes X0.here hx rfl (pc0 := 11) (pc' := 25) rfl (hb hby y0_11) rfl ((if0 _ _).trans (feq z1).2) (by decide) (by decide) ?_
        show Steps p.tables e below (s₁.setTop (mkF m 25 #[.val (.double (Jvm.FP.l2d (x1.toInt64))), .second, .val (.long c1), .second, .val (.double (Jvm.FP.l2d (x2.toInt64))), .second, .val (.long c2), .second] [])) _
        refine XS.iconst X0.here hx rfl (hb hby y0_25) ?_
        exact retN X0 hx (t := .boolean) Bd.returns (by simp) (hb hby y0_26) hr
      · show PQ (some (.int (own_f_rmIB x1 x2 c1 c2))) h0 n0 _ s₁.heap _
        rw [e0]
        exact ⟨congrArg (fun z => some (Value.int z)) (by unfold own_f_rmIB; rw [if_neg z0, if_neg z1]), N0, rfl⟩
def Q_rmP0 (Z : State) (A : Nat → Addr) (K : Nat → ClassId) (x1 : Int32) (x2 : Int32) (x3 : Int32) (c1 : Int64) (c2 : Int64) (c3 : Int64) (s1 : Int32) (s2 : Int32) (s3 : Int32) (vx : Int32) (vc : Int64) (vs : Int32) (z6 : Addr) (z0 : Addr) (z1 : Addr) (z2 : Addr) (z3 : ClassId) (z4 : ClassId) (z5 : ClassId) (h0 : Heap) (n0 : Nat) (v : Option Value) (h : Heap) (L : List Loc) : Prop := v = none ∧ Fr n0 L ∧ Keep h0 h [z0, z1, z2] ∧ (Arv Z h z0 z3 .double (16 : Int32) [(.double (Jvm.FP.l2d (vx.toInt64))), (.double (Jvm.FP.l2d (x2.toInt64))), (.double (Jvm.FP.l2d (x3.toInt64)))] (.double (Jvm.FP.l2d ((0 : Int32).toInt64)))) ∧ (Arv Z h z1 z4 .long (16 : Int32) [(.long vc), (.long c2), (.long c3)] (.long 0)) ∧ (Arv Z h z2 z5 .int 16 [(.int vs), (.int s2), (.int s3)] (.int 0))
theorem y1_0 : decode prog_48_method_11_code 0 = .ok (.aload_n 0, 1) := by decide +kernel
theorem y1_1 : decode prog_48_method_11_code 1 = .ok (.getfield 9, 3) := by decide +kernel
theorem y1_4 : decode prog_48_method_11_code 4 = .ok (.iload_n 1, 1) := by decide +kernel
theorem y1_5 : decode prog_48_method_11_code 5 = .ok (.dload_n 2, 1) := by decide +kernel
theorem y1_6 : decode prog_48_method_11_code 6 = .ok (.dastore, 1) := by decide +kernel
theorem y1_7 : decode prog_48_method_11_code 7 = .ok (.aload_n 0, 1) := by decide +kernel
theorem y1_8 : decode prog_48_method_11_code 8 = .ok (.getfield 15, 3) := by decide +kernel
theorem y1_11 : decode prog_48_method_11_code 11 = .ok (.iload_n 1, 1) := by decide +kernel
theorem y1_12 : decode prog_48_method_11_code 12 = .ok (.lload 4, 2) := by decide +kernel
theorem y1_14 : decode prog_48_method_11_code 14 = .ok (.lastore, 1) := by decide +kernel
theorem y1_15 : decode prog_48_method_11_code 15 = .ok (.aload_n 0, 1) := by decide +kernel
theorem y1_16 : decode prog_48_method_11_code 16 = .ok (.getfield 19, 3) := by decide +kernel
theorem y1_19 : decode prog_48_method_11_code 19 = .ok (.iload_n 1, 1) := by decide +kernel
theorem y1_20 : decode prog_48_method_11_code 20 = .ok (.iload 6, 2) := by decide +kernel
theorem y1_22 : decode prog_48_method_11_code 22 = .ok (.iastore, 1) := by decide +kernel
theorem y1_23 : decode prog_48_method_11_code 23 = .ok (.return_, 1) := by decide +kernel
set_option maxRecDepth 65536 in
set_option maxHeartbeats 40000000 in
theorem rmP0 (l : Launch) (Z : State) (a0 : Array Value) (hw : ∀ d ∈ tables_1, d.before a0 Z = true) (ws : List Jvm.Cond) (h0 : Heap) (n0 : Nat) (A : Nat → Addr) (K : Nat → ClassId) (x1 : Int32) (x2 : Int32) (x3 : Int32) (c1 : Int64) (c2 : Int64) (c3 : Int64) (s1 : Int32) (s2 : Int32) (s3 : Int32) (vx : Int32) (vc : Int64) (vs : Int32)  (z0 : Addr) (z1 : Addr) (z2 : Addr) (z3 : Addr) (z7 : ClassId) (z8 : ClassId) (z9 : ClassId) (EN : own_St Z A K) (OL0 : Old Z n0 h0) (zu : Fld Z h0 z0 y_s0 "at" "[D" (.ref z1)) (zv : Arv Z h0 z1 z7 .double (16 : Int32) [(.double (Jvm.FP.l2d (x1.toInt64))), (.double (Jvm.FP.l2d (x2.toInt64))), (.double (Jvm.FP.l2d (x3.toInt64)))] (.double (Jvm.FP.l2d ((0 : Int32).toInt64)))) (zw : Fld Z h0 z0 y_s0 "added" "[J" (.ref z2)) (zx : Arv Z h0 z2 z8 .long (16 : Int32) [(.long c1), (.long c2), (.long c3)] (.long 0)) (zy : Fld Z h0 z0 y_s0 "slot" "[I" (.ref z3)) (zz : Arv Z h0 z3 z9 .int 16 [(.int s1), (.int s2), (.int s3)] (.int 0)) (zg : z0 ≠ z1) (zh : z1 ≠ z2) (z10 : z0 ≠ z2) (zi : z1 ≠ z3) (zj : z2 ≠ z3) (zk : n0 ≤ z1) (zl : n0 ≤ z2) (zm : n0 ≤ z3) :
    MetFree l own_m2 (head1 (Jvm.Cond.code own_m2 prog_48_method_11_code 7 none :: ws) (Room.mk 0 0 0 0)) (fun a U => a = #[(.ref z0), (.int 0), (.double (Jvm.FP.l2d (vx.toInt64))), (.long vc), (.int vs)] ∧ Z.Warmed39 U.vm ∧ U.heap = h0) (fun _ _ _ _ _ => True) (fun _ U o U' => ∃ v L, o = .returned v ∧ Q_rmP0 Z A K x1 x2 x3 c1 c2 c3 s1 s2 s3 vx vc vs z0 z1 z2 z3 z7 z8 z9 h0 n0 v U'.heap L ∧ FrameEnd U o U' L (Room.mk 0 0 0 0).cells (Room.mk 0 0 0 0).slots) := by
  refine MetFree.of_bodySF (plainFor_of_name own_pn0) hisR ?_
  intro p e s m args below meth c s₁ Bd hml0 hP hK
  obtain ⟨rfl, hZ, hh⟩ := hP
  have hx := Bd.exec
  have hby := Bd.bytes
  have hml : c.maxLocals = 7 := hml0
  have hown : s.vm.findClass y_s0 = some m.cls := findClass_of_methodNamed Bd.named
  have hnm := (name_of_methodNamed Bd.named Bd.method).1
  have X0 : Stand p l e (Room.mk 0 0 0 0) s m #[(.ref z0), (.int 0), (.double (Jvm.FP.l2d (vx.toInt64))), (.long vc), (.int vs)] below meth c s₁ [] 0 0 := Stand.of_body Bd
  have e0 : s₁.heap = h0 := by rw [← hh, Bd.state]; rfl
  have N0 := Fr.nil n0
  have pre0 : ∀ t, Steps p.tables e below (s₁.setTop (mkF m 0 #[.val (.ref z0), .val (.int 0), .val (.double (Jvm.FP.l2d (vx.toInt64))), .second, .val (.long vc), .second, .val (.int vs)] [])) t → Steps p.tables e below (s₁.setTop (entryFrame m #[(.ref z0), (.int 0), (.double (Jvm.FP.l2d (vx.toInt64))), (.long vc), (.int vs)] 7)) t := fun t k => castTop (by first | (simp [entryFrame, mkF, argsToLocals, Value.category, maxLocals]; done) | rfl) k
  have KK0 : Keep h0 h0 [z1, z2, z3] := Keep.refl _ _
  obtain ⟨z11, za, z12, z13⟩ := getF X0 hx hZ hown (host := "") (Or.inl (own_W hw 10 rfl)) Via.refl e0 zu (g := (mkF m 1 #[.val (.ref z0), .val (.int 0), .val (.double (Jvm.FP.l2d (vx.toInt64))), .second, .val (.long vc), .second, .val (.int vs)] [(.ref z0)])) rfl rfl (hb hby y1_1)
  obtain ⟨z14, zn, z15, zo, z16, z17, z18⟩ := (id zv)
  have z19 : ¬ ((0 : Int32) < 0 ∨ z14.slots.size ≤ ((0 : Int32)).toNatClampNeg) := inb_of zo ⟨by decide, by decide⟩
  obtain ⟨z1a, z1b, zb, z1c, z4, z1d⟩ := stD za hx hZ z12 zn (j := (0 : Int32)) z19 (g := (mkF m 6 #[.val (.ref z0), .val (.int 0), .val (.double (Jvm.FP.l2d (vx.toInt64))), .second, .val (.long vc), .second, .val (.int vs)] [(.double (Jvm.FP.l2d (vx.toInt64))), (.int 0), (.ref z1)])) rfl rfl (hb hby y1_6)
  have z1e := Fr.snoc zb N0 zk
  have z1f := OL0.wr z4 zk
  have z1g := KK0.wr z4 (own_Ix 0 rfl)
  have z1h : Arv Z z1b z1 z7 .double (16 : Int32) [(.double (Jvm.FP.l2d (vx.toInt64))), (.double (Jvm.FP.l2d (x2.toInt64))), (.double (Jvm.FP.l2d (x3.toInt64)))] (.double (Jvm.FP.l2d ((0 : Int32).toInt64))) := Arv.set zn z15 zo z16 z17 z18 rfl z4 0 (by decide) (by decide : 0 < 3)
  have z1i := (zw.other z4 (Or.inl zg))
  obtain ⟨z1j, zc, z1k, z1l⟩ := getF zb hx hZ hown (host := "") (Or.inl (own_W hw 13 rfl)) Via.refl z1c z1i (g := (mkF m 8 #[.val (.ref z0), .val (.int 0), .val (.double (Jvm.FP.l2d (vx.toInt64))), .second, .val (.long vc), .second, .val (.int vs)] [(.ref z0)])) rfl rfl (hb hby y1_8)
  have z1m := (zx.other z4 (Ne.symm zh))
  obtain ⟨z1n, zp, z1o, zq, z1p, z1q, z1r⟩ := (id z1m)
  have z1s : ¬ ((0 : Int32) < 0 ∨ z1n.slots.size ≤ ((0 : Int32)).toNatClampNeg) := inb_of zq ⟨by decide, by decide⟩
  obtain ⟨z1t, z1u, zd, z1v, z5, z1w⟩ := stJ zc hx hZ z1k zp (j := (0 : Int32)) z1s (g := (mkF m 14 #[.val (.ref z0), .val (.int 0), .val (.double (Jvm.FP.l2d (vx.toInt64))), .second, .val (.long vc), .second, .val (.int vs)] [(.long vc), (.int 0), (.ref z2)])) rfl rfl (hb hby y1_14)
  have z1x := Fr.snoc zd z1e zl
  have z1y := z1f.wr z5 zl
  have z1z := z1g.wr z5 (own_Ix 1 rfl)
  have z20 : Arv Z z1u z2 z8 .long (16 : Int32) [(.long vc), (.long c2), (.long c3)] (.long 0) := Arv.set zp z1o zq z1p z1q z1r rfl z5 0 (by decide) (by decide : 0 < 3)
  have z21 := ((zy.other z4 (Or.inl zg)).other z5 (Or.inl z10))
  obtain ⟨z22, ze, z23, z24⟩ := getF zd hx hZ hown (host := "") (Or.inl (own_W hw 16 rfl)) Via.refl z1v z21 (g := (mkF m 16 #[.val (.ref z0), .val (.int 0), .val (.double (Jvm.FP.l2d (vx.toInt64))), .second, .val (.long vc), .second, .val (.int vs)] [(.ref z0)])) rfl rfl (hb hby y1_16)
  have z25 := ((zz.other z4 (Ne.symm zi)).other z5 (Ne.symm zj))
  obtain ⟨z26, zr, z27, zs, z28, z29, z2a⟩ := (id z25)
  have z2b : ¬ ((0 : Int32) < 0 ∨ z26.slots.size ≤ ((0 : Int32)).toNatClampNeg) := inb_of zs ⟨by decide, by decide⟩
  obtain ⟨zt, z2c, zf, z2d, z6, z2e⟩ := stI ze hx hZ z23 zr (j := (0 : Int32)) z2b (g := (mkF m 22 #[.val (.ref z0), .val (.int 0), .val (.double (Jvm.FP.l2d (vx.toInt64))), .second, .val (.long vc), .second, .val (.int vs)] [(.int vs), (.int 0), (.ref z3)])) rfl rfl (hb hby y1_22)
  have z2f := Fr.snoc zf z1x zm
  have z2k := z1y.wr z6 zm
  have z2g := z1z.wr z6 (own_Ix 2 rfl)
  have z2h : Arv Z z2c z3 z9 .int 16 [(.int vs), (.int s2), (.int s3)] (.int 0) := Arv.set zr z27 zs z28 z29 z2a rfl z6 0 (by decide) (by decide : 0 < 3)
  have z2i := ((z1h.other z5 zh).other z6 zi)
  have z2j := (z20.other z6 zj)
  obtain ⟨fs, hr, hrun, hended, hW, hsame⟩ := zf.leave (v := none) (fun _ => rfl)
  refine ⟨_, _, pre0 _ ?_, hrun, hended, _, _, rfl, ?_, ⟨_, rfl⟩, hW, hsame.mono (by decide) (by decide)⟩
  · show Steps p.tables e below (s₁.setTop (mkF m 0 #[.val (.ref z0), .val (.int 0), .val (.double (Jvm.FP.l2d (vx.toInt64))), .second, .val (.long vc), .second, .val (.int vs)] [])) _
    refine XS.aloadN X0.here hx rfl (hb hby y1_0) rfl rfl ?_
    refine z13 _ ?_
    show Steps p.tables e below (z11.setTop (mkF m 4 #[.val (.ref z0), .val (.int 0), .val (.double (Jvm.FP.l2d (vx.toInt64))), .second, .val (.long vc), .second, .val (.int vs)] [(.ref z1)])) _
    refine XS.iloadN za.here hx rfl (hb hby y1_4) rfl ?_
    refine XS.dloadN za.here hx rfl (hb hby y1_5) rfl ?_
    refine z1d _ ?_
    show Steps p.tables e below (z1a.setTop (mkF m 7 #[.val (.ref z0), .val (.int 0), .val (.double (Jvm.FP.l2d (vx.toInt64))), .second, .val (.long vc), .second, .val (.int vs)] [])) _
    refine XS.aloadN zb.here hx rfl (hb hby y1_7) rfl rfl ?_
    refine z1l _ ?_
    show Steps p.tables e below (z1j.setTop (mkF m 11 #[.val (.ref z0), .val (.int 0), .val (.double (Jvm.FP.l2d (vx.toInt64))), .second, .val (.long vc), .second, .val (.int vs)] [(.ref z2)])) _
    refine XS.iloadN zc.here hx rfl (hb hby y1_11) rfl ?_
    refine XS.lload zc.here hx rfl (hb hby y1_12) rfl ?_
    refine z1w _ ?_
    show Steps p.tables e below (z1t.setTop (mkF m 15 #[.val (.ref z0), .val (.int 0), .val (.double (Jvm.FP.l2d (vx.toInt64))), .second, .val (.long vc), .second, .val (.int vs)] [])) _
    refine XS.aloadN zd.here hx rfl (hb hby y1_15) rfl rfl ?_
    refine z24 _ ?_
    show Steps p.tables e below (z22.setTop (mkF m 19 #[.val (.ref z0), .val (.int 0), .val (.double (Jvm.FP.l2d (vx.toInt64))), .second, .val (.long vc), .second, .val (.int vs)] [(.ref z3)])) _
    refine XS.iloadN ze.here hx rfl (hb hby y1_19) rfl ?_
    refine XS.iload ze.here hx rfl (hb hby y1_20) rfl ?_
    refine z2e _ ?_
    show Steps p.tables e below (zt.setTop (mkF m 23 #[.val (.ref z0), .val (.int 0), .val (.double (Jvm.FP.l2d (vx.toInt64))), .second, .val (.long vc), .second, .val (.int vs)] [])) _
    exact zf.returnOut hx Bd.returns (hb hby y1_23) hr
  · show Q_rmP0 Z A K x1 x2 x3 c1 c2 c3 s1 s2 s3 vx vc vs z0 z1 z2 z3 z7 z8 z9 h0 n0 _ zt.heap _
    rw [z2d]
    exact ⟨rfl, z2f, z2g, z2i, z2j, z2h⟩
def Q_rmP1 (Z : State) (A : Nat → Addr) (K : Nat → ClassId) (x1 : Int32) (x2 : Int32) (x3 : Int32) (c1 : Int64) (c2 : Int64) (c3 : Int64) (s1 : Int32) (s2 : Int32) (s3 : Int32) (vx : Int32) (vc : Int64) (vs : Int32) (z6 : Addr) (z0 : Addr) (z1 : Addr) (z2 : Addr) (z3 : ClassId) (z4 : ClassId) (z5 : ClassId) (h0 : Heap) (n0 : Nat) (v : Option Value) (h : Heap) (L : List Loc) : Prop := v = none ∧ Fr n0 L ∧ Keep h0 h [z0, z1, z2] ∧ (Arv Z h z0 z3 .double (16 : Int32) [(.double (Jvm.FP.l2d (x1.toInt64))), (.double (Jvm.FP.l2d (vx.toInt64))), (.double (Jvm.FP.l2d (x3.toInt64)))] (.double (Jvm.FP.l2d ((0 : Int32).toInt64)))) ∧ (Arv Z h z1 z4 .long (16 : Int32) [(.long c1), (.long vc), (.long c3)] (.long 0)) ∧ (Arv Z h z2 z5 .int 16 [(.int s1), (.int vs), (.int s3)] (.int 0))
set_option maxRecDepth 65536 in
set_option maxHeartbeats 40000000 in
theorem rmP1 (l : Launch) (Z : State) (a0 : Array Value) (hw : ∀ d ∈ tables_1, d.before a0 Z = true) (ws : List Jvm.Cond) (h0 : Heap) (n0 : Nat) (A : Nat → Addr) (K : Nat → ClassId) (x1 : Int32) (x2 : Int32) (x3 : Int32) (c1 : Int64) (c2 : Int64) (c3 : Int64) (s1 : Int32) (s2 : Int32) (s3 : Int32) (vx : Int32) (vc : Int64) (vs : Int32)  (z0 : Addr) (z1 : Addr) (z2 : Addr) (z3 : Addr) (z7 : ClassId) (z8 : ClassId) (z9 : ClassId) (EN : own_St Z A K) (OL0 : Old Z n0 h0) (zu : Fld Z h0 z0 y_s0 "at" "[D" (.ref z1)) (zv : Arv Z h0 z1 z7 .double (16 : Int32) [(.double (Jvm.FP.l2d (x1.toInt64))), (.double (Jvm.FP.l2d (x2.toInt64))), (.double (Jvm.FP.l2d (x3.toInt64)))] (.double (Jvm.FP.l2d ((0 : Int32).toInt64)))) (zw : Fld Z h0 z0 y_s0 "added" "[J" (.ref z2)) (zx : Arv Z h0 z2 z8 .long (16 : Int32) [(.long c1), (.long c2), (.long c3)] (.long 0)) (zy : Fld Z h0 z0 y_s0 "slot" "[I" (.ref z3)) (zz : Arv Z h0 z3 z9 .int 16 [(.int s1), (.int s2), (.int s3)] (.int 0)) (zg : z0 ≠ z1) (zh : z1 ≠ z2) (z10 : z0 ≠ z2) (zi : z1 ≠ z3) (zj : z2 ≠ z3) (zk : n0 ≤ z1) (zl : n0 ≤ z2) (zm : n0 ≤ z3) :
    MetFree l own_m2 (head1 (Jvm.Cond.code own_m2 prog_48_method_11_code 7 none :: ws) (Room.mk 0 0 0 0)) (fun a U => a = #[(.ref z0), (.int 1), (.double (Jvm.FP.l2d (vx.toInt64))), (.long vc), (.int vs)] ∧ Z.Warmed39 U.vm ∧ U.heap = h0) (fun _ _ _ _ _ => True) (fun _ U o U' => ∃ v L, o = .returned v ∧ Q_rmP1 Z A K x1 x2 x3 c1 c2 c3 s1 s2 s3 vx vc vs z0 z1 z2 z3 z7 z8 z9 h0 n0 v U'.heap L ∧ FrameEnd U o U' L (Room.mk 0 0 0 0).cells (Room.mk 0 0 0 0).slots) := by
  refine MetFree.of_bodySF (plainFor_of_name own_pn0) hisR ?_
  intro p e s m args below meth c s₁ Bd hml0 hP hK
  obtain ⟨rfl, hZ, hh⟩ := hP
  have hx := Bd.exec
  have hby := Bd.bytes
  have hml : c.maxLocals = 7 := hml0
  have hown : s.vm.findClass y_s0 = some m.cls := findClass_of_methodNamed Bd.named
  have hnm := (name_of_methodNamed Bd.named Bd.method).1
  have X0 : Stand p l e (Room.mk 0 0 0 0) s m #[(.ref z0), (.int 1), (.double (Jvm.FP.l2d (vx.toInt64))), (.long vc), (.int vs)] below meth c s₁ [] 0 0 := Stand.of_body Bd
  have e0 : s₁.heap = h0 := by rw [← hh, Bd.state]; rfl
  have N0 := Fr.nil n0
  have pre0 : ∀ t, Steps p.tables e below (s₁.setTop (mkF m 0 #[.val (.ref z0), .val (.int 1), .val (.double (Jvm.FP.l2d (vx.toInt64))), .second, .val (.long vc), .second, .val (.int vs)] [])) t → Steps p.tables e below (s₁.setTop (entryFrame m #[(.ref z0), (.int 1), (.double (Jvm.FP.l2d (vx.toInt64))), (.long vc), (.int vs)] 7)) t := fun t k => castTop (by first | (simp [entryFrame, mkF, argsToLocals, Value.category, maxLocals]; done) | rfl) k
  have KK0 : Keep h0 h0 [z1, z2, z3] := Keep.refl _ _
  obtain ⟨z11, za, z12, z13⟩ := getF X0 hx hZ hown (host := "") (Or.inl (own_W hw 10 rfl)) Via.refl e0 zu (g := (mkF m 1 #[.val (.ref z0), .val (.int 1), .val (.double (Jvm.FP.l2d (vx.toInt64))), .second, .val (.long vc), .second, .val (.int vs)] [(.ref z0)])) rfl rfl (hb hby y1_1)
  obtain ⟨z14, zn, z15, zo, z16, z17, z18⟩ := (id zv)
  have z19 : ¬ ((1 : Int32) < 0 ∨ z14.slots.size ≤ ((1 : Int32)).toNatClampNeg) := inb_of zo ⟨by decide, by decide⟩
  obtain ⟨z1a, z1b, zb, z1c, z4, z1d⟩ := stD za hx hZ z12 zn (j := (1 : Int32)) z19 (g := (mkF m 6 #[.val (.ref z0), .val (.int 1), .val (.double (Jvm.FP.l2d (vx.toInt64))), .second, .val (.long vc), .second, .val (.int vs)] [(.double (Jvm.FP.l2d (vx.toInt64))), (.int 1), (.ref z1)])) rfl rfl (hb hby y1_6)
  have z1e := Fr.snoc zb N0 zk
  have z1f := OL0.wr z4 zk
  have z1g := KK0.wr z4 (own_Ix 0 rfl)
  have z1h : Arv Z z1b z1 z7 .double (16 : Int32) [(.double (Jvm.FP.l2d (x1.toInt64))), (.double (Jvm.FP.l2d (vx.toInt64))), (.double (Jvm.FP.l2d (x3.toInt64)))] (.double (Jvm.FP.l2d ((0 : Int32).toInt64))) := Arv.set zn z15 zo z16 z17 z18 rfl z4 1 (by decide) (by decide : 1 < 3)
  have z1i := (zw.other z4 (Or.inl zg))
  obtain ⟨z1j, zc, z1k, z1l⟩ := getF zb hx hZ hown (host := "") (Or.inl (own_W hw 13 rfl)) Via.refl z1c z1i (g := (mkF m 8 #[.val (.ref z0), .val (.int 1), .val (.double (Jvm.FP.l2d (vx.toInt64))), .second, .val (.long vc), .second, .val (.int vs)] [(.ref z0)])) rfl rfl (hb hby y1_8)
  have z1m := (zx.other z4 (Ne.symm zh))
  obtain ⟨z1n, zp, z1o, zq, z1p, z1q, z1r⟩ := (id z1m)
  have z1s : ¬ ((1 : Int32) < 0 ∨ z1n.slots.size ≤ ((1 : Int32)).toNatClampNeg) := inb_of zq ⟨by decide, by decide⟩
  obtain ⟨z1t, z1u, zd, z1v, z5, z1w⟩ := stJ zc hx hZ z1k zp (j := (1 : Int32)) z1s (g := (mkF m 14 #[.val (.ref z0), .val (.int 1), .val (.double (Jvm.FP.l2d (vx.toInt64))), .second, .val (.long vc), .second, .val (.int vs)] [(.long vc), (.int 1), (.ref z2)])) rfl rfl (hb hby y1_14)
  have z1x := Fr.snoc zd z1e zl
  have z1y := z1f.wr z5 zl
  have z1z := z1g.wr z5 (own_Ix 1 rfl)
  have z20 : Arv Z z1u z2 z8 .long (16 : Int32) [(.long c1), (.long vc), (.long c3)] (.long 0) := Arv.set zp z1o zq z1p z1q z1r rfl z5 1 (by decide) (by decide : 1 < 3)
  have z21 := ((zy.other z4 (Or.inl zg)).other z5 (Or.inl z10))
  obtain ⟨z22, ze, z23, z24⟩ := getF zd hx hZ hown (host := "") (Or.inl (own_W hw 16 rfl)) Via.refl z1v z21 (g := (mkF m 16 #[.val (.ref z0), .val (.int 1), .val (.double (Jvm.FP.l2d (vx.toInt64))), .second, .val (.long vc), .second, .val (.int vs)] [(.ref z0)])) rfl rfl (hb hby y1_16)
  have z25 := ((zz.other z4 (Ne.symm zi)).other z5 (Ne.symm zj))
  obtain ⟨z26, zr, z27, zs, z28, z29, z2a⟩ := (id z25)
  have z2b : ¬ ((1 : Int32) < 0 ∨ z26.slots.size ≤ ((1 : Int32)).toNatClampNeg) := inb_of zs ⟨by decide, by decide⟩
  obtain ⟨zt, z2c, zf, z2d, z6, z2e⟩ := stI ze hx hZ z23 zr (j := (1 : Int32)) z2b (g := (mkF m 22 #[.val (.ref z0), .val (.int 1), .val (.double (Jvm.FP.l2d (vx.toInt64))), .second, .val (.long vc), .second, .val (.int vs)] [(.int vs), (.int 1), (.ref z3)])) rfl rfl (hb hby y1_22)
  have z2f := Fr.snoc zf z1x zm
  have z2k := z1y.wr z6 zm
  have z2g := z1z.wr z6 (own_Ix 2 rfl)
  have z2h : Arv Z z2c z3 z9 .int 16 [(.int s1), (.int vs), (.int s3)] (.int 0) := Arv.set zr z27 zs z28 z29 z2a rfl z6 1 (by decide) (by decide : 1 < 3)
  have z2i := ((z1h.other z5 zh).other z6 zi)
  have z2j := (z20.other z6 zj)
  obtain ⟨fs, hr, hrun, hended, hW, hsame⟩ := zf.leave (v := none) (fun _ => rfl)
  refine ⟨_, _, pre0 _ ?_, hrun, hended, _, _, rfl, ?_, ⟨_, rfl⟩, hW, hsame.mono (by decide) (by decide)⟩
  · show Steps p.tables e below (s₁.setTop (mkF m 0 #[.val (.ref z0), .val (.int 1), .val (.double (Jvm.FP.l2d (vx.toInt64))), .second, .val (.long vc), .second, .val (.int vs)] [])) _
    refine XS.aloadN X0.here hx rfl (hb hby y1_0) rfl rfl ?_
    refine z13 _ ?_
    show Steps p.tables e below (z11.setTop (mkF m 4 #[.val (.ref z0), .val (.int 1), .val (.double (Jvm.FP.l2d (vx.toInt64))), .second, .val (.long vc), .second, .val (.int vs)] [(.ref z1)])) _
    refine XS.iloadN za.here hx rfl (hb hby y1_4) rfl ?_
    refine XS.dloadN za.here hx rfl (hb hby y1_5) rfl ?_
    refine z1d _ ?_
    show Steps p.tables e below (z1a.setTop (mkF m 7 #[.val (.ref z0), .val (.int 1), .val (.double (Jvm.FP.l2d (vx.toInt64))), .second, .val (.long vc), .second, .val (.int vs)] [])) _
    refine XS.aloadN zb.here hx rfl (hb hby y1_7) rfl rfl ?_
    refine z1l _ ?_
    show Steps p.tables e below (z1j.setTop (mkF m 11 #[.val (.ref z0), .val (.int 1), .val (.double (Jvm.FP.l2d (vx.toInt64))), .second, .val (.long vc), .second, .val (.int vs)] [(.ref z2)])) _
    refine XS.iloadN zc.here hx rfl (hb hby y1_11) rfl ?_
    refine XS.lload zc.here hx rfl (hb hby y1_12) rfl ?_
    refine z1w _ ?_
    show Steps p.tables e below (z1t.setTop (mkF m 15 #[.val (.ref z0), .val (.int 1), .val (.double (Jvm.FP.l2d (vx.toInt64))), .second, .val (.long vc), .second, .val (.int vs)] [])) _
    refine XS.aloadN zd.here hx rfl (hb hby y1_15) rfl rfl ?_
    refine z24 _ ?_
    show Steps p.tables e below (z22.setTop (mkF m 19 #[.val (.ref z0), .val (.int 1), .val (.double (Jvm.FP.l2d (vx.toInt64))), .second, .val (.long vc), .second, .val (.int vs)] [(.ref z3)])) _
    refine XS.iloadN ze.here hx rfl (hb hby y1_19) rfl ?_
    refine XS.iload ze.here hx rfl (hb hby y1_20) rfl ?_
    refine z2e _ ?_
    show Steps p.tables e below (zt.setTop (mkF m 23 #[.val (.ref z0), .val (.int 1), .val (.double (Jvm.FP.l2d (vx.toInt64))), .second, .val (.long vc), .second, .val (.int vs)] [])) _
    exact zf.returnOut hx Bd.returns (hb hby y1_23) hr
  · show Q_rmP1 Z A K x1 x2 x3 c1 c2 c3 s1 s2 s3 vx vc vs z0 z1 z2 z3 z7 z8 z9 h0 n0 _ zt.heap _
    rw [z2d]
    exact ⟨rfl, z2f, z2g, z2i, z2j, z2h⟩
def Q_rmP2 (Z : State) (A : Nat → Addr) (K : Nat → ClassId) (x1 : Int32) (x2 : Int32) (x3 : Int32) (c1 : Int64) (c2 : Int64) (c3 : Int64) (s1 : Int32) (s2 : Int32) (s3 : Int32) (vx : Int32) (vc : Int64) (vs : Int32) (z6 : Addr) (z0 : Addr) (z1 : Addr) (z2 : Addr) (z3 : ClassId) (z4 : ClassId) (z5 : ClassId) (h0 : Heap) (n0 : Nat) (v : Option Value) (h : Heap) (L : List Loc) : Prop := v = none ∧ Fr n0 L ∧ Keep h0 h [z0, z1, z2] ∧ (Arv Z h z0 z3 .double (16 : Int32) [(.double (Jvm.FP.l2d (x1.toInt64))), (.double (Jvm.FP.l2d (x2.toInt64))), (.double (Jvm.FP.l2d (vx.toInt64)))] (.double (Jvm.FP.l2d ((0 : Int32).toInt64)))) ∧ (Arv Z h z1 z4 .long (16 : Int32) [(.long c1), (.long c2), (.long vc)] (.long 0)) ∧ (Arv Z h z2 z5 .int 16 [(.int s1), (.int s2), (.int vs)] (.int 0))
set_option maxRecDepth 65536 in
set_option maxHeartbeats 40000000 in
theorem rmP2 (l : Launch) (Z : State) (a0 : Array Value) (hw : ∀ d ∈ tables_1, d.before a0 Z = true) (ws : List Jvm.Cond) (h0 : Heap) (n0 : Nat) (A : Nat → Addr) (K : Nat → ClassId) (x1 : Int32) (x2 : Int32) (x3 : Int32) (c1 : Int64) (c2 : Int64) (c3 : Int64) (s1 : Int32) (s2 : Int32) (s3 : Int32) (vx : Int32) (vc : Int64) (vs : Int32)  (z0 : Addr) (z1 : Addr) (z2 : Addr) (z3 : Addr) (z7 : ClassId) (z8 : ClassId) (z9 : ClassId) (EN : own_St Z A K) (OL0 : Old Z n0 h0) (zu : Fld Z h0 z0 y_s0 "at" "[D" (.ref z1)) (zv : Arv Z h0 z1 z7 .double (16 : Int32) [(.double (Jvm.FP.l2d (x1.toInt64))), (.double (Jvm.FP.l2d (x2.toInt64))), (.double (Jvm.FP.l2d (x3.toInt64)))] (.double (Jvm.FP.l2d ((0 : Int32).toInt64)))) (zw : Fld Z h0 z0 y_s0 "added" "[J" (.ref z2)) (zx : Arv Z h0 z2 z8 .long (16 : Int32) [(.long c1), (.long c2), (.long c3)] (.long 0)) (zy : Fld Z h0 z0 y_s0 "slot" "[I" (.ref z3)) (zz : Arv Z h0 z3 z9 .int 16 [(.int s1), (.int s2), (.int s3)] (.int 0)) (zg : z0 ≠ z1) (zh : z1 ≠ z2) (z10 : z0 ≠ z2) (zi : z1 ≠ z3) (zj : z2 ≠ z3) (zk : n0 ≤ z1) (zl : n0 ≤ z2) (zm : n0 ≤ z3) :
    MetFree l own_m2 (head1 (Jvm.Cond.code own_m2 prog_48_method_11_code 7 none :: ws) (Room.mk 0 0 0 0)) (fun a U => a = #[(.ref z0), (.int 2), (.double (Jvm.FP.l2d (vx.toInt64))), (.long vc), (.int vs)] ∧ Z.Warmed39 U.vm ∧ U.heap = h0) (fun _ _ _ _ _ => True) (fun _ U o U' => ∃ v L, o = .returned v ∧ Q_rmP2 Z A K x1 x2 x3 c1 c2 c3 s1 s2 s3 vx vc vs z0 z1 z2 z3 z7 z8 z9 h0 n0 v U'.heap L ∧ FrameEnd U o U' L (Room.mk 0 0 0 0).cells (Room.mk 0 0 0 0).slots) := by
  refine MetFree.of_bodySF (plainFor_of_name own_pn0) hisR ?_
  intro p e s m args below meth c s₁ Bd hml0 hP hK
  obtain ⟨rfl, hZ, hh⟩ := hP
  have hx := Bd.exec
  have hby := Bd.bytes
  have hml : c.maxLocals = 7 := hml0
  have hown : s.vm.findClass y_s0 = some m.cls := findClass_of_methodNamed Bd.named
  have hnm := (name_of_methodNamed Bd.named Bd.method).1
  have X0 : Stand p l e (Room.mk 0 0 0 0) s m #[(.ref z0), (.int 2), (.double (Jvm.FP.l2d (vx.toInt64))), (.long vc), (.int vs)] below meth c s₁ [] 0 0 := Stand.of_body Bd
  have e0 : s₁.heap = h0 := by rw [← hh, Bd.state]; rfl
  have N0 := Fr.nil n0
  have pre0 : ∀ t, Steps p.tables e below (s₁.setTop (mkF m 0 #[.val (.ref z0), .val (.int 2), .val (.double (Jvm.FP.l2d (vx.toInt64))), .second, .val (.long vc), .second, .val (.int vs)] [])) t → Steps p.tables e below (s₁.setTop (entryFrame m #[(.ref z0), (.int 2), (.double (Jvm.FP.l2d (vx.toInt64))), (.long vc), (.int vs)] 7)) t := fun t k => castTop (by first | (simp [entryFrame, mkF, argsToLocals, Value.category, maxLocals]; done) | rfl) k
  have KK0 : Keep h0 h0 [z1, z2, z3] := Keep.refl _ _
  obtain ⟨z11, za, z12, z13⟩ := getF X0 hx hZ hown (host := "") (Or.inl (own_W hw 10 rfl)) Via.refl e0 zu (g := (mkF m 1 #[.val (.ref z0), .val (.int 2), .val (.double (Jvm.FP.l2d (vx.toInt64))), .second, .val (.long vc), .second, .val (.int vs)] [(.ref z0)])) rfl rfl (hb hby y1_1)
  obtain ⟨z14, zn, z15, zo, z16, z17, z18⟩ := (id zv)
  have z19 : ¬ ((2 : Int32) < 0 ∨ z14.slots.size ≤ ((2 : Int32)).toNatClampNeg) := inb_of zo ⟨by decide, by decide⟩
  obtain ⟨z1a, z1b, zb, z1c, z4, z1d⟩ := stD za hx hZ z12 zn (j := (2 : Int32)) z19 (g := (mkF m 6 #[.val (.ref z0), .val (.int 2), .val (.double (Jvm.FP.l2d (vx.toInt64))), .second, .val (.long vc), .second, .val (.int vs)] [(.double (Jvm.FP.l2d (vx.toInt64))), (.int 2), (.ref z1)])) rfl rfl (hb hby y1_6)
  have z1e := Fr.snoc zb N0 zk
  have z1f := OL0.wr z4 zk
  have z1g := KK0.wr z4 (own_Ix 0 rfl)
  have z1h : Arv Z z1b z1 z7 .double (16 : Int32) [(.double (Jvm.FP.l2d (x1.toInt64))), (.double (Jvm.FP.l2d (x2.toInt64))), (.double (Jvm.FP.l2d (vx.toInt64)))] (.double (Jvm.FP.l2d ((0 : Int32).toInt64))) := Arv.set zn z15 zo z16 z17 z18 rfl z4 2 (by decide) (by decide : 2 < 3)
  have z1i := (zw.other z4 (Or.inl zg))
  obtain ⟨z1j, zc, z1k, z1l⟩ := getF zb hx hZ hown (host := "") (Or.inl (own_W hw 13 rfl)) Via.refl z1c z1i (g := (mkF m 8 #[.val (.ref z0), .val (.int 2), .val (.double (Jvm.FP.l2d (vx.toInt64))), .second, .val (.long vc), .second, .val (.int vs)] [(.ref z0)])) rfl rfl (hb hby y1_8)
  have z1m := (zx.other z4 (Ne.symm zh))
  obtain ⟨z1n, zp, z1o, zq, z1p, z1q, z1r⟩ := (id z1m)
  have z1s : ¬ ((2 : Int32) < 0 ∨ z1n.slots.size ≤ ((2 : Int32)).toNatClampNeg) := inb_of zq ⟨by decide, by decide⟩
  obtain ⟨z1t, z1u, zd, z1v, z5, z1w⟩ := stJ zc hx hZ z1k zp (j := (2 : Int32)) z1s (g := (mkF m 14 #[.val (.ref z0), .val (.int 2), .val (.double (Jvm.FP.l2d (vx.toInt64))), .second, .val (.long vc), .second, .val (.int vs)] [(.long vc), (.int 2), (.ref z2)])) rfl rfl (hb hby y1_14)
  have z1x := Fr.snoc zd z1e zl
  have z1y := z1f.wr z5 zl
  have z1z := z1g.wr z5 (own_Ix 1 rfl)
  have z20 : Arv Z z1u z2 z8 .long (16 : Int32) [(.long c1), (.long c2), (.long vc)] (.long 0) := Arv.set zp z1o zq z1p z1q z1r rfl z5 2 (by decide) (by decide : 2 < 3)
  have z21 := ((zy.other z4 (Or.inl zg)).other z5 (Or.inl z10))
  obtain ⟨z22, ze, z23, z24⟩ := getF zd hx hZ hown (host := "") (Or.inl (own_W hw 16 rfl)) Via.refl z1v z21 (g := (mkF m 16 #[.val (.ref z0), .val (.int 2), .val (.double (Jvm.FP.l2d (vx.toInt64))), .second, .val (.long vc), .second, .val (.int vs)] [(.ref z0)])) rfl rfl (hb hby y1_16)
  have z25 := ((zz.other z4 (Ne.symm zi)).other z5 (Ne.symm zj))
  obtain ⟨z26, zr, z27, zs, z28, z29, z2a⟩ := (id z25)
  have z2b : ¬ ((2 : Int32) < 0 ∨ z26.slots.size ≤ ((2 : Int32)).toNatClampNeg) := inb_of zs ⟨by decide, by decide⟩
  obtain ⟨zt, z2c, zf, z2d, z6, z2e⟩ := stI ze hx hZ z23 zr (j := (2 : Int32)) z2b (g := (mkF m 22 #[.val (.ref z0), .val (.int 2), .val (.double (Jvm.FP.l2d (vx.toInt64))), .second, .val (.long vc), .second, .val (.int vs)] [(.int vs), (.int 2), (.ref z3)])) rfl rfl (hb hby y1_22)
  have z2f := Fr.snoc zf z1x zm
  have z2k := z1y.wr z6 zm
  have z2g := z1z.wr z6 (own_Ix 2 rfl)
  have z2h : Arv Z z2c z3 z9 .int 16 [(.int s1), (.int s2), (.int vs)] (.int 0) := Arv.set zr z27 zs z28 z29 z2a rfl z6 2 (by decide) (by decide : 2 < 3)
  have z2i := ((z1h.other z5 zh).other z6 zi)
  have z2j := (z20.other z6 zj)
  obtain ⟨fs, hr, hrun, hended, hW, hsame⟩ := zf.leave (v := none) (fun _ => rfl)
  refine ⟨_, _, pre0 _ ?_, hrun, hended, _, _, rfl, ?_, ⟨_, rfl⟩, hW, hsame.mono (by decide) (by decide)⟩
  · show Steps p.tables e below (s₁.setTop (mkF m 0 #[.val (.ref z0), .val (.int 2), .val (.double (Jvm.FP.l2d (vx.toInt64))), .second, .val (.long vc), .second, .val (.int vs)] [])) _
    refine XS.aloadN X0.here hx rfl (hb hby y1_0) rfl rfl ?_
    refine z13 _ ?_
    show Steps p.tables e below (z11.setTop (mkF m 4 #[.val (.ref z0), .val (.int 2), .val (.double (Jvm.FP.l2d (vx.toInt64))), .second, .val (.long vc), .second, .val (.int vs)] [(.ref z1)])) _
    refine XS.iloadN za.here hx rfl (hb hby y1_4) rfl ?_
    refine XS.dloadN za.here hx rfl (hb hby y1_5) rfl ?_
    refine z1d _ ?_
    show Steps p.tables e below (z1a.setTop (mkF m 7 #[.val (.ref z0), .val (.int 2), .val (.double (Jvm.FP.l2d (vx.toInt64))), .second, .val (.long vc), .second, .val (.int vs)] [])) _
    refine XS.aloadN zb.here hx rfl (hb hby y1_7) rfl rfl ?_
    refine z1l _ ?_
    show Steps p.tables e below (z1j.setTop (mkF m 11 #[.val (.ref z0), .val (.int 2), .val (.double (Jvm.FP.l2d (vx.toInt64))), .second, .val (.long vc), .second, .val (.int vs)] [(.ref z2)])) _
    refine XS.iloadN zc.here hx rfl (hb hby y1_11) rfl ?_
    refine XS.lload zc.here hx rfl (hb hby y1_12) rfl ?_
    refine z1w _ ?_
    show Steps p.tables e below (z1t.setTop (mkF m 15 #[.val (.ref z0), .val (.int 2), .val (.double (Jvm.FP.l2d (vx.toInt64))), .second, .val (.long vc), .second, .val (.int vs)] [])) _
    refine XS.aloadN zd.here hx rfl (hb hby y1_15) rfl rfl ?_
    refine z24 _ ?_
    show Steps p.tables e below (z22.setTop (mkF m 19 #[.val (.ref z0), .val (.int 2), .val (.double (Jvm.FP.l2d (vx.toInt64))), .second, .val (.long vc), .second, .val (.int vs)] [(.ref z3)])) _
    refine XS.iloadN ze.here hx rfl (hb hby y1_19) rfl ?_
    refine XS.iload ze.here hx rfl (hb hby y1_20) rfl ?_
    refine z2e _ ?_
    show Steps p.tables e below (zt.setTop (mkF m 23 #[.val (.ref z0), .val (.int 2), .val (.double (Jvm.FP.l2d (vx.toInt64))), .second, .val (.long vc), .second, .val (.int vs)] [])) _
    exact zf.returnOut hx Bd.returns (hb hby y1_23) hr
  · show Q_rmP2 Z A K x1 x2 x3 c1 c2 c3 s1 s2 s3 vx vc vs z0 z1 z2 z3 z7 z8 z9 h0 n0 _ zt.heap _
    rw [z2d]
    exact ⟨rfl, z2f, z2g, z2i, z2j, z2h⟩
def Q_rmM01 (Z : State) (A : Nat → Addr) (K : Nat → ClassId) (x1 : Int32) (x2 : Int32) (x3 : Int32) (c1 : Int64) (c2 : Int64) (c3 : Int64) (s1 : Int32) (s2 : Int32) (s3 : Int32) (z6 : Addr) (z0 : Addr) (z1 : Addr) (z2 : Addr) (z3 : ClassId) (z4 : ClassId) (z5 : ClassId) (h0 : Heap) (n0 : Nat) (v : Option Value) (h : Heap) (L : List Loc) : Prop := v = none ∧ Fr n0 L ∧ Keep h0 h [z2, z1, z0] ∧ (Arv Z h z0 z3 .double (16 : Int32) [(.double (Jvm.FP.l2d (x1.toInt64))), (.double (Jvm.FP.l2d (x1.toInt64))), (.double (Jvm.FP.l2d (x3.toInt64)))] (.double (Jvm.FP.l2d ((0 : Int32).toInt64)))) ∧ (Arv Z h z1 z4 .long (16 : Int32) [(.long c1), (.long c1), (.long c3)] (.long 0)) ∧ (Arv Z h z2 z5 .int 16 [(.int s1), (.int s1), (.int s3)] (.int 0))
theorem y2_0 : decode prog_48_method_10_code 0 = .ok (.aload_n 0, 1) := by decide +kernel
theorem y2_1 : decode prog_48_method_10_code 1 = .ok (.iload_n 2, 1) := by decide +kernel
theorem y2_2 : decode prog_48_method_10_code 2 = .ok (.aload_n 0, 1) := by decide +kernel
theorem y2_3 : decode prog_48_method_10_code 3 = .ok (.getfield 9, 3) := by decide +kernel
theorem y2_6 : decode prog_48_method_10_code 6 = .ok (.iload_n 1, 1) := by decide +kernel
theorem y2_7 : decode prog_48_method_10_code 7 = .ok (.daload, 1) := by decide +kernel
theorem y2_8 : decode prog_48_method_10_code 8 = .ok (.aload_n 0, 1) := by decide +kernel
theorem y2_9 : decode prog_48_method_10_code 9 = .ok (.getfield 15, 3) := by decide +kernel
theorem y2_12 : decode prog_48_method_10_code 12 = .ok (.iload_n 1, 1) := by decide +kernel
theorem y2_13 : decode prog_48_method_10_code 13 = .ok (.laload, 1) := by decide +kernel
theorem y2_14 : decode prog_48_method_10_code 14 = .ok (.aload_n 0, 1) := by decide +kernel
theorem y2_15 : decode prog_48_method_10_code 15 = .ok (.getfield 19, 3) := by decide +kernel
theorem y2_18 : decode prog_48_method_10_code 18 = .ok (.iload_n 1, 1) := by decide +kernel
theorem y2_19 : decode prog_48_method_10_code 19 = .ok (.iaload, 1) := by decide +kernel
theorem y2_20 : decode prog_48_method_10_code 20 = .ok (.invokevirtual 55, 3) := by decide +kernel
theorem y2_23 : decode prog_48_method_10_code 23 = .ok (.return_, 1) := by decide +kernel
set_option maxRecDepth 65536 in
set_option maxHeartbeats 40000000 in
theorem rmM01 (l : Launch) (Z : State) (a0 : Array Value) (hw : ∀ d ∈ tables_1, d.before a0 Z = true) (ws : List Jvm.Cond) (h0 : Heap) (n0 : Nat) (A : Nat → Addr) (K : Nat → ClassId) (x1 : Int32) (x2 : Int32) (x3 : Int32) (c1 : Int64) (c2 : Int64) (c3 : Int64) (s1 : Int32) (s2 : Int32) (s3 : Int32)  (z0 : Addr) (z1 : Addr) (z2 : Addr) (z3 : Addr) (z5 : ClassId) (z6 : ClassId) (z7 : ClassId) (EN : own_St Z A K) (OL0 : Old Z n0 h0) (zf : Fld Z h0 z0 y_s0 "at" "[D" (.ref z1)) (zg : Arv Z h0 z1 z5 .double (16 : Int32) [(.double (Jvm.FP.l2d (x1.toInt64))), (.double (Jvm.FP.l2d (x2.toInt64))), (.double (Jvm.FP.l2d (x3.toInt64)))] (.double (Jvm.FP.l2d ((0 : Int32).toInt64)))) (zh : Fld Z h0 z0 y_s0 "added" "[J" (.ref z2)) (zi : Arv Z h0 z2 z6 .long (16 : Int32) [(.long c1), (.long c2), (.long c3)] (.long 0)) (zj : Fld Z h0 z0 y_s0 "slot" "[I" (.ref z3)) (zk : Arv Z h0 z3 z7 .int 16 [(.int s1), (.int s2), (.int s3)] (.int 0)) (z13 : Exa Z h0 z0 y_s0) (z14 : z0 ≠ z1) (z15 : z1 ≠ z2) (z16 : z0 ≠ z2) (z17 : z1 ≠ z3) (z18 : z2 ≠ z3) (zl : n0 ≤ z1) (zm : n0 ≤ z2) (zn : n0 ≤ z3) :
    MetFree l own_m4 (head1 (Jvm.Cond.code own_m4 prog_48_method_10_code 3 none :: ws) (Room.mk 1 0 0 18)) (fun a U => a = #[(.ref z0), (.int 0), (.int 1)] ∧ Z.Warmed39 U.vm ∧ U.heap = h0) (fun _ _ _ _ _ => True) (fun _ U o U' => ∃ v L, o = .returned v ∧ Q_rmM01 Z A K x1 x2 x3 c1 c2 c3 s1 s2 s3 z0 z1 z2 z3 z5 z6 z7 h0 n0 v U'.heap L ∧ FrameEnd U o U' L (Room.mk 1 0 0 18).cells (Room.mk 1 0 0 18).slots) := by
  refine MetFree.of_bodySF (plainFor_of_name own_pn0) hisR ?_
  intro p e s m args below meth c s₁ Bd hml0 hP hK
  obtain ⟨rfl, hZ, hh⟩ := hP
  have hx := Bd.exec
  have hby := Bd.bytes
  have hml : c.maxLocals = 3 := hml0
  have hown : s.vm.findClass y_s0 = some m.cls := findClass_of_methodNamed Bd.named
  have hnm := (name_of_methodNamed Bd.named Bd.method).1
  have X0 : Stand p l e (Room.mk 1 0 0 18) s m #[(.ref z0), (.int 0), (.int 1)] below meth c s₁ [] 0 0 := Stand.of_body Bd
  have e0 : s₁.heap = h0 := by rw [← hh, Bd.state]; rfl
  have N0 := Fr.nil n0
  have pre0 : ∀ t, Steps p.tables e below (s₁.setTop (mkF m 0 #[.val (.ref z0), .val (.int 0), .val (.int 1)] [])) t → Steps p.tables e below (s₁.setTop (entryFrame m #[(.ref z0), (.int 0), (.int 1)] 3)) t := fun t k => castTop (by first | (simp [entryFrame, mkF, argsToLocals, Value.category, maxLocals]; done) | rfl) k
  have KK0 : Keep h0 h0 [z3, z2, z1] := Keep.refl _ _
  obtain ⟨zo, z8, zp, z19⟩ := getF X0 hx hZ hown (host := "") (Or.inl (own_W hw 10 rfl)) Via.refl e0 zf (g := (mkF m 3 #[.val (.ref z0), .val (.int 0), .val (.int 1)] [(.ref z0), (.int 1), (.ref z0)])) rfl rfl (hb hby y2_3)
  obtain ⟨zq, za, z1s, z1a, z1t, z1b, z1u⟩ := (id zg)
  have zr : ¬ ((0 : Int32) < 0 ∨ zq.slots.size ≤ ((0 : Int32)).toNatClampNeg) := inb_of z1a ⟨by decide, by decide⟩
  have z1c : zq.slots[((0 : Int32)).toNatClampNeg]? = some (.double (Jvm.FP.l2d (x1.toInt64))) := Has.at z1b zr rfl
  obtain ⟨zs, z9, zt, z1d⟩ := getF z8 hx hZ hown (host := "") (Or.inl (own_W hw 13 rfl)) Via.refl zp zh (g := (mkF m 9 #[.val (.ref z0), .val (.int 0), .val (.int 1)] [(.ref z0), (.double (Jvm.FP.l2d (x1.toInt64))), (.int 1), (.ref z0)])) rfl rfl (hb hby y2_9)
  obtain ⟨zu, zb, z1v, z1e, z1w, z1f, z1x⟩ := (id zi)
  have zv : ¬ ((0 : Int32) < 0 ∨ zu.slots.size ≤ ((0 : Int32)).toNatClampNeg) := inb_of z1e ⟨by decide, by decide⟩
  have z1g : zu.slots[((0 : Int32)).toNatClampNeg]? = some (.long c1) := Has.at z1f zv rfl
  obtain ⟨zw, zc, zd, z1h⟩ := getF z9 hx hZ hown (host := "") (Or.inl (own_W hw 16 rfl)) Via.refl zt zj (g := (mkF m 15 #[.val (.ref z0), .val (.int 0), .val (.int 1)] [(.ref z0), (.long c1), (.double (Jvm.FP.l2d (x1.toInt64))), (.int 1), (.ref z0)])) rfl rfl (hb hby y2_15)
  obtain ⟨zx, ze, z1y, z1i, z1z, z1j, z20⟩ := (id zk)
  have zy : ¬ ((0 : Int32) < 0 ∨ zx.slots.size ≤ ((0 : Int32)).toNatClampNeg) := inb_of z1i ⟨by decide, by decide⟩
  have z1k : zx.slots[((0 : Int32)).toNatClampNeg]? = some (.int s1) := Has.at z1j zy rfl
  obtain ⟨cq58, z1l, q58'⟩ := z13.cell
  obtain ⟨_, _, ⟨zz, L58, z21, n58⟩, -, z4, ⟨Lc58, z10, l58, y58, z58⟩, z11⟩ := zc.privateBack hx (y := own_m2) hown (mvT hZ (own_W hw 50 rfl)) (mvT hZ (own_W hw 51 rfl)) (own_selpS (y := own_m2) (mvT hZ (own_W hw 35 rfl)) rfl (mvP (args := #[]) hZ (own_W hw 52 rfl)) (mvT hZ (own_W hw 51 rfl)) (by decide)) (Cond.privateMethod_at (mvP hZ (own_W hw 52 rfl) (args := #[]))) (mvT hZ (own_W hw 53 rfl)) (by decide) (backOf (W := 0) (rmP1 l Z a0 hw [] h0 n0 A K x1 x2 x3 c1 c2 c3 s1 s2 s3 x1 c1 s1 z0 z1 z2 z3 z5 z6 z7 EN OL0 zf zg zh zi zj zk z14 z15 z16 z17 z18 zl zm zn) hZ (own_W hw 53 rfl) (own_W hw 2 rfl) (by decide) (by decide)) (g := (mkF m 20 #[.val (.ref z0), .val (.int 0), .val (.int 1)] [(.int s1), (.long c1), (.double (Jvm.FP.l2d (x1.toInt64))), (.int 1), (.ref z0)])) rfl (by rw [hml]; rfl) (Steps.refl _) (a := z0) (by rw [zd]; exact z1l) q58' (argsL := [(.int 1), (.double (Jvm.FP.l2d (x1.toInt64))), (.long c1), (.int s1)]) (rest := []) (lenOf own_pd0 rfl) rfl (by show 2 * 0 + _ ≤ _; exact Nat.le_of_eq rfl) (hb hby y2_20) (fun _ _ => ⟨rfl, zd, (by decide : 0 + 0 ≤ _), (by decide : 0 + 0 ≤ _)⟩)
  dsimp only [Pt.U, Pt.locs, Pt.cells, Pt.slots] at z4 l58 y58 z58 z11 z10
  replace z4 := own_sub z4 l58 y58 z58
  obtain ⟨rfl, z1m, z12, z1n, z1o, z1p⟩ := z10
  have z1q := Fr.app N0 z1m
  have z22 := OL0.keep z12 (allS zl (allS zm (allS zn all0)))
  have z1r := KK0.trans z12 (allS (own_Ix 2 rfl) (allS (own_Ix 1 rfl) (allS (own_Ix 0 rfl) all0)))
  obtain ⟨fs, hr, hrun, hended, hW, hsame⟩ := z4.leave (v := none) (fun _ => rfl)
  refine ⟨_, _, pre0 _ ?_, hrun, hended, _, _, rfl, ?_, ⟨_, rfl⟩, hW, hsame.mono (by decide) (by decide)⟩
  · show Steps p.tables e below (s₁.setTop (mkF m 0 #[.val (.ref z0), .val (.int 0), .val (.int 1)] [])) _
    refine XS.aloadN X0.here hx rfl (hb hby y2_0) rfl rfl ?_
    refine XS.iloadN X0.here hx rfl (hb hby y2_1) rfl ?_
    refine XS.aloadN X0.here hx rfl (hb hby y2_2) rfl rfl ?_
    refine z19 _ ?_
    show Steps p.tables e below (zo.setTop (mkF m 6 #[.val (.ref z0), .val (.int 0), .val (.int 1)] [(.ref z1), (.int 1), (.ref z0)])) _
    refine XS.iloadN z8.here hx rfl (hb hby y2_6) rfl ?_
    refine z8.daload hx (j := (0 : Int32)) (v := (.double (Jvm.FP.l2d (x1.toInt64)))) (by rw [zp]; exact za.1) (State.isArrayOf_alike hZ.alike za.2.1) za.2.2 zr z1c (g := (mkF m 7 #[.val (.ref z0), .val (.int 0), .val (.int 1)] [(.int 0), (.ref z1), (.int 1), (.ref z0)])) rfl rfl (hb hby y2_7) _ ?_
    show Steps p.tables e below (zo.setTop (mkF m 8 #[.val (.ref z0), .val (.int 0), .val (.int 1)] [(.double (Jvm.FP.l2d (x1.toInt64))), (.int 1), (.ref z0)])) _
    refine XS.aloadN z8.here hx rfl (hb hby y2_8) rfl rfl ?_
    refine z1d _ ?_
    show Steps p.tables e below (zs.setTop (mkF m 12 #[.val (.ref z0), .val (.int 0), .val (.int 1)] [(.ref z2), (.double (Jvm.FP.l2d (x1.toInt64))), (.int 1), (.ref z0)])) _
    refine XS.iloadN z9.here hx rfl (hb hby y2_12) rfl ?_
    refine z9.laload hx (j := (0 : Int32)) (v := (.long c1)) (by rw [zt]; exact zb.1) (State.isArrayOf_alike hZ.alike zb.2.1) zb.2.2 zv z1g (g := (mkF m 13 #[.val (.ref z0), .val (.int 0), .val (.int 1)] [(.int 0), (.ref z2), (.double (Jvm.FP.l2d (x1.toInt64))), (.int 1), (.ref z0)])) rfl rfl (hb hby y2_13) _ ?_
    show Steps p.tables e below (zs.setTop (mkF m 14 #[.val (.ref z0), .val (.int 0), .val (.int 1)] [(.long c1), (.double (Jvm.FP.l2d (x1.toInt64))), (.int 1), (.ref z0)])) _
    refine XS.aloadN z9.here hx rfl (hb hby y2_14) rfl rfl ?_
    refine z1h _ ?_
    show Steps p.tables e below (zw.setTop (mkF m 18 #[.val (.ref z0), .val (.int 0), .val (.int 1)] [(.ref z3), (.long c1), (.double (Jvm.FP.l2d (x1.toInt64))), (.int 1), (.ref z0)])) _
    refine XS.iloadN zc.here hx rfl (hb hby y2_18) rfl ?_
    refine zc.iaload hx (j := (0 : Int32)) (v := (.int s1)) (by rw [zd]; exact ze.1) (State.isArrayOf_alike hZ.alike ze.2.1) ze.2.2 zy z1k (g := (mkF m 19 #[.val (.ref z0), .val (.int 0), .val (.int 1)] [(.int 0), (.ref z3), (.long c1), (.double (Jvm.FP.l2d (x1.toInt64))), (.int 1), (.ref z0)])) rfl rfl (hb hby y2_19) _ ?_
    show Steps p.tables e below (zw.setTop (mkF m 20 #[.val (.ref z0), .val (.int 0), .val (.int 1)] [(.int s1), (.long c1), (.double (Jvm.FP.l2d (x1.toInt64))), (.int 1), (.ref z0)])) _
    refine z11.trans ?_
    show Steps p.tables e below (zz.setTop (mkF m 23 #[.val (.ref z0), .val (.int 0), .val (.int 1)] [])) _
    exact z4.returnOut hx Bd.returns (hb hby y2_23) hr
  · show Q_rmM01 Z A K x1 x2 x3 c1 c2 c3 s1 s2 s3 z0 z1 z2 z3 z5 z6 z7 h0 n0 _ zz.heap _
    exact ⟨rfl, z1q, z1r, z1n, z1o, z1p⟩
def Q_rmM02 (Z : State) (A : Nat → Addr) (K : Nat → ClassId) (x1 : Int32) (x2 : Int32) (x3 : Int32) (c1 : Int64) (c2 : Int64) (c3 : Int64) (s1 : Int32) (s2 : Int32) (s3 : Int32) (z6 : Addr) (z0 : Addr) (z1 : Addr) (z2 : Addr) (z3 : ClassId) (z4 : ClassId) (z5 : ClassId) (h0 : Heap) (n0 : Nat) (v : Option Value) (h : Heap) (L : List Loc) : Prop := v = none ∧ Fr n0 L ∧ Keep h0 h [z2, z1, z0] ∧ (Arv Z h z0 z3 .double (16 : Int32) [(.double (Jvm.FP.l2d (x1.toInt64))), (.double (Jvm.FP.l2d (x2.toInt64))), (.double (Jvm.FP.l2d (x1.toInt64)))] (.double (Jvm.FP.l2d ((0 : Int32).toInt64)))) ∧ (Arv Z h z1 z4 .long (16 : Int32) [(.long c1), (.long c2), (.long c1)] (.long 0)) ∧ (Arv Z h z2 z5 .int 16 [(.int s1), (.int s2), (.int s1)] (.int 0))
set_option maxRecDepth 65536 in
set_option maxHeartbeats 40000000 in
theorem rmM02 (l : Launch) (Z : State) (a0 : Array Value) (hw : ∀ d ∈ tables_1, d.before a0 Z = true) (ws : List Jvm.Cond) (h0 : Heap) (n0 : Nat) (A : Nat → Addr) (K : Nat → ClassId) (x1 : Int32) (x2 : Int32) (x3 : Int32) (c1 : Int64) (c2 : Int64) (c3 : Int64) (s1 : Int32) (s2 : Int32) (s3 : Int32)  (z0 : Addr) (z1 : Addr) (z2 : Addr) (z3 : Addr) (z5 : ClassId) (z6 : ClassId) (z7 : ClassId) (EN : own_St Z A K) (OL0 : Old Z n0 h0) (zf : Fld Z h0 z0 y_s0 "at" "[D" (.ref z1)) (zg : Arv Z h0 z1 z5 .double (16 : Int32) [(.double (Jvm.FP.l2d (x1.toInt64))), (.double (Jvm.FP.l2d (x2.toInt64))), (.double (Jvm.FP.l2d (x3.toInt64)))] (.double (Jvm.FP.l2d ((0 : Int32).toInt64)))) (zh : Fld Z h0 z0 y_s0 "added" "[J" (.ref z2)) (zi : Arv Z h0 z2 z6 .long (16 : Int32) [(.long c1), (.long c2), (.long c3)] (.long 0)) (zj : Fld Z h0 z0 y_s0 "slot" "[I" (.ref z3)) (zk : Arv Z h0 z3 z7 .int 16 [(.int s1), (.int s2), (.int s3)] (.int 0)) (z13 : Exa Z h0 z0 y_s0) (z14 : z0 ≠ z1) (z15 : z1 ≠ z2) (z16 : z0 ≠ z2) (z17 : z1 ≠ z3) (z18 : z2 ≠ z3) (zl : n0 ≤ z1) (zm : n0 ≤ z2) (zn : n0 ≤ z3) :
    MetFree l own_m4 (head1 (Jvm.Cond.code own_m4 prog_48_method_10_code 3 none :: ws) (Room.mk 1 0 0 18)) (fun a U => a = #[(.ref z0), (.int 0), (.int 2)] ∧ Z.Warmed39 U.vm ∧ U.heap = h0) (fun _ _ _ _ _ => True) (fun _ U o U' => ∃ v L, o = .returned v ∧ Q_rmM02 Z A K x1 x2 x3 c1 c2 c3 s1 s2 s3 z0 z1 z2 z3 z5 z6 z7 h0 n0 v U'.heap L ∧ FrameEnd U o U' L (Room.mk 1 0 0 18).cells (Room.mk 1 0 0 18).slots) := by
  refine MetFree.of_bodySF (plainFor_of_name own_pn0) hisR ?_
  intro p e s m args below meth c s₁ Bd hml0 hP hK
  obtain ⟨rfl, hZ, hh⟩ := hP
  have hx := Bd.exec
  have hby := Bd.bytes
  have hml : c.maxLocals = 3 := hml0
  have hown : s.vm.findClass y_s0 = some m.cls := findClass_of_methodNamed Bd.named
  have hnm := (name_of_methodNamed Bd.named Bd.method).1
  have X0 : Stand p l e (Room.mk 1 0 0 18) s m #[(.ref z0), (.int 0), (.int 2)] below meth c s₁ [] 0 0 := Stand.of_body Bd
  have e0 : s₁.heap = h0 := by rw [← hh, Bd.state]; rfl
  have N0 := Fr.nil n0
  have pre0 : ∀ t, Steps p.tables e below (s₁.setTop (mkF m 0 #[.val (.ref z0), .val (.int 0), .val (.int 2)] [])) t → Steps p.tables e below (s₁.setTop (entryFrame m #[(.ref z0), (.int 0), (.int 2)] 3)) t := fun t k => castTop (by first | (simp [entryFrame, mkF, argsToLocals, Value.category, maxLocals]; done) | rfl) k
  have KK0 : Keep h0 h0 [z3, z2, z1] := Keep.refl _ _
  obtain ⟨zo, z8, zp, z19⟩ := getF X0 hx hZ hown (host := "") (Or.inl (own_W hw 10 rfl)) Via.refl e0 zf (g := (mkF m 3 #[.val (.ref z0), .val (.int 0), .val (.int 2)] [(.ref z0), (.int 2), (.ref z0)])) rfl rfl (hb hby y2_3)
  obtain ⟨zq, za, z1s, z1a, z1t, z1b, z1u⟩ := (id zg)
  have zr : ¬ ((0 : Int32) < 0 ∨ zq.slots.size ≤ ((0 : Int32)).toNatClampNeg) := inb_of z1a ⟨by decide, by decide⟩
  have z1c : zq.slots[((0 : Int32)).toNatClampNeg]? = some (.double (Jvm.FP.l2d (x1.toInt64))) := Has.at z1b zr rfl
  obtain ⟨zs, z9, zt, z1d⟩ := getF z8 hx hZ hown (host := "") (Or.inl (own_W hw 13 rfl)) Via.refl zp zh (g := (mkF m 9 #[.val (.ref z0), .val (.int 0), .val (.int 2)] [(.ref z0), (.double (Jvm.FP.l2d (x1.toInt64))), (.int 2), (.ref z0)])) rfl rfl (hb hby y2_9)
  obtain ⟨zu, zb, z1v, z1e, z1w, z1f, z1x⟩ := (id zi)
  have zv : ¬ ((0 : Int32) < 0 ∨ zu.slots.size ≤ ((0 : Int32)).toNatClampNeg) := inb_of z1e ⟨by decide, by decide⟩
  have z1g : zu.slots[((0 : Int32)).toNatClampNeg]? = some (.long c1) := Has.at z1f zv rfl
  obtain ⟨zw, zc, zd, z1h⟩ := getF z9 hx hZ hown (host := "") (Or.inl (own_W hw 16 rfl)) Via.refl zt zj (g := (mkF m 15 #[.val (.ref z0), .val (.int 0), .val (.int 2)] [(.ref z0), (.long c1), (.double (Jvm.FP.l2d (x1.toInt64))), (.int 2), (.ref z0)])) rfl rfl (hb hby y2_15)
  obtain ⟨zx, ze, z1y, z1i, z1z, z1j, z20⟩ := (id zk)
  have zy : ¬ ((0 : Int32) < 0 ∨ zx.slots.size ≤ ((0 : Int32)).toNatClampNeg) := inb_of z1i ⟨by decide, by decide⟩
  have z1k : zx.slots[((0 : Int32)).toNatClampNeg]? = some (.int s1) := Has.at z1j zy rfl
  obtain ⟨cq65, z1l, q65'⟩ := z13.cell
  obtain ⟨_, _, ⟨zz, L65, z21, n65⟩, -, z4, ⟨Lc65, z10, l65, y65, z65⟩, z11⟩ := zc.privateBack hx (y := own_m2) hown (mvT hZ (own_W hw 50 rfl)) (mvT hZ (own_W hw 51 rfl)) (own_selpS (y := own_m2) (mvT hZ (own_W hw 35 rfl)) rfl (mvP (args := #[]) hZ (own_W hw 52 rfl)) (mvT hZ (own_W hw 51 rfl)) (by decide)) (Cond.privateMethod_at (mvP hZ (own_W hw 52 rfl) (args := #[]))) (mvT hZ (own_W hw 53 rfl)) (by decide) (backOf (W := 0) (rmP2 l Z a0 hw [] h0 n0 A K x1 x2 x3 c1 c2 c3 s1 s2 s3 x1 c1 s1 z0 z1 z2 z3 z5 z6 z7 EN OL0 zf zg zh zi zj zk z14 z15 z16 z17 z18 zl zm zn) hZ (own_W hw 53 rfl) (own_W hw 2 rfl) (by decide) (by decide)) (g := (mkF m 20 #[.val (.ref z0), .val (.int 0), .val (.int 2)] [(.int s1), (.long c1), (.double (Jvm.FP.l2d (x1.toInt64))), (.int 2), (.ref z0)])) rfl (by rw [hml]; rfl) (Steps.refl _) (a := z0) (by rw [zd]; exact z1l) q65' (argsL := [(.int 2), (.double (Jvm.FP.l2d (x1.toInt64))), (.long c1), (.int s1)]) (rest := []) (lenOf own_pd0 rfl) rfl (by show 2 * 0 + _ ≤ _; exact Nat.le_of_eq rfl) (hb hby y2_20) (fun _ _ => ⟨rfl, zd, (by decide : 0 + 0 ≤ _), (by decide : 0 + 0 ≤ _)⟩)
  dsimp only [Pt.U, Pt.locs, Pt.cells, Pt.slots] at z4 l65 y65 z65 z11 z10
  replace z4 := own_sub z4 l65 y65 z65
  obtain ⟨rfl, z1m, z12, z1n, z1o, z1p⟩ := z10
  have z1q := Fr.app N0 z1m
  have z22 := OL0.keep z12 (allS zl (allS zm (allS zn all0)))
  have z1r := KK0.trans z12 (allS (own_Ix 2 rfl) (allS (own_Ix 1 rfl) (allS (own_Ix 0 rfl) all0)))
  obtain ⟨fs, hr, hrun, hended, hW, hsame⟩ := z4.leave (v := none) (fun _ => rfl)
  refine ⟨_, _, pre0 _ ?_, hrun, hended, _, _, rfl, ?_, ⟨_, rfl⟩, hW, hsame.mono (by decide) (by decide)⟩
  · show Steps p.tables e below (s₁.setTop (mkF m 0 #[.val (.ref z0), .val (.int 0), .val (.int 2)] [])) _
    refine XS.aloadN X0.here hx rfl (hb hby y2_0) rfl rfl ?_
    refine XS.iloadN X0.here hx rfl (hb hby y2_1) rfl ?_
    refine XS.aloadN X0.here hx rfl (hb hby y2_2) rfl rfl ?_
    refine z19 _ ?_
    show Steps p.tables e below (zo.setTop (mkF m 6 #[.val (.ref z0), .val (.int 0), .val (.int 2)] [(.ref z1), (.int 2), (.ref z0)])) _
    refine XS.iloadN z8.here hx rfl (hb hby y2_6) rfl ?_
    refine z8.daload hx (j := (0 : Int32)) (v := (.double (Jvm.FP.l2d (x1.toInt64)))) (by rw [zp]; exact za.1) (State.isArrayOf_alike hZ.alike za.2.1) za.2.2 zr z1c (g := (mkF m 7 #[.val (.ref z0), .val (.int 0), .val (.int 2)] [(.int 0), (.ref z1), (.int 2), (.ref z0)])) rfl rfl (hb hby y2_7) _ ?_
    show Steps p.tables e below (zo.setTop (mkF m 8 #[.val (.ref z0), .val (.int 0), .val (.int 2)] [(.double (Jvm.FP.l2d (x1.toInt64))), (.int 2), (.ref z0)])) _
    refine XS.aloadN z8.here hx rfl (hb hby y2_8) rfl rfl ?_
    refine z1d _ ?_
    show Steps p.tables e below (zs.setTop (mkF m 12 #[.val (.ref z0), .val (.int 0), .val (.int 2)] [(.ref z2), (.double (Jvm.FP.l2d (x1.toInt64))), (.int 2), (.ref z0)])) _
    refine XS.iloadN z9.here hx rfl (hb hby y2_12) rfl ?_
    refine z9.laload hx (j := (0 : Int32)) (v := (.long c1)) (by rw [zt]; exact zb.1) (State.isArrayOf_alike hZ.alike zb.2.1) zb.2.2 zv z1g (g := (mkF m 13 #[.val (.ref z0), .val (.int 0), .val (.int 2)] [(.int 0), (.ref z2), (.double (Jvm.FP.l2d (x1.toInt64))), (.int 2), (.ref z0)])) rfl rfl (hb hby y2_13) _ ?_
    show Steps p.tables e below (zs.setTop (mkF m 14 #[.val (.ref z0), .val (.int 0), .val (.int 2)] [(.long c1), (.double (Jvm.FP.l2d (x1.toInt64))), (.int 2), (.ref z0)])) _
    refine XS.aloadN z9.here hx rfl (hb hby y2_14) rfl rfl ?_
    refine z1h _ ?_
    show Steps p.tables e below (zw.setTop (mkF m 18 #[.val (.ref z0), .val (.int 0), .val (.int 2)] [(.ref z3), (.long c1), (.double (Jvm.FP.l2d (x1.toInt64))), (.int 2), (.ref z0)])) _
    refine XS.iloadN zc.here hx rfl (hb hby y2_18) rfl ?_
    refine zc.iaload hx (j := (0 : Int32)) (v := (.int s1)) (by rw [zd]; exact ze.1) (State.isArrayOf_alike hZ.alike ze.2.1) ze.2.2 zy z1k (g := (mkF m 19 #[.val (.ref z0), .val (.int 0), .val (.int 2)] [(.int 0), (.ref z3), (.long c1), (.double (Jvm.FP.l2d (x1.toInt64))), (.int 2), (.ref z0)])) rfl rfl (hb hby y2_19) _ ?_
    show Steps p.tables e below (zw.setTop (mkF m 20 #[.val (.ref z0), .val (.int 0), .val (.int 2)] [(.int s1), (.long c1), (.double (Jvm.FP.l2d (x1.toInt64))), (.int 2), (.ref z0)])) _
    refine z11.trans ?_
    show Steps p.tables e below (zz.setTop (mkF m 23 #[.val (.ref z0), .val (.int 0), .val (.int 2)] [])) _
    exact z4.returnOut hx Bd.returns (hb hby y2_23) hr
  · show Q_rmM02 Z A K x1 x2 x3 c1 c2 c3 s1 s2 s3 z0 z1 z2 z3 z5 z6 z7 h0 n0 _ zz.heap _
    exact ⟨rfl, z1q, z1r, z1n, z1o, z1p⟩
def Q_rmM10 (Z : State) (A : Nat → Addr) (K : Nat → ClassId) (x1 : Int32) (x2 : Int32) (x3 : Int32) (c1 : Int64) (c2 : Int64) (c3 : Int64) (s1 : Int32) (s2 : Int32) (s3 : Int32) (z6 : Addr) (z0 : Addr) (z1 : Addr) (z2 : Addr) (z3 : ClassId) (z4 : ClassId) (z5 : ClassId) (h0 : Heap) (n0 : Nat) (v : Option Value) (h : Heap) (L : List Loc) : Prop := v = none ∧ Fr n0 L ∧ Keep h0 h [z2, z1, z0] ∧ (Arv Z h z0 z3 .double (16 : Int32) [(.double (Jvm.FP.l2d (x2.toInt64))), (.double (Jvm.FP.l2d (x2.toInt64))), (.double (Jvm.FP.l2d (x3.toInt64)))] (.double (Jvm.FP.l2d ((0 : Int32).toInt64)))) ∧ (Arv Z h z1 z4 .long (16 : Int32) [(.long c2), (.long c2), (.long c3)] (.long 0)) ∧ (Arv Z h z2 z5 .int 16 [(.int s2), (.int s2), (.int s3)] (.int 0))
set_option maxRecDepth 65536 in
set_option maxHeartbeats 40000000 in
theorem rmM10 (l : Launch) (Z : State) (a0 : Array Value) (hw : ∀ d ∈ tables_1, d.before a0 Z = true) (ws : List Jvm.Cond) (h0 : Heap) (n0 : Nat) (A : Nat → Addr) (K : Nat → ClassId) (x1 : Int32) (x2 : Int32) (x3 : Int32) (c1 : Int64) (c2 : Int64) (c3 : Int64) (s1 : Int32) (s2 : Int32) (s3 : Int32)  (z0 : Addr) (z1 : Addr) (z2 : Addr) (z3 : Addr) (z5 : ClassId) (z6 : ClassId) (z7 : ClassId) (EN : own_St Z A K) (OL0 : Old Z n0 h0) (zf : Fld Z h0 z0 y_s0 "at" "[D" (.ref z1)) (zg : Arv Z h0 z1 z5 .double (16 : Int32) [(.double (Jvm.FP.l2d (x1.toInt64))), (.double (Jvm.FP.l2d (x2.toInt64))), (.double (Jvm.FP.l2d (x3.toInt64)))] (.double (Jvm.FP.l2d ((0 : Int32).toInt64)))) (zh : Fld Z h0 z0 y_s0 "added" "[J" (.ref z2)) (zi : Arv Z h0 z2 z6 .long (16 : Int32) [(.long c1), (.long c2), (.long c3)] (.long 0)) (zj : Fld Z h0 z0 y_s0 "slot" "[I" (.ref z3)) (zk : Arv Z h0 z3 z7 .int 16 [(.int s1), (.int s2), (.int s3)] (.int 0)) (z13 : Exa Z h0 z0 y_s0) (z14 : z0 ≠ z1) (z15 : z1 ≠ z2) (z16 : z0 ≠ z2) (z17 : z1 ≠ z3) (z18 : z2 ≠ z3) (zl : n0 ≤ z1) (zm : n0 ≤ z2) (zn : n0 ≤ z3) :
    MetFree l own_m4 (head1 (Jvm.Cond.code own_m4 prog_48_method_10_code 3 none :: ws) (Room.mk 1 0 0 18)) (fun a U => a = #[(.ref z0), (.int 1), (.int 0)] ∧ Z.Warmed39 U.vm ∧ U.heap = h0) (fun _ _ _ _ _ => True) (fun _ U o U' => ∃ v L, o = .returned v ∧ Q_rmM10 Z A K x1 x2 x3 c1 c2 c3 s1 s2 s3 z0 z1 z2 z3 z5 z6 z7 h0 n0 v U'.heap L ∧ FrameEnd U o U' L (Room.mk 1 0 0 18).cells (Room.mk 1 0 0 18).slots) := by
  refine MetFree.of_bodySF (plainFor_of_name own_pn0) hisR ?_
  intro p e s m args below meth c s₁ Bd hml0 hP hK
  obtain ⟨rfl, hZ, hh⟩ := hP
  have hx := Bd.exec
  have hby := Bd.bytes
  have hml : c.maxLocals = 3 := hml0
  have hown : s.vm.findClass y_s0 = some m.cls := findClass_of_methodNamed Bd.named
  have hnm := (name_of_methodNamed Bd.named Bd.method).1
  have X0 : Stand p l e (Room.mk 1 0 0 18) s m #[(.ref z0), (.int 1), (.int 0)] below meth c s₁ [] 0 0 := Stand.of_body Bd
  have e0 : s₁.heap = h0 := by rw [← hh, Bd.state]; rfl
  have N0 := Fr.nil n0
  have pre0 : ∀ t, Steps p.tables e below (s₁.setTop (mkF m 0 #[.val (.ref z0), .val (.int 1), .val (.int 0)] [])) t → Steps p.tables e below (s₁.setTop (entryFrame m #[(.ref z0), (.int 1), (.int 0)] 3)) t := fun t k => castTop (by first | (simp [entryFrame, mkF, argsToLocals, Value.category, maxLocals]; done) | rfl) k
  have KK0 : Keep h0 h0 [z3, z2, z1] := Keep.refl _ _
  obtain ⟨zo, z8, zp, z19⟩ := getF X0 hx hZ hown (host := "") (Or.inl (own_W hw 10 rfl)) Via.refl e0 zf (g := (mkF m 3 #[.val (.ref z0), .val (.int 1), .val (.int 0)] [(.ref z0), (.int 0), (.ref z0)])) rfl rfl (hb hby y2_3)
  obtain ⟨zq, za, z1s, z1a, z1t, z1b, z1u⟩ := (id zg)
  have zr : ¬ ((1 : Int32) < 0 ∨ zq.slots.size ≤ ((1 : Int32)).toNatClampNeg) := inb_of z1a ⟨by decide, by decide⟩
  have z1c : zq.slots[((1 : Int32)).toNatClampNeg]? = some (.double (Jvm.FP.l2d (x2.toInt64))) := Has.at z1b zr rfl
  obtain ⟨zs, z9, zt, z1d⟩ := getF z8 hx hZ hown (host := "") (Or.inl (own_W hw 13 rfl)) Via.refl zp zh (g := (mkF m 9 #[.val (.ref z0), .val (.int 1), .val (.int 0)] [(.ref z0), (.double (Jvm.FP.l2d (x2.toInt64))), (.int 0), (.ref z0)])) rfl rfl (hb hby y2_9)
  obtain ⟨zu, zb, z1v, z1e, z1w, z1f, z1x⟩ := (id zi)
  have zv : ¬ ((1 : Int32) < 0 ∨ zu.slots.size ≤ ((1 : Int32)).toNatClampNeg) := inb_of z1e ⟨by decide, by decide⟩
  have z1g : zu.slots[((1 : Int32)).toNatClampNeg]? = some (.long c2) := Has.at z1f zv rfl
  obtain ⟨zw, zc, zd, z1h⟩ := getF z9 hx hZ hown (host := "") (Or.inl (own_W hw 16 rfl)) Via.refl zt zj (g := (mkF m 15 #[.val (.ref z0), .val (.int 1), .val (.int 0)] [(.ref z0), (.long c2), (.double (Jvm.FP.l2d (x2.toInt64))), (.int 0), (.ref z0)])) rfl rfl (hb hby y2_15)
  obtain ⟨zx, ze, z1y, z1i, z1z, z1j, z20⟩ := (id zk)
  have zy : ¬ ((1 : Int32) < 0 ∨ zx.slots.size ≤ ((1 : Int32)).toNatClampNeg) := inb_of z1i ⟨by decide, by decide⟩
  have z1k : zx.slots[((1 : Int32)).toNatClampNeg]? = some (.int s2) := Has.at z1j zy rfl
  obtain ⟨cq72, z1l, q72'⟩ := z13.cell
  obtain ⟨_, _, ⟨zz, L72, z21, n72⟩, -, z4, ⟨Lc72, z10, l72, y72, z72⟩, z11⟩ := zc.privateBack hx (y := own_m2) hown (mvT hZ (own_W hw 50 rfl)) (mvT hZ (own_W hw 51 rfl)) (own_selpS (y := own_m2) (mvT hZ (own_W hw 35 rfl)) rfl (mvP (args := #[]) hZ (own_W hw 52 rfl)) (mvT hZ (own_W hw 51 rfl)) (by decide)) (Cond.privateMethod_at (mvP hZ (own_W hw 52 rfl) (args := #[]))) (mvT hZ (own_W hw 53 rfl)) (by decide) (backOf (W := 0) (rmP0 l Z a0 hw [] h0 n0 A K x1 x2 x3 c1 c2 c3 s1 s2 s3 x2 c2 s2 z0 z1 z2 z3 z5 z6 z7 EN OL0 zf zg zh zi zj zk z14 z15 z16 z17 z18 zl zm zn) hZ (own_W hw 53 rfl) (own_W hw 2 rfl) (by decide) (by decide)) (g := (mkF m 20 #[.val (.ref z0), .val (.int 1), .val (.int 0)] [(.int s2), (.long c2), (.double (Jvm.FP.l2d (x2.toInt64))), (.int 0), (.ref z0)])) rfl (by rw [hml]; rfl) (Steps.refl _) (a := z0) (by rw [zd]; exact z1l) q72' (argsL := [(.int 0), (.double (Jvm.FP.l2d (x2.toInt64))), (.long c2), (.int s2)]) (rest := []) (lenOf own_pd0 rfl) rfl (by show 2 * 0 + _ ≤ _; exact Nat.le_of_eq rfl) (hb hby y2_20) (fun _ _ => ⟨rfl, zd, (by decide : 0 + 0 ≤ _), (by decide : 0 + 0 ≤ _)⟩)
  dsimp only [Pt.U, Pt.locs, Pt.cells, Pt.slots] at z4 l72 y72 z72 z11 z10
  replace z4 := own_sub z4 l72 y72 z72
  obtain ⟨rfl, z1m, z12, z1n, z1o, z1p⟩ := z10
  have z1q := Fr.app N0 z1m
  have z22 := OL0.keep z12 (allS zl (allS zm (allS zn all0)))
  have z1r := KK0.trans z12 (allS (own_Ix 2 rfl) (allS (own_Ix 1 rfl) (allS (own_Ix 0 rfl) all0)))
  obtain ⟨fs, hr, hrun, hended, hW, hsame⟩ := z4.leave (v := none) (fun _ => rfl)
  refine ⟨_, _, pre0 _ ?_, hrun, hended, _, _, rfl, ?_, ⟨_, rfl⟩, hW, hsame.mono (by decide) (by decide)⟩
  · show Steps p.tables e below (s₁.setTop (mkF m 0 #[.val (.ref z0), .val (.int 1), .val (.int 0)] [])) _
    refine XS.aloadN X0.here hx rfl (hb hby y2_0) rfl rfl ?_
    refine XS.iloadN X0.here hx rfl (hb hby y2_1) rfl ?_
    refine XS.aloadN X0.here hx rfl (hb hby y2_2) rfl rfl ?_
    refine z19 _ ?_
    show Steps p.tables e below (zo.setTop (mkF m 6 #[.val (.ref z0), .val (.int 1), .val (.int 0)] [(.ref z1), (.int 0), (.ref z0)])) _
    refine XS.iloadN z8.here hx rfl (hb hby y2_6) rfl ?_
    refine z8.daload hx (j := (1 : Int32)) (v := (.double (Jvm.FP.l2d (x2.toInt64)))) (by rw [zp]; exact za.1) (State.isArrayOf_alike hZ.alike za.2.1) za.2.2 zr z1c (g := (mkF m 7 #[.val (.ref z0), .val (.int 1), .val (.int 0)] [(.int 1), (.ref z1), (.int 0), (.ref z0)])) rfl rfl (hb hby y2_7) _ ?_
    show Steps p.tables e below (zo.setTop (mkF m 8 #[.val (.ref z0), .val (.int 1), .val (.int 0)] [(.double (Jvm.FP.l2d (x2.toInt64))), (.int 0), (.ref z0)])) _
    refine XS.aloadN z8.here hx rfl (hb hby y2_8) rfl rfl ?_
    refine z1d _ ?_
    show Steps p.tables e below (zs.setTop (mkF m 12 #[.val (.ref z0), .val (.int 1), .val (.int 0)] [(.ref z2), (.double (Jvm.FP.l2d (x2.toInt64))), (.int 0), (.ref z0)])) _
    refine XS.iloadN z9.here hx rfl (hb hby y2_12) rfl ?_
    refine z9.laload hx (j := (1 : Int32)) (v := (.long c2)) (by rw [zt]; exact zb.1) (State.isArrayOf_alike hZ.alike zb.2.1) zb.2.2 zv z1g (g := (mkF m 13 #[.val (.ref z0), .val (.int 1), .val (.int 0)] [(.int 1), (.ref z2), (.double (Jvm.FP.l2d (x2.toInt64))), (.int 0), (.ref z0)])) rfl rfl (hb hby y2_13) _ ?_
    show Steps p.tables e below (zs.setTop (mkF m 14 #[.val (.ref z0), .val (.int 1), .val (.int 0)] [(.long c2), (.double (Jvm.FP.l2d (x2.toInt64))), (.int 0), (.ref z0)])) _
    refine XS.aloadN z9.here hx rfl (hb hby y2_14) rfl rfl ?_
    refine z1h _ ?_
    show Steps p.tables e below (zw.setTop (mkF m 18 #[.val (.ref z0), .val (.int 1), .val (.int 0)] [(.ref z3), (.long c2), (.double (Jvm.FP.l2d (x2.toInt64))), (.int 0), (.ref z0)])) _
    refine XS.iloadN zc.here hx rfl (hb hby y2_18) rfl ?_
    refine zc.iaload hx (j := (1 : Int32)) (v := (.int s2)) (by rw [zd]; exact ze.1) (State.isArrayOf_alike hZ.alike ze.2.1) ze.2.2 zy z1k (g := (mkF m 19 #[.val (.ref z0), .val (.int 1), .val (.int 0)] [(.int 1), (.ref z3), (.long c2), (.double (Jvm.FP.l2d (x2.toInt64))), (.int 0), (.ref z0)])) rfl rfl (hb hby y2_19) _ ?_
    show Steps p.tables e below (zw.setTop (mkF m 20 #[.val (.ref z0), .val (.int 1), .val (.int 0)] [(.int s2), (.long c2), (.double (Jvm.FP.l2d (x2.toInt64))), (.int 0), (.ref z0)])) _
    refine z11.trans ?_
    show Steps p.tables e below (zz.setTop (mkF m 23 #[.val (.ref z0), .val (.int 1), .val (.int 0)] [])) _
    exact z4.returnOut hx Bd.returns (hb hby y2_23) hr
  · show Q_rmM10 Z A K x1 x2 x3 c1 c2 c3 s1 s2 s3 z0 z1 z2 z3 z5 z6 z7 h0 n0 _ zz.heap _
    exact ⟨rfl, z1q, z1r, z1n, z1o, z1p⟩
def Q_rmA0 (Z : State) (A : Nat → Addr) (K : Nat → ClassId) (x1 : Int32) (x2 : Int32) (x3 : Int32) (c1 : Int64) (c2 : Int64) (c3 : Int64) (s1 : Int32) (s2 : Int32) (s3 : Int32) (zg : Int32) (z8 : Int32) (z9 : Int32) (t1 : Int32) (t2 : Int32) (t3 : Int32) (ga : Int64) (vx : Int32) (vf : Int32) (vt : Int32) (z0 : Addr) (z1 : Addr) (z2 : Addr) (z3 : Addr) (z4 : Addr) (z5 : Addr) (z6 : Addr) (za : Addr) (zb : ClassId) (zc : ClassId) (zd : ClassId) (ze : ClassId) (zf : ClassId) (z7 : ClassId) (zh : ClassId) (h0 : Heap) (n0 : Nat) (v : Option Value) (h : Heap) (L : List Loc) : Prop := v = none ∧ Fr n0 L ∧ Keep h0 h [z4, z5, z6, z0, z3, z2, z1] ∧ (Exa Z h z0 y_s0) ∧ (Fld Z h z0 y_s0 "at" "[D" (.ref z1)) ∧ (Fld Z h z0 y_s0 "added" "[J" (.ref z2)) ∧ (Fld Z h z0 y_s0 "slot" "[I" (.ref z3)) ∧ (Fld Z h z0 y_s0 "from" "[I" (.ref z4)) ∧ (Fld Z h z0 y_s0 "to" "[I" (.ref z5)) ∧ (Fld Z h z0 y_s0 "message" y_s1 (.ref z6)) ∧ (Fld Z h z0 y_s0 "free" "[I" (.ref za)) ∧ (Fld Z h z0 y_s0 "size" "I" (.int 1)) ∧ (Fld Z h z0 y_s0 "additions" "J" (.long (ga + (1 : Int64)))) ∧ (Arv Z h z1 zb .double (16 : Int32) [(.double (Jvm.FP.l2d (vx.toInt64))), (.double (Jvm.FP.l2d (x2.toInt64))), (.double (Jvm.FP.l2d (x3.toInt64)))] (.double (Jvm.FP.l2d ((0 : Int32).toInt64)))) ∧ (Arv Z h z2 zc .long (16 : Int32) [(.long ga), (.long c2), (.long c3)] (.long 0)) ∧ (Arv Z h z3 zd .int 16 [(.int 0), (.int s2), (.int s3)] (.int 0)) ∧ (Arv Z h z4 ze .int 16 [(.int vf), (.int z8), (.int z9)] (.int 0)) ∧ (Arv Z h z5 zf .int 16 [(.int vt), (.int t2), (.int t3)] (.int 0)) ∧ (own_AM Z h z6 z7 (.object y_s3)) ∧ (Ovr Z z7 y_s3)
theorem y3_0 : decode prog_48_method_2_code 0 = .ok (.aload_n 0, 1) := by decide +kernel
theorem y3_1 : decode prog_48_method_2_code 1 = .ok (.getfield 40, 3) := by decide +kernel
theorem y3_4 : decode prog_48_method_2_code 4 = .ok (.aload_n 0, 1) := by decide +kernel
theorem y3_5 : decode prog_48_method_2_code 5 = .ok (.getfield 19, 3) := by decide +kernel
theorem y3_8 : decode prog_48_method_2_code 8 = .ok (.arraylength, 1) := by decide +kernel
theorem y3_9 : decode prog_48_method_2_code 9 = .ok (.if_icmp .ne 7, 3) := by decide +kernel
theorem y3_16 : decode prog_48_method_2_code 16 = .ok (.aload_n 0, 1) := by decide +kernel
theorem y3_17 : decode prog_48_method_2_code 17 = .ok (.getfield 33, 3) := by decide +kernel
theorem y3_20 : decode prog_48_method_2_code 20 = .ok (.aload_n 0, 1) := by decide +kernel
theorem y3_21 : decode prog_48_method_2_code 21 = .ok (.getfield 19, 3) := by decide +kernel
theorem y3_24 : decode prog_48_method_2_code 24 = .ok (.arraylength, 1) := by decide +kernel
theorem y3_25 : decode prog_48_method_2_code 25 = .ok (.iconst 1, 1) := by decide +kernel
theorem y3_26 : decode prog_48_method_2_code 26 = .ok (.isub, 1) := by decide +kernel
theorem y3_27 : decode prog_48_method_2_code 27 = .ok (.aload_n 0, 1) := by decide +kernel
theorem y3_28 : decode prog_48_method_2_code 28 = .ok (.getfield 40, 3) := by decide +kernel
theorem y3_31 : decode prog_48_method_2_code 31 = .ok (.isub, 1) := by decide +kernel
theorem y3_32 : decode prog_48_method_2_code 32 = .ok (.iaload, 1) := by decide +kernel
theorem y3_33 : decode prog_48_method_2_code 33 = .ok (.istore 6, 2) := by decide +kernel
theorem y3_35 : decode prog_48_method_2_code 35 = .ok (.aload_n 0, 1) := by decide +kernel
theorem y3_36 : decode prog_48_method_2_code 36 = .ok (.getfield 23, 3) := by decide +kernel
theorem y3_39 : decode prog_48_method_2_code 39 = .ok (.iload 6, 2) := by decide +kernel
theorem y3_41 : decode prog_48_method_2_code 41 = .ok (.iload_n 3, 1) := by decide +kernel
theorem y3_42 : decode prog_48_method_2_code 42 = .ok (.iastore, 1) := by decide +kernel
theorem y3_43 : decode prog_48_method_2_code 43 = .ok (.aload_n 0, 1) := by decide +kernel
theorem y3_44 : decode prog_48_method_2_code 44 = .ok (.getfield 26, 3) := by decide +kernel
theorem y3_47 : decode prog_48_method_2_code 47 = .ok (.iload 6, 2) := by decide +kernel
theorem y3_49 : decode prog_48_method_2_code 49 = .ok (.iload 4, 2) := by decide +kernel
theorem y3_51 : decode prog_48_method_2_code 51 = .ok (.iastore, 1) := by decide +kernel
theorem y3_52 : decode prog_48_method_2_code 52 = .ok (.aload_n 0, 1) := by decide +kernel
theorem y3_53 : decode prog_48_method_2_code 53 = .ok (.getfield 29, 3) := by decide +kernel
theorem y3_56 : decode prog_48_method_2_code 56 = .ok (.iload 6, 2) := by decide +kernel
theorem y3_58 : decode prog_48_method_2_code 58 = .ok (.aload 5, 2) := by decide +kernel
theorem y3_60 : decode prog_48_method_2_code 60 = .ok (.aastore, 1) := by decide +kernel
theorem y3_61 : decode prog_48_method_2_code 61 = .ok (.aload_n 0, 1) := by decide +kernel
theorem y3_62 : decode prog_48_method_2_code 62 = .ok (.dup, 1) := by decide +kernel
theorem y3_63 : decode prog_48_method_2_code 63 = .ok (.getfield 40, 3) := by decide +kernel
theorem y3_66 : decode prog_48_method_2_code 66 = .ok (.dup_x1, 1) := by decide +kernel
theorem y3_67 : decode prog_48_method_2_code 67 = .ok (.iconst 1, 1) := by decide +kernel
theorem y3_68 : decode prog_48_method_2_code 68 = .ok (.iadd, 1) := by decide +kernel
theorem y3_69 : decode prog_48_method_2_code 69 = .ok (.putfield 40, 3) := by decide +kernel
theorem y3_72 : decode prog_48_method_2_code 72 = .ok (.istore 7, 2) := by decide +kernel
theorem y3_74 : decode prog_48_method_2_code 74 = .ok (.iload 7, 2) := by decide +kernel
theorem y3_76 : decode prog_48_method_2_code 76 = .ok (.ifCond .le 42, 3) := by decide +kernel
theorem y3_118 : decode prog_48_method_2_code 118 = .ok (.aload_n 0, 1) := by decide +kernel
theorem y3_119 : decode prog_48_method_2_code 119 = .ok (.iload 7, 2) := by decide +kernel
theorem y3_121 : decode prog_48_method_2_code 121 = .ok (.dload_n 1, 1) := by decide +kernel
theorem y3_122 : decode prog_48_method_2_code 122 = .ok (.aload_n 0, 1) := by decide +kernel
theorem y3_123 : decode prog_48_method_2_code 123 = .ok (.dup, 1) := by decide +kernel
theorem y3_124 : decode prog_48_method_2_code 124 = .ok (.getfield 51, 3) := by decide +kernel
theorem y3_127 : decode prog_48_method_2_code 127 = .ok (.dup2_x1, 1) := by decide +kernel
theorem y3_128 : decode prog_48_method_2_code 128 = .ok (.lconst 1, 1) := by decide +kernel
theorem y3_129 : decode prog_48_method_2_code 129 = .ok (.ladd, 1) := by decide +kernel
theorem y3_130 : decode prog_48_method_2_code 130 = .ok (.putfield 51, 3) := by decide +kernel
theorem y3_133 : decode prog_48_method_2_code 133 = .ok (.iload 6, 2) := by decide +kernel
theorem y3_135 : decode prog_48_method_2_code 135 = .ok (.invokevirtual 55, 3) := by decide +kernel
theorem y3_138 : decode prog_48_method_2_code 138 = .ok (.return_, 1) := by decide +kernel
set_option maxRecDepth 65536 in
set_option maxHeartbeats 40000000 in
theorem rmA0 (l : Launch) (Z : State) (a0 : Array Value) (hw : ∀ d ∈ tables_1, d.before a0 Z = true) (ws : List Jvm.Cond) (h0 : Heap) (n0 : Nat) (A : Nat → Addr) (K : Nat → ClassId) (x1 : Int32) (x2 : Int32) (x3 : Int32) (c1 : Int64) (c2 : Int64) (c3 : Int64) (s1 : Int32) (s2 : Int32) (s3 : Int32) (z11 : Int32) (zp : Int32) (zq : Int32) (t1 : Int32) (t2 : Int32) (t3 : Int32) (ga : Int64) (vx : Int32) (vf : Int32) (vt : Int32)  (z0 : Addr) (zc : Addr) (zd : Addr) (z6 : Addr) (z8 : Addr) (z9 : Addr) (z7 : Addr) (zb : Addr) (zr : ClassId) (zs : ClassId) (zt : ClassId) (zu : ClassId) (zv : ClassId) (zl : ClassId) (z12 : ClassId) (EN : own_St Z A K) (OL0 : Old Z n0 h0) (z13 : Fld Z h0 z0 y_s0 "size" "I" (.int 0)) (z14 : Fld Z h0 z0 y_s0 "slot" "[I" (.ref z6)) (z15 : Arv Z h0 z6 zt .int 16 [(.int s1), (.int s2), (.int s3)] (.int 0)) (z1k : Fld Z h0 z0 y_s0 "free" "[I" (.ref zb)) (z2y : Arv Z h0 zb z12 .int 16 [(.int 15), (.int 14), (.int 13), (.int 12), (.int 11), (.int 10), (.int 9), (.int 8), (.int 7), (.int 6), (.int 5), (.int 4), (.int 3), (.int 2), (.int 1), (.int 0)] (.int 0)) (z1l : Fld Z h0 z0 y_s0 "from" "[I" (.ref z8)) (z2z : Arv Z h0 z8 zu .int 16 [(.int z11), (.int zp), (.int zq)] (.int 0)) (z30 : Fld Z h0 z0 y_s0 "to" "[I" (.ref z9)) (z31 : Arv Z h0 z9 zv .int 16 [(.int t1), (.int t2), (.int t3)] (.int 0)) (z32 : Fld Z h0 z0 y_s0 "message" y_s1 (.ref z7)) (z33 : own_AM Z h0 z7 zl (.object y_s3)) (z34 : Exa Z h0 z0 y_s0) (z35 : Fld Z h0 z0 y_s0 "additions" "J" (.long ga)) (z36 : Fld Z h0 z0 y_s0 "at" "[D" (.ref zc)) (z37 : Arv Z h0 zc zr .double (16 : Int32) [(.double (Jvm.FP.l2d (x1.toInt64))), (.double (Jvm.FP.l2d (x2.toInt64))), (.double (Jvm.FP.l2d (x3.toInt64)))] (.double (Jvm.FP.l2d ((0 : Int32).toInt64)))) (z38 : Fld Z h0 z0 y_s0 "added" "[J" (.ref zd)) (z39 : Arv Z h0 zd zs .long (16 : Int32) [(.long c1), (.long c2), (.long c3)] (.long 0)) (z3a : Ovr Z zl y_s3) (zg : z0 ≠ z8) (z1m : z8 ≠ z9) (zh : z0 ≠ z9) (z1n : z8 ≠ z7) (z1o : z9 ≠ z7) (zi : z0 ≠ z7) (z1p : zc ≠ z8) (z1q : zc ≠ z9) (z1r : zc ≠ z7) (ze : z0 ≠ zc) (z1s : zd ≠ z8) (z1t : zd ≠ z9) (z1u : zd ≠ z7) (zf : z0 ≠ zd) (z1v : z6 ≠ z8) (z1w : z6 ≠ z9) (z1x : z6 ≠ z7) (zj : z0 ≠ z6) (z3b : zc ≠ zd) (z3c : zc ≠ z6) (z3d : zd ≠ z6) (z1y : n0 ≤ z8) (z1z : n0 ≤ z9) (z20 : n0 ≤ z7) (zw : n0 ≤ z0) (z21 : n0 ≤ zc) (z22 : n0 ≤ zd) (z23 : n0 ≤ z6) :
    MetFree l own_m3 (head1 (Jvm.Cond.code own_m3 prog_48_method_2_code 9 none :: ws) (Room.mk 1 0 0 18)) (fun a U => a = #[(.ref z0), (.double (Jvm.FP.l2d (vx.toInt64))), (.int vf), (.int vt), .null] ∧ Z.Warmed39 U.vm ∧ U.heap = h0) (fun _ _ _ _ _ => True) (fun _ U o U' => ∃ v L, o = .returned v ∧ Q_rmA0 Z A K x1 x2 x3 c1 c2 c3 s1 s2 s3 z11 zp zq t1 t2 t3 ga vx vf vt z0 zc zd z6 z8 z9 z7 zb zr zs zt zu zv zl z12 h0 n0 v U'.heap L ∧ FrameEnd U o U' L (Room.mk 1 0 0 18).cells (Room.mk 1 0 0 18).slots) := by
  refine MetFree.of_bodySF (plainFor_of_name own_pn0) hisR ?_
  intro p e s m args below meth c s₁ Bd hml0 hP hK
  obtain ⟨rfl, hZ, hh⟩ := hP
  have hx := Bd.exec
  have hby := Bd.bytes
  have hml : c.maxLocals = 9 := hml0
  have hown : s.vm.findClass y_s0 = some m.cls := findClass_of_methodNamed Bd.named
  have hnm := (name_of_methodNamed Bd.named Bd.method).1
  have X0 : Stand p l e (Room.mk 1 0 0 18) s m #[(.ref z0), (.double (Jvm.FP.l2d (vx.toInt64))), (.int vf), (.int vt), .null] below meth c s₁ [] 0 0 := Stand.of_body Bd
  have e0 : s₁.heap = h0 := by rw [← hh, Bd.state]; rfl
  have N0 := Fr.nil n0
  have pre0 : ∀ t, Steps p.tables e below (s₁.setTop (mkF m 0 #[.val (.ref z0), .val (.double (Jvm.FP.l2d (vx.toInt64))), .second, .val (.int vf), .val (.int vt), .val .null, .unset, .unset, .unset] [])) t → Steps p.tables e below (s₁.setTop (entryFrame m #[(.ref z0), (.double (Jvm.FP.l2d (vx.toInt64))), (.int vf), (.int vt), .null] 9)) t := fun t k => castTop (by first | (simp [entryFrame, mkF, argsToLocals, Value.category, maxLocals]; done) | rfl) k
  have KK0 : Keep h0 h0 [z8, z9, z7, z0, z6, zd, zc] := Keep.refl _ _
  obtain ⟨z3e, z24, z3f, z3g⟩ := getF X0 hx hZ hown (host := "") (Or.inl (own_W hw 37 rfl)) Via.refl e0 z13 (g := (mkF m 1 #[.val (.ref z0), .val (.double (Jvm.FP.l2d (vx.toInt64))), .second, .val (.int vf), .val (.int vt), .val .null, .unset, .unset, .unset] [(.ref z0)])) rfl rfl (hb hby y3_1)
  obtain ⟨z16, zx, z25, z3h⟩ := getF z24 hx hZ hown (host := "") (Or.inl (own_W hw 16 rfl)) Via.refl z3f z14 (g := (mkF m 5 #[.val (.ref z0), .val (.double (Jvm.FP.l2d (vx.toInt64))), .second, .val (.int vf), .val (.int vt), .val .null, .unset, .unset, .unset] [(.ref z0), (.int 0)])) rfl rfl (hb hby y3_5)
  obtain ⟨z6a, z26, -, z3i, z3j, -, -⟩ := (id z15)
  obtain ⟨z3k, z27, z3l, z3m⟩ := getF zx hx hZ hown (host := "") (Or.inl (own_W hw 26 rfl)) Via.refl z25 z1k (g := (mkF m 17 #[.val (.ref z0), .val (.double (Jvm.FP.l2d (vx.toInt64))), .second, .val (.int vf), .val (.int vt), .val .null, .unset, .unset, .unset] [(.ref z0)])) rfl rfl (hb hby y3_17)
  obtain ⟨z17, zm, z28, z3n⟩ := getF z27 hx hZ hown (host := "") (Or.inl (own_W hw 16 rfl)) Via.refl z3l z14 (g := (mkF m 21 #[.val (.ref z0), .val (.double (Jvm.FP.l2d (vx.toInt64))), .second, .val (.int vf), .val (.int vt), .val .null, .unset, .unset, .unset] [(.ref z0), (.ref zb)])) rfl rfl (hb hby y3_21)
  obtain ⟨z6b, z29, -, z3o, z3p, -, -⟩ := (id z15)
  obtain ⟨z18, zn, z2a, z3q⟩ := getF zm hx hZ hown (host := "") (Or.inl (own_W hw 37 rfl)) Via.refl z28 z13 (g := (mkF m 28 #[.val (.ref z0), .val (.double (Jvm.FP.l2d (vx.toInt64))), .second, .val (.int vf), .val (.int vt), .val .null, .unset, .unset, .unset] [(.ref z0), (.int 15), (.ref zb)])) rfl rfl (hb hby y3_28)
  obtain ⟨z2b, z19, z6c, z3r, z6d, z3s, z6e⟩ := (id z2y)
  have z2c : ¬ ((15 : Int32) < 0 ∨ z2b.slots.size ≤ ((15 : Int32)).toNatClampNeg) := inb_of z3r ⟨by decide, by decide⟩
  have z3t : z2b.slots[((15 : Int32)).toNatClampNeg]? = some (.int 0) := Has.at z3s z2c rfl
  obtain ⟨z3u, z1a, z3v, z3w⟩ := getF zn hx hZ hown (host := "") (Or.inl (own_W hw 18 rfl)) Via.refl z2a z1l (g := (mkF m 36 #[.val (.ref z0), .val (.double (Jvm.FP.l2d (vx.toInt64))), .second, .val (.int vf), .val (.int vt), .val .null, .val (.int 0), .unset, .unset] [(.ref z0)])) rfl rfl (hb hby y3_36)
  obtain ⟨z3x, z2d, z3y, z2e, z3z, z40, z41⟩ := (id z2z)
  have z42 : ¬ ((0 : Int32) < 0 ∨ z3x.slots.size ≤ ((0 : Int32)).toNatClampNeg) := inb_of z2e ⟨by decide, by decide⟩
  obtain ⟨z43, z44, z1b, z45, z1, z46⟩ := stI z1a hx hZ z3v z2d (j := (0 : Int32)) z42 (g := (mkF m 42 #[.val (.ref z0), .val (.double (Jvm.FP.l2d (vx.toInt64))), .second, .val (.int vf), .val (.int vt), .val .null, .val (.int 0), .unset, .unset] [(.int vf), (.int 0), (.ref z8)])) rfl rfl (hb hby y3_42)
  have z47 := Fr.snoc z1b N0 z1y
  have z48 := OL0.wr z1 z1y
  have z49 := KK0.wr z1 (own_Ix 0 rfl)
  have z4a : Arv Z z44 z8 zu .int 16 [(.int vf), (.int zp), (.int zq)] (.int 0) := Arv.set z2d z3y z2e z3z z40 z41 rfl z1 0 (by decide) (by decide : 0 < 3)
  have z2f := (z30.other z1 (Or.inl zg))
  obtain ⟨z4b, z1c, z4c, z4d⟩ := getF z1b hx hZ hown (host := "") (Or.inl (own_W hw 20 rfl)) Via.refl z45 z2f (g := (mkF m 44 #[.val (.ref z0), .val (.double (Jvm.FP.l2d (vx.toInt64))), .second, .val (.int vf), .val (.int vt), .val .null, .val (.int 0), .unset, .unset] [(.ref z0)])) rfl rfl (hb hby y3_44)
  have z4e := (z31.other z1 (Ne.symm z1m))
  obtain ⟨z4f, z2g, z4g, z2h, z4h, z4i, z4j⟩ := (id z4e)
  have z4k : ¬ ((0 : Int32) < 0 ∨ z4f.slots.size ≤ ((0 : Int32)).toNatClampNeg) := inb_of z2h ⟨by decide, by decide⟩
  obtain ⟨z4l, z2i, z1d, z4m, z2, z4n⟩ := stI z1c hx hZ z4c z2g (j := (0 : Int32)) z4k (g := (mkF m 51 #[.val (.ref z0), .val (.double (Jvm.FP.l2d (vx.toInt64))), .second, .val (.int vf), .val (.int vt), .val .null, .val (.int 0), .unset, .unset] [(.int vt), (.int 0), (.ref z9)])) rfl rfl (hb hby y3_51)
  have z4o := Fr.snoc z1d z47 z1z
  have z4p := z48.wr z2 z1z
  have z4q := z49.wr z2 (own_Ix 1 rfl)
  have z4r : Arv Z z2i z9 zv .int 16 [(.int vt), (.int t2), (.int t3)] (.int 0) := Arv.set z2g z4g z2h z4h z4i z4j rfl z2 0 (by decide) (by decide : 0 < 3)
  have z2j := ((z32.other z1 (Or.inl zg)).other z2 (Or.inl zh))
  obtain ⟨z4s, z1e, z4t, z4u⟩ := getF z1d hx hZ hown (host := "") (Or.inl (own_W hw 24 rfl)) Via.refl z4m z2j (g := (mkF m 53 #[.val (.ref z0), .val (.double (Jvm.FP.l2d (vx.toInt64))), .second, .val (.int vf), .val (.int vt), .val .null, .val (.int 0), .unset, .unset] [(.ref z0)])) rfl rfl (hb hby y3_53)
  have z2k : own_AM Z z2i z7 zl (.object y_s3) := ((z33.other z1 (Ne.symm z1n)).other z2 (Ne.symm z1o))
  obtain ⟨vs92, dv92, z4v, z4w, z6f, z4x, z6g, z6h, z6i⟩ := (id z2k)
  have z4y : ¬ ((0 : Int32) < 0 ∨ z4v.slots.size ≤ ((0 : Int32)).toNatClampNeg) := inb_of z4x ⟨by decide, by decide⟩
  obtain ⟨z4z, z50, zy, z51, z3, z52⟩ := stR z1e hx hZ z4t z4w (j := (0 : Int32)) z4y rfl (Or.inl rfl) (g := (mkF m 60 #[.val (.ref z0), .val (.double (Jvm.FP.l2d (vx.toInt64))), .second, .val (.int vf), .val (.int vt), .val .null, .val (.int 0), .unset, .unset] [.null, (.int 0), (.ref z7)])) rfl rfl (hb hby y3_60)
  have z53 := Fr.snoc zy z4o z20
  have z54 := z4p.wr z3 z20
  have z55 := z4q.wr z3 (own_Ix 2 rfl)
  have z56 : own_AM Z z50 z7 zl (.object y_s3) := own_AM.set z2k rfl z3
  have z1f := (((z13.other z1 (Or.inl zg)).other z2 (Or.inl zh)).other z3 (Or.inl zi))
  obtain ⟨z2l, zz, z57, z58⟩ := getF zy hx hZ hown (host := "") (Or.inl (own_W hw 37 rfl)) Via.refl z51 z1f (g := (mkF m 63 #[.val (.ref z0), .val (.double (Jvm.FP.l2d (vx.toInt64))), .second, .val (.int vf), .val (.int vt), .val .null, .val (.int 0), .unset, .unset] [(.ref z0), (.ref z0)])) rfl rfl (hb hby y3_63)
  have z2m := (((z34.wr z1).wr z2).wr z3)
  obtain ⟨z2n, z59, zk, z5a, z4, z5b⟩ := putF zz hx hZ hown (host := "") (Or.inl (own_W hw 37 rfl)) Via.refl z57 z1f z2m (Or.inl (own_W hw 38 rfl)) (own_W hw 1 rfl) (ty := .int) (by decide) rfl rfl (g := (mkF m 69 #[.val (.ref z0), .val (.double (Jvm.FP.l2d (vx.toInt64))), .second, .val (.int vf), .val (.int vt), .val .null, .val (.int 0), .unset, .unset] [(.int 1), (.ref z0), (.int 0)])) rfl rfl (hb hby y3_69)
  have z5c := Fr.snoc zk z53 zw
  have z5d := z54.wr z4 zw
  have z5e := z55.wr z4 (own_Ix 3 rfl)
  have z5f : Fld Z z59 z0 y_s0 "size" "I" (.int 1) := z1f.same z4
  have z1g := ((((z35.other z1 (Or.inl zg)).other z2 (Or.inl zh)).other z3 (Or.inl zi)).other z4 (Or.inr (slot_ne (Or.inl (own_W hw 49 rfl)) (Or.inl (own_W hw 38 rfl)) (by decide) (t := .long) (t' := .int) (by decide) (by decide))))
  obtain ⟨z1h, z10, z5g, z5h⟩ := getF zk hx hZ hown (host := "") (Or.inl (own_W hw 48 rfl)) Via.refl z5a z1g (g := (mkF m 124 #[.val (.ref z0), .val (.double (Jvm.FP.l2d (vx.toInt64))), .second, .val (.int vf), .val (.int vt), .val .null, .val (.int 0), .val (.int 0), .unset] [(.ref z0), (.ref z0), (.double (Jvm.FP.l2d (vx.toInt64))), (.int 0), (.ref z0)])) rfl rfl (hb hby y3_124)
  have z2o := (z2m.wr z4)
  obtain ⟨z5i, z2p, z1i, z2q, z5, z5j⟩ := putF z10 hx hZ hown (host := "") (Or.inl (own_W hw 48 rfl)) Via.refl z5g z1g z2o (Or.inl (own_W hw 49 rfl)) (own_W hw 1 rfl) (ty := .long) (by decide) rfl rfl (g := (mkF m 130 #[.val (.ref z0), .val (.double (Jvm.FP.l2d (vx.toInt64))), .second, .val (.int vf), .val (.int vt), .val .null, .val (.int 0), .val (.int 0), .unset] [(.long (ga + (1 : Int64))), (.ref z0), (.long ga), (.double (Jvm.FP.l2d (vx.toInt64))), (.int 0), (.ref z0)])) rfl rfl (hb hby y3_130)
  have z5k := Fr.snoc z1i z5c zw
  have z2r := z5d.wr z5 zw
  have z5l := z5e.wr z5 (own_Ix 3 rfl)
  have z5m : Fld Z z2p z0 y_s0 "additions" "J" (.long (ga + (1 : Int64))) := z1g.same z5
  have z2s := (((((z36.other z1 (Or.inl zg)).other z2 (Or.inl zh)).other z3 (Or.inl zi)).other z4 (Or.inr (slot_ne (Or.inl (own_W hw 11 rfl)) (Or.inl (own_W hw 38 rfl)) (by decide) (t := (.array .double)) (t' := .int) (by decide) (by decide)))).other z5 (Or.inr (slot_ne (Or.inl (own_W hw 11 rfl)) (Or.inl (own_W hw 49 rfl)) (by decide) (t := (.array .double)) (t' := .long) (by decide) (by decide))))
  have z5n := (((((z37.other z1 z1p).other z2 z1q).other z3 z1r).other z4 (Ne.symm ze)).other z5 (Ne.symm ze))
  have z2t := (((((z38.other z1 (Or.inl zg)).other z2 (Or.inl zh)).other z3 (Or.inl zi)).other z4 (Or.inr (slot_ne (Or.inl (own_W hw 14 rfl)) (Or.inl (own_W hw 38 rfl)) (by decide) (t := (.array .long)) (t' := .int) (by decide) (by decide)))).other z5 (Or.inr (slot_ne (Or.inl (own_W hw 14 rfl)) (Or.inl (own_W hw 49 rfl)) (by decide) (t := (.array .long)) (t' := .long) (by decide) (by decide))))
  have z5o := (((((z39.other z1 z1s).other z2 z1t).other z3 z1u).other z4 (Ne.symm zf)).other z5 (Ne.symm zf))
  have z2u := (((((z14.other z1 (Or.inl zg)).other z2 (Or.inl zh)).other z3 (Or.inl zi)).other z4 (Or.inr (slot_ne (Or.inl (own_W hw 17 rfl)) (Or.inl (own_W hw 38 rfl)) (by decide) (t := (.array .int)) (t' := .int) (by decide) (by decide)))).other z5 (Or.inr (slot_ne (Or.inl (own_W hw 17 rfl)) (Or.inl (own_W hw 49 rfl)) (by decide) (t := (.array .int)) (t' := .long) (by decide) (by decide))))
  have z5p := (((((z15.other z1 z1v).other z2 z1w).other z3 z1x).other z4 (Ne.symm zj)).other z5 (Ne.symm zj))
  have z2v := (z2o.wr z5)
  obtain ⟨cq108, z5q, q108'⟩ := z2v.cell
  obtain ⟨_, _, ⟨z1j, L108, z6j, n108⟩, -, zo, ⟨Lc108, z2w, l108, y108, z108⟩, z2x⟩ := z1i.privateBack hx (y := own_m2) hown (mvT hZ (own_W hw 50 rfl)) (mvT hZ (own_W hw 51 rfl)) (own_selpS (y := own_m2) (mvT hZ (own_W hw 35 rfl)) rfl (mvP (args := #[]) hZ (own_W hw 52 rfl)) (mvT hZ (own_W hw 51 rfl)) (by decide)) (Cond.privateMethod_at (mvP hZ (own_W hw 52 rfl) (args := #[]))) (mvT hZ (own_W hw 53 rfl)) (by decide) (backOf (W := 0) (rmP0 l Z a0 hw [] z2p n0 A K x1 x2 x3 c1 c2 c3 s1 s2 s3 vx ga (0 : Int32) z0 zc zd z6 zr zs zt EN z2r z2s z5n z2t z5o z2u z5p ze z3b zf z3c z3d z21 z22 z23) hZ (own_W hw 53 rfl) (own_W hw 2 rfl) (by decide) (by decide)) (g := (mkF m 135 #[.val (.ref z0), .val (.double (Jvm.FP.l2d (vx.toInt64))), .second, .val (.int vf), .val (.int vt), .val .null, .val (.int 0), .val (.int 0), .unset] [(.int 0), (.long ga), (.double (Jvm.FP.l2d (vx.toInt64))), (.int 0), (.ref z0)])) rfl (by rw [hml]; rfl) (Steps.refl _) (a := z0) (by rw [z2q]; exact z5q) q108' (argsL := [(.int 0), (.double (Jvm.FP.l2d (vx.toInt64))), (.long ga), (.int 0)]) (rest := []) (lenOf own_pd0 rfl) rfl (by show 2 * 0 + _ ≤ _; exact Nat.le_of_eq rfl) (hb hby y3_135) (fun _ _ => ⟨rfl, z2q, (by decide : 0 + 0 ≤ _), (by decide : 0 + 0 ≤ _)⟩)
  dsimp only [Pt.U, Pt.locs, Pt.cells, Pt.slots] at zo l108 y108 z108 z2x z2w
  replace zo := own_sub zo l108 y108 z108
  obtain ⟨rfl, z5r, za, z5s, z5t, z5u⟩ := z2w
  have z5v := Fr.app z5k z5r
  have z6k := z2r.keep za (allS z21 (allS z22 (allS z23 all0)))
  have z5w := z5l.trans za (allS (own_Ix 6 rfl) (allS (own_Ix 5 rfl) (allS (own_Ix 4 rfl) all0)))
  have z5x := (z2v.keep za)
  have z5y := (z2s.keep za (ninS ze (ninS zf (ninS zj nin0))))
  have z5z := (z2t.keep za (ninS ze (ninS zf (ninS zj nin0))))
  have z60 := (z2u.keep za (ninS ze (ninS zf (ninS zj nin0))))
  have z61 := ((((((z1l.other z1 (Or.inl zg)).other z2 (Or.inl zh)).other z3 (Or.inl zi)).other z4 (Or.inr (slot_ne (Or.inl (own_W hw 19 rfl)) (Or.inl (own_W hw 38 rfl)) (by decide) (t := (.array .int)) (t' := .int) (by decide) (by decide)))).other z5 (Or.inr (slot_ne (Or.inl (own_W hw 19 rfl)) (Or.inl (own_W hw 49 rfl)) (by decide) (t := (.array .int)) (t' := .long) (by decide) (by decide)))).keep za (ninS ze (ninS zf (ninS zj nin0))))
  have z62 := (((((z2f.other z2 (Or.inl zh)).other z3 (Or.inl zi)).other z4 (Or.inr (slot_ne (Or.inl (own_W hw 21 rfl)) (Or.inl (own_W hw 38 rfl)) (by decide) (t := (.array .int)) (t' := .int) (by decide) (by decide)))).other z5 (Or.inr (slot_ne (Or.inl (own_W hw 21 rfl)) (Or.inl (own_W hw 49 rfl)) (by decide) (t := (.array .int)) (t' := .long) (by decide) (by decide)))).keep za (ninS ze (ninS zf (ninS zj nin0))))
  have z63 := ((((z2j.other z3 (Or.inl zi)).other z4 (Or.inr (slot_ne (Or.inl (own_W hw 25 rfl)) (Or.inl (own_W hw 38 rfl)) (by decide) (t := (.array (.object y_s3))) (t' := .int) (by decide) (by decide)))).other z5 (Or.inr (slot_ne (Or.inl (own_W hw 25 rfl)) (Or.inl (own_W hw 49 rfl)) (by decide) (t := (.array (.object y_s3))) (t' := .long) (by decide) (by decide)))).keep za (ninS ze (ninS zf (ninS zj nin0))))
  have z64 := ((((((z1k.other z1 (Or.inl zg)).other z2 (Or.inl zh)).other z3 (Or.inl zi)).other z4 (Or.inr (slot_ne (Or.inl (own_W hw 27 rfl)) (Or.inl (own_W hw 38 rfl)) (by decide) (t := (.array .int)) (t' := .int) (by decide) (by decide)))).other z5 (Or.inr (slot_ne (Or.inl (own_W hw 27 rfl)) (Or.inl (own_W hw 49 rfl)) (by decide) (t := (.array .int)) (t' := .long) (by decide) (by decide)))).keep za (ninS ze (ninS zf (ninS zj nin0))))
  have z65 := ((z5f.other z5 (Or.inr (slot_ne (Or.inl (own_W hw 38 rfl)) (Or.inl (own_W hw 49 rfl)) (by decide) (t := .int) (t' := .long) (by decide) (by decide)))).keep za (ninS ze (ninS zf (ninS zj nin0))))
  have z66 := (z5m.keep za (ninS ze (ninS zf (ninS zj nin0))))
  have z67 := (((((z4a.other z2 z1m).other z3 z1n).other z4 (Ne.symm zg)).other z5 (Ne.symm zg)).keep za (ninS (Ne.symm z1p) (ninS (Ne.symm z1s) (ninS (Ne.symm z1v) nin0))))
  have z68 := ((((z4r.other z3 z1o).other z4 (Ne.symm zh)).other z5 (Ne.symm zh)).keep za (ninS (Ne.symm z1q) (ninS (Ne.symm z1t) (ninS (Ne.symm z1w) nin0))))
  have z69 : own_AM Z z1j.heap z7 zl (.object y_s3) := (((z56.other z4 (Ne.symm zi)).other z5 (Ne.symm zi)).keep za (ninS (Ne.symm z1r) (ninS (Ne.symm z1u) (ninS (Ne.symm z1x) nin0))))
  obtain ⟨fs, hr, hrun, hended, hW, hsame⟩ := zo.leave (v := none) (fun _ => rfl)
  refine ⟨_, _, pre0 _ ?_, hrun, hended, _, _, rfl, ?_, ⟨_, rfl⟩, hW, hsame.mono (by decide) (by decide)⟩
  · show Steps p.tables e below (s₁.setTop (mkF m 0 #[.val (.ref z0), .val (.double (Jvm.FP.l2d (vx.toInt64))), .second, .val (.int vf), .val (.int vt), .val .null, .unset, .unset, .unset] [])) _
    refine XS.aloadN X0.here hx rfl (hb hby y3_0) rfl rfl ?_
    refine z3g _ ?_
    show Steps p.tables e below (z3e.setTop (mkF m 4 #[.val (.ref z0), .val (.double (Jvm.FP.l2d (vx.toInt64))), .second, .val (.int vf), .val (.int vt), .val .null, .unset, .unset, .unset] [(.int 0)])) _
    refine XS.aloadN z24.here hx rfl (hb hby y3_4) rfl rfl ?_
    refine z3h _ ?_
    show Steps p.tables e below (z16.setTop (mkF m 8 #[.val (.ref z0), .val (.double (Jvm.FP.l2d (vx.toInt64))), .second, .val (.int vf), .val (.int vt), .val .null, .unset, .unset, .unset] [(.ref z6), (.int 0)])) _
    refine zx.arraylength hx (by rw [z25]; exact z26.1) (State.isArrayOf_alike hZ.alike z26.2.1) (g := (mkF m 8 #[.val (.ref z0), .val (.double (Jvm.FP.l2d (vx.toInt64))), .second, .val (.int vf), .val (.int vt), .val .null, .unset, .unset, .unset] [(.ref z6), (.int 0)])) rfl rfl (hb hby y3_8) _ ?_
    rw [len_of z3i z3j]
    show Steps p.tables e below (z16.setTop (mkF m 9 #[.val (.ref z0), .val (.double (Jvm.FP.l2d (vx.toInt64))), .second, .val (.int vf), .val (.int vt), .val .null, .unset, .unset, .unset] [(.int 16), (.int 0)])) _
    refine XS.icmpYes zx.here hx rfl (pc0 := 9) (pc' := 16) rfl (hb hby y3_9) rfl (feq (by decide : ¬ ((0 : Int32) = (16 : Int32)))).2 (by decide) (by decide) ?_
    show Steps p.tables e below (z16.setTop (mkF m 16 #[.val (.ref z0), .val (.double (Jvm.FP.l2d (vx.toInt64))), .second, .val (.int vf), .val (.int vt), .val .null, .unset, .unset, .unset] [])) _
    refine XS.aloadN zx.here hx rfl (hb hby y3_16) rfl rfl ?_
    refine z3m _ ?_
    show Steps p.tables e below (z3k.setTop (mkF m 20 #[.val (.ref z0), .val (.double (Jvm.FP.l2d (vx.toInt64))), .second, .val (.int vf), .val (.int vt), .val .null, .unset, .unset, .unset] [(.ref zb)])) _
    refine XS.aloadN z27.here hx rfl (hb hby y3_20) rfl rfl ?_
    refine z3n _ ?_
    show Steps p.tables e below (z17.setTop (mkF m 24 #[.val (.ref z0), .val (.double (Jvm.FP.l2d (vx.toInt64))), .second, .val (.int vf), .val (.int vt), .val .null, .unset, .unset, .unset] [(.ref z6), (.ref zb)])) _
    refine zm.arraylength hx (by rw [z28]; exact z29.1) (State.isArrayOf_alike hZ.alike z29.2.1) (g := (mkF m 24 #[.val (.ref z0), .val (.double (Jvm.FP.l2d (vx.toInt64))), .second, .val (.int vf), .val (.int vt), .val .null, .unset, .unset, .unset] [(.ref z6), (.ref zb)])) rfl rfl (hb hby y3_24) _ ?_
    rw [len_of z3o z3p]
    show Steps p.tables e below (z17.setTop (mkF m 25 #[.val (.ref z0), .val (.double (Jvm.FP.l2d (vx.toInt64))), .second, .val (.int vf), .val (.int vt), .val .null, .unset, .unset, .unset] [(.int 16), (.ref zb)])) _
    refine XS.iconst zm.here hx rfl (hb hby y3_25) ?_
    refine XS.isub zm.here hx rfl (hb hby y3_26) rfl ?_
    show Steps p.tables e below (z17.setTop (mkF m 27 #[.val (.ref z0), .val (.double (Jvm.FP.l2d (vx.toInt64))), .second, .val (.int vf), .val (.int vt), .val .null, .unset, .unset, .unset] [(.int 15), (.ref zb)])) _
    refine XS.aloadN zm.here hx rfl (hb hby y3_27) rfl rfl ?_
    refine z3q _ ?_
    show Steps p.tables e below (z18.setTop (mkF m 31 #[.val (.ref z0), .val (.double (Jvm.FP.l2d (vx.toInt64))), .second, .val (.int vf), .val (.int vt), .val .null, .unset, .unset, .unset] [(.int 0), (.int 15), (.ref zb)])) _
    refine XS.isub zn.here hx rfl (hb hby y3_31) rfl ?_
    show Steps p.tables e below (z18.setTop (mkF m 32 #[.val (.ref z0), .val (.double (Jvm.FP.l2d (vx.toInt64))), .second, .val (.int vf), .val (.int vt), .val .null, .unset, .unset, .unset] [(.int 15), (.ref zb)])) _
    refine zn.iaload hx (j := (15 : Int32)) (v := (.int 0)) (by rw [z2a]; exact z19.1) (State.isArrayOf_alike hZ.alike z19.2.1) z19.2.2 z2c z3t (g := (mkF m 32 #[.val (.ref z0), .val (.double (Jvm.FP.l2d (vx.toInt64))), .second, .val (.int vf), .val (.int vt), .val .null, .unset, .unset, .unset] [(.int 15), (.ref zb)])) rfl rfl (hb hby y3_32) _ ?_
    show Steps p.tables e below (z18.setTop (mkF m 33 #[.val (.ref z0), .val (.double (Jvm.FP.l2d (vx.toInt64))), .second, .val (.int vf), .val (.int vt), .val .null, .unset, .unset, .unset] [(.int 0)])) _
    refine XS.istore zn.here hx rfl (hb hby y3_33) rfl (l' := #[.val (.ref z0), .val (.double (Jvm.FP.l2d (vx.toInt64))), .second, .val (.int vf), .val (.int vt), .val .null, .val (.int 0), .unset, .unset]) rfl ?_
    refine XS.aloadN zn.here hx rfl (hb hby y3_35) rfl rfl ?_
    refine z3w _ ?_
    show Steps p.tables e below (z3u.setTop (mkF m 39 #[.val (.ref z0), .val (.double (Jvm.FP.l2d (vx.toInt64))), .second, .val (.int vf), .val (.int vt), .val .null, .val (.int 0), .unset, .unset] [(.ref z8)])) _
    refine XS.iload z1a.here hx rfl (hb hby y3_39) rfl ?_
    refine XS.iloadN z1a.here hx rfl (hb hby y3_41) rfl ?_
    refine z46 _ ?_
    show Steps p.tables e below (z43.setTop (mkF m 43 #[.val (.ref z0), .val (.double (Jvm.FP.l2d (vx.toInt64))), .second, .val (.int vf), .val (.int vt), .val .null, .val (.int 0), .unset, .unset] [])) _
    refine XS.aloadN z1b.here hx rfl (hb hby y3_43) rfl rfl ?_
    refine z4d _ ?_
    show Steps p.tables e below (z4b.setTop (mkF m 47 #[.val (.ref z0), .val (.double (Jvm.FP.l2d (vx.toInt64))), .second, .val (.int vf), .val (.int vt), .val .null, .val (.int 0), .unset, .unset] [(.ref z9)])) _
    refine XS.iload z1c.here hx rfl (hb hby y3_47) rfl ?_
    refine XS.iload z1c.here hx rfl (hb hby y3_49) rfl ?_
    refine z4n _ ?_
    show Steps p.tables e below (z4l.setTop (mkF m 52 #[.val (.ref z0), .val (.double (Jvm.FP.l2d (vx.toInt64))), .second, .val (.int vf), .val (.int vt), .val .null, .val (.int 0), .unset, .unset] [])) _
    refine XS.aloadN z1d.here hx rfl (hb hby y3_52) rfl rfl ?_
    refine z4u _ ?_
    show Steps p.tables e below (z4s.setTop (mkF m 56 #[.val (.ref z0), .val (.double (Jvm.FP.l2d (vx.toInt64))), .second, .val (.int vf), .val (.int vt), .val .null, .val (.int 0), .unset, .unset] [(.ref z7)])) _
    refine XS.iload z1e.here hx rfl (hb hby y3_56) rfl ?_
    refine XS.aload z1e.here hx rfl (hb hby y3_58) rfl rfl ?_
    refine z52 _ ?_
    show Steps p.tables e below (z4z.setTop (mkF m 61 #[.val (.ref z0), .val (.double (Jvm.FP.l2d (vx.toInt64))), .second, .val (.int vf), .val (.int vt), .val .null, .val (.int 0), .unset, .unset] [])) _
    refine XS.aloadN zy.here hx rfl (hb hby y3_61) rfl rfl ?_
    refine XS.dup zy.here hx rfl (hb hby y3_62) rfl rfl ?_
    refine z58 _ ?_
    show Steps p.tables e below (z2l.setTop (mkF m 66 #[.val (.ref z0), .val (.double (Jvm.FP.l2d (vx.toInt64))), .second, .val (.int vf), .val (.int vt), .val .null, .val (.int 0), .unset, .unset] [(.int 0), (.ref z0)])) _
    refine XS.dupX1 zz.here hx rfl (hb hby y3_66) rfl rfl rfl ?_
    refine XS.iconst zz.here hx rfl (hb hby y3_67) ?_
    refine XS.iadd zz.here hx rfl (hb hby y3_68) rfl ?_
    show Steps p.tables e below (z2l.setTop (mkF m 69 #[.val (.ref z0), .val (.double (Jvm.FP.l2d (vx.toInt64))), .second, .val (.int vf), .val (.int vt), .val .null, .val (.int 0), .unset, .unset] [(.int 1), (.ref z0), (.int 0)])) _
    refine z5b _ ?_
    show Steps p.tables e below (z2n.setTop (mkF m 72 #[.val (.ref z0), .val (.double (Jvm.FP.l2d (vx.toInt64))), .second, .val (.int vf), .val (.int vt), .val .null, .val (.int 0), .unset, .unset] [(.int 0)])) _
    refine XS.istore zk.here hx rfl (hb hby y3_72) rfl (l' := #[.val (.ref z0), .val (.double (Jvm.FP.l2d (vx.toInt64))), .second, .val (.int vf), .val (.int vt), .val .null, .val (.int 0), .val (.int 0), .unset]) rfl ?_
    refine XS.iload zk.here hx rfl (hb hby y3_74) rfl ?_
    refine XS.ifYes zk.here hx rfl (pc0 := 76) (pc' := 118) rfl (hb hby y3_76) rfl ((if0 _ _).trans (flt (by decide : ¬ ((0 : Int32) < (0 : Int32)))).2.2.2) (by decide) (by decide) ?_
    show Steps p.tables e below (z2n.setTop (mkF m 118 #[.val (.ref z0), .val (.double (Jvm.FP.l2d (vx.toInt64))), .second, .val (.int vf), .val (.int vt), .val .null, .val (.int 0), .val (.int 0), .unset] [])) _
    refine XS.aloadN zk.here hx rfl (hb hby y3_118) rfl rfl ?_
    refine XS.iload zk.here hx rfl (hb hby y3_119) rfl ?_
    refine XS.dloadN zk.here hx rfl (hb hby y3_121) rfl ?_
    refine XS.aloadN zk.here hx rfl (hb hby y3_122) rfl rfl ?_
    refine XS.dup zk.here hx rfl (hb hby y3_123) rfl rfl ?_
    refine z5h _ ?_
    show Steps p.tables e below (z1h.setTop (mkF m 127 #[.val (.ref z0), .val (.double (Jvm.FP.l2d (vx.toInt64))), .second, .val (.int vf), .val (.int vt), .val .null, .val (.int 0), .val (.int 0), .unset] [(.long ga), (.ref z0), (.double (Jvm.FP.l2d (vx.toInt64))), (.int 0), (.ref z0)])) _
    refine own_dup2X1 z10.here hx rfl (hb hby y3_127) rfl ?_
    show Steps p.tables e below (z1h.setTop (mkF m 128 #[.val (.ref z0), .val (.double (Jvm.FP.l2d (vx.toInt64))), .second, .val (.int vf), .val (.int vt), .val .null, .val (.int 0), .val (.int 0), .unset] [(.long ga), (.ref z0), (.long ga), (.double (Jvm.FP.l2d (vx.toInt64))), (.int 0), (.ref z0)])) _
    refine XS.lconst z10.here hx rfl (hb hby y3_128) ?_
    refine XS.ladd z10.here hx rfl (hb hby y3_129) rfl ?_
    show Steps p.tables e below (z1h.setTop (mkF m 130 #[.val (.ref z0), .val (.double (Jvm.FP.l2d (vx.toInt64))), .second, .val (.int vf), .val (.int vt), .val .null, .val (.int 0), .val (.int 0), .unset] [(.long (ga + (1 : Int64))), (.ref z0), (.long ga), (.double (Jvm.FP.l2d (vx.toInt64))), (.int 0), (.ref z0)])) _
    refine z5j _ ?_
    show Steps p.tables e below (z5i.setTop (mkF m 133 #[.val (.ref z0), .val (.double (Jvm.FP.l2d (vx.toInt64))), .second, .val (.int vf), .val (.int vt), .val .null, .val (.int 0), .val (.int 0), .unset] [(.long ga), (.double (Jvm.FP.l2d (vx.toInt64))), (.int 0), (.ref z0)])) _
    refine XS.iload z1i.here hx rfl (hb hby y3_133) rfl ?_
    refine z2x.trans ?_
    show Steps p.tables e below (z1j.setTop (mkF m 138 #[.val (.ref z0), .val (.double (Jvm.FP.l2d (vx.toInt64))), .second, .val (.int vf), .val (.int vt), .val .null, .val (.int 0), .val (.int 0), .unset] [])) _
    exact zo.returnOut hx Bd.returns (hb hby y3_138) hr
  · show Q_rmA0 Z A K x1 x2 x3 c1 c2 c3 s1 s2 s3 z11 zp zq t1 t2 t3 ga vx vf vt z0 zc zd z6 z8 z9 z7 zb zr zs zt zu zv zl z12 h0 n0 _ z1j.heap _
    exact ⟨rfl, z5v, z5w, z5x, z5y, z5z, z60, z61, z62, z63, z64, z65, z66, z5s, z5t, z5u, z67, z68, z69, z3a⟩
def Q_rmA1y (Z : State) (A : Nat → Addr) (K : Nat → ClassId) (x1 : Int32) (x2 : Int32) (x3 : Int32) (c1 : Int64) (c2 : Int64) (c3 : Int64) (s1 : Int32) (s2 : Int32) (s3 : Int32) (z8 : Int32) (zg : Int32) (z9 : Int32) (t1 : Int32) (t2 : Int32) (t3 : Int32) (ga : Int64) (vx : Int32) (vf : Int32) (vt : Int32) (z0 : Addr) (z1 : Addr) (z2 : Addr) (z3 : Addr) (z4 : Addr) (z5 : Addr) (z6 : Addr) (za : Addr) (br : Addr) (zb : ClassId) (zc : ClassId) (zd : ClassId) (ze : ClassId) (zf : ClassId) (z7 : ClassId) (zh : ClassId) (h0 : Heap) (n0 : Nat) (v : Option Value) (h : Heap) (L : List Loc) : Prop := v = none ∧ Fr n0 L ∧ Keep h0 h [z4, z5, z6, z0, z1, z2, z3] ∧ (Exa Z h z0 y_s0) ∧ (Fld Z h z0 y_s0 "at" "[D" (.ref z1)) ∧ (Fld Z h z0 y_s0 "added" "[J" (.ref z2)) ∧ (Fld Z h z0 y_s0 "slot" "[I" (.ref z3)) ∧ (Fld Z h z0 y_s0 "from" "[I" (.ref z4)) ∧ (Fld Z h z0 y_s0 "to" "[I" (.ref z5)) ∧ (Fld Z h z0 y_s0 "message" y_s1 (.ref z6)) ∧ (Fld Z h z0 y_s0 "free" "[I" (.ref za)) ∧ (Fld Z h z0 y_s0 "size" "I" (.int 2)) ∧ (Fld Z h z0 y_s0 "additions" "J" (.long (ga + (1 : Int64)))) ∧ (Arv Z h z1 zb .double (16 : Int32) [(.double (Jvm.FP.l2d (vx.toInt64))), (.double (Jvm.FP.l2d (x1.toInt64))), (.double (Jvm.FP.l2d (x3.toInt64)))] (.double (Jvm.FP.l2d ((0 : Int32).toInt64)))) ∧ (Arv Z h z2 zc .long (16 : Int32) [(.long ga), (.long c1), (.long c3)] (.long 0)) ∧ (Arv Z h z3 zd .int 16 [(.int 1), (.int s1), (.int s3)] (.int 0)) ∧ (Arv Z h z4 ze .int 16 [(.int z8), (.int vf), (.int z9)] (.int 0)) ∧ (Arv Z h z5 zf .int 16 [(.int t1), (.int vt), (.int t3)] (.int 0)) ∧ (own_AM Z h z6 z7 (.object y_s3)) ∧ (Ovr Z z7 y_s3)
theorem y3_79 : decode prog_48_method_2_code 79 = .ok (.dload_n 1, 1) := by decide +kernel
theorem y3_80 : decode prog_48_method_2_code 80 = .ok (.aload_n 0, 1) := by decide +kernel
theorem y3_81 : decode prog_48_method_2_code 81 = .ok (.getfield 9, 3) := by decide +kernel
theorem y3_84 : decode prog_48_method_2_code 84 = .ok (.iload 7, 2) := by decide +kernel
theorem y3_86 : decode prog_48_method_2_code 86 = .ok (.iconst 1, 1) := by decide +kernel
theorem y3_87 : decode prog_48_method_2_code 87 = .ok (.isub, 1) := by decide +kernel
theorem y3_88 : decode prog_48_method_2_code 88 = .ok (.iconst 4, 1) := by decide +kernel
theorem y3_89 : decode prog_48_method_2_code 89 = .ok (.idiv, 1) := by decide +kernel
theorem y3_90 : decode prog_48_method_2_code 90 = .ok (.daload, 1) := by decide +kernel
theorem y3_91 : decode prog_48_method_2_code 91 = .ok (.dcmp .g, 1) := by decide +kernel
theorem y3_92 : decode prog_48_method_2_code 92 = .ok (.ifCond .ge 26, 3) := by decide +kernel
theorem y3_95 : decode prog_48_method_2_code 95 = .ok (.iload 7, 2) := by decide +kernel
theorem y3_97 : decode prog_48_method_2_code 97 = .ok (.iconst 1, 1) := by decide +kernel
theorem y3_98 : decode prog_48_method_2_code 98 = .ok (.isub, 1) := by decide +kernel
theorem y3_99 : decode prog_48_method_2_code 99 = .ok (.iconst 4, 1) := by decide +kernel
theorem y3_100 : decode prog_48_method_2_code 100 = .ok (.idiv, 1) := by decide +kernel
theorem y3_101 : decode prog_48_method_2_code 101 = .ok (.istore 8, 2) := by decide +kernel
theorem y3_103 : decode prog_48_method_2_code 103 = .ok (.aload_n 0, 1) := by decide +kernel
theorem y3_104 : decode prog_48_method_2_code 104 = .ok (.iload 8, 2) := by decide +kernel
theorem y3_106 : decode prog_48_method_2_code 106 = .ok (.iload 7, 2) := by decide +kernel
theorem y3_108 : decode prog_48_method_2_code 108 = .ok (.invokevirtual 47, 3) := by decide +kernel
theorem y3_111 : decode prog_48_method_2_code 111 = .ok (.iload 8, 2) := by decide +kernel
theorem y3_113 : decode prog_48_method_2_code 113 = .ok (.istore 7, 2) := by decide +kernel
theorem y3_115 : decode prog_48_method_2_code 115 = .ok (.goto (-41), 3) := by decide +kernel
set_option maxRecDepth 65536 in
set_option maxHeartbeats 40000000 in
theorem rmA1y (l : Launch) (Z : State) (a0 : Array Value) (hw : ∀ d ∈ tables_1, d.before a0 Z = true) (ws : List Jvm.Cond) (h0 : Heap) (n0 : Nat) (A : Nat → Addr) (K : Nat → ClassId) (x1 : Int32) (x2 : Int32) (x3 : Int32) (c1 : Int64) (c2 : Int64) (c3 : Int64) (s1 : Int32) (s2 : Int32) (s3 : Int32) (zw : Int32) (z18 : Int32) (zx : Int32) (t1 : Int32) (t2 : Int32) (t3 : Int32) (ga : Int64) (vx : Int32) (vf : Int32) (vt : Int32)  (z0 : Addr) (z6 : Addr) (zh : Addr) (z7 : Addr) (zd : Addr) (ze : Addr) (zc : Addr) (zi : Addr) (br : Addr) (zq : ClassId) (zr : ClassId) (zs : ClassId) (zy : ClassId) (zz : ClassId) (zo : ClassId) (z19 : ClassId) (EN : own_St Z A K) (OL0 : Old Z n0 h0) (z1a : Fld Z h0 z0 y_s0 "size" "I" (.int 1)) (z1b : Fld Z h0 z0 y_s0 "slot" "[I" (.ref z7)) (z1c : Arv Z h0 z7 zs .int 16 [(.int s1), (.int s2), (.int s3)] (.int 0)) (z24 : Fld Z h0 z0 y_s0 "free" "[I" (.ref zi)) (z3l : Arv Z h0 zi z19 .int 16 [(.int 15), (.int 14), (.int 13), (.int 12), (.int 11), (.int 10), (.int 9), (.int 8), (.int 7), (.int 6), (.int 5), (.int 4), (.int 3), (.int 2), (.int 1), (.int 0)] (.int 0)) (z25 : Fld Z h0 z0 y_s0 "from" "[I" (.ref zd)) (z3m : Arv Z h0 zd zy .int 16 [(.int zw), (.int z18), (.int zx)] (.int 0)) (z3n : Fld Z h0 z0 y_s0 "to" "[I" (.ref ze)) (z3o : Arv Z h0 ze zz .int 16 [(.int t1), (.int t2), (.int t3)] (.int 0)) (z3p : Fld Z h0 z0 y_s0 "message" y_s1 (.ref zc)) (z3q : own_AM Z h0 zc zo (.object y_s3)) (z26 : Ovr Z zo y_s3) (z3r : Exa Z h0 br y_s2) (z3s : Exa Z h0 z0 y_s0) (z3t : Fld Z h0 z0 y_s0 "at" "[D" (.ref z6)) (z3u : Arv Z h0 z6 zq .double (16 : Int32) [(.double (Jvm.FP.l2d (x1.toInt64))), (.double (Jvm.FP.l2d (x2.toInt64))), (.double (Jvm.FP.l2d (x3.toInt64)))] (.double (Jvm.FP.l2d ((0 : Int32).toInt64)))) (z3v : Fld Z h0 z0 y_s0 "added" "[J" (.ref zh)) (z3w : Arv Z h0 zh zr .long (16 : Int32) [(.long c1), (.long c2), (.long c3)] (.long 0)) (z3x : Fld Z h0 z0 y_s0 "additions" "J" (.long ga)) (hri : vx < x1) (zk : z0 ≠ zd) (z27 : zd ≠ ze) (zl : z0 ≠ ze) (z28 : zd ≠ zc) (z29 : ze ≠ zc) (zm : z0 ≠ zc) (z1d : z6 ≠ zd) (z1e : z6 ≠ ze) (z1f : z6 ≠ zc) (z1 : z0 ≠ z6) (z1g : zh ≠ zd) (z1h : zh ≠ ze) (z1i : zh ≠ zc) (z2 : z0 ≠ zh) (z1j : z7 ≠ zd) (z1k : z7 ≠ ze) (z1l : z7 ≠ zc) (z3 : z0 ≠ z7) (z2a : z6 ≠ zh) (z2b : z6 ≠ z7) (z2c : zh ≠ z7) (z2d : n0 ≤ zd) (z2e : n0 ≤ ze) (z2f : n0 ≤ zc) (z10 : n0 ≤ z0) (z11 : n0 ≤ z6) (z12 : n0 ≤ zh) (z13 : n0 ≤ z7) :
    MetFree l own_m3 (head1 (Jvm.Cond.code own_m3 prog_48_method_2_code 9 none :: ws) (Room.mk 2 0 0 32)) (fun a U => a = #[(.ref z0), (.double (Jvm.FP.l2d (vx.toInt64))), (.int vf), (.int vt), (.ref br)] ∧ Z.Warmed39 U.vm ∧ U.heap = h0) (fun _ _ _ _ _ => True) (fun _ U o U' => ∃ v L, o = .returned v ∧ Q_rmA1y Z A K x1 x2 x3 c1 c2 c3 s1 s2 s3 zw z18 zx t1 t2 t3 ga vx vf vt z0 z6 zh z7 zd ze zc zi br zq zr zs zy zz zo z19 h0 n0 v U'.heap L ∧ FrameEnd U o U' L (Room.mk 2 0 0 32).cells (Room.mk 2 0 0 32).slots) := by
  refine MetFree.of_bodySF (plainFor_of_name own_pn0) hisR ?_
  intro p e s m args below meth c s₁ Bd hml0 hP hK
  obtain ⟨rfl, hZ, hh⟩ := hP
  have hx := Bd.exec
  have hby := Bd.bytes
  have hml : c.maxLocals = 9 := hml0
  have hown : s.vm.findClass y_s0 = some m.cls := findClass_of_methodNamed Bd.named
  have hnm := (name_of_methodNamed Bd.named Bd.method).1
  have X0 : Stand p l e (Room.mk 2 0 0 32) s m #[(.ref z0), (.double (Jvm.FP.l2d (vx.toInt64))), (.int vf), (.int vt), (.ref br)] below meth c s₁ [] 0 0 := Stand.of_body Bd
  have e0 : s₁.heap = h0 := by rw [← hh, Bd.state]; rfl
  have N0 := Fr.nil n0
  have pre0 : ∀ t, Steps p.tables e below (s₁.setTop (mkF m 0 #[.val (.ref z0), .val (.double (Jvm.FP.l2d (vx.toInt64))), .second, .val (.int vf), .val (.int vt), .val (.ref br), .unset, .unset, .unset] [])) t → Steps p.tables e below (s₁.setTop (entryFrame m #[(.ref z0), (.double (Jvm.FP.l2d (vx.toInt64))), (.int vf), (.int vt), (.ref br)] 9)) t := fun t k => castTop (by first | (simp [entryFrame, mkF, argsToLocals, Value.category, maxLocals]; done) | rfl) k
  have KK0 : Keep h0 h0 [zd, ze, zc, z0, z6, zh, z7] := Keep.refl _ _
  obtain ⟨z3y, z2g, z3z, z40⟩ := getF X0 hx hZ hown (host := "") (Or.inl (own_W hw 37 rfl)) Via.refl e0 z1a (g := (mkF m 1 #[.val (.ref z0), .val (.double (Jvm.FP.l2d (vx.toInt64))), .second, .val (.int vf), .val (.int vt), .val (.ref br), .unset, .unset, .unset] [(.ref z0)])) rfl rfl (hb hby y3_1)
  obtain ⟨z1m, z14, z2h, z41⟩ := getF z2g hx hZ hown (host := "") (Or.inl (own_W hw 16 rfl)) Via.refl z3z z1b (g := (mkF m 5 #[.val (.ref z0), .val (.double (Jvm.FP.l2d (vx.toInt64))), .second, .val (.int vf), .val (.int vt), .val (.ref br), .unset, .unset, .unset] [(.ref z0), (.int 1)])) rfl rfl (hb hby y3_5)
  obtain ⟨z77, z2i, -, z42, z43, -, -⟩ := (id z1c)
  obtain ⟨z44, z2j, z45, z46⟩ := getF z14 hx hZ hown (host := "") (Or.inl (own_W hw 26 rfl)) Via.refl z2h z24 (g := (mkF m 17 #[.val (.ref z0), .val (.double (Jvm.FP.l2d (vx.toInt64))), .second, .val (.int vf), .val (.int vt), .val (.ref br), .unset, .unset, .unset] [(.ref z0)])) rfl rfl (hb hby y3_17)
  obtain ⟨z1n, zt, z2k, z47⟩ := getF z2j hx hZ hown (host := "") (Or.inl (own_W hw 16 rfl)) Via.refl z45 z1b (g := (mkF m 21 #[.val (.ref z0), .val (.double (Jvm.FP.l2d (vx.toInt64))), .second, .val (.int vf), .val (.int vt), .val (.ref br), .unset, .unset, .unset] [(.ref z0), (.ref zi)])) rfl rfl (hb hby y3_21)
  obtain ⟨z78, z2l, -, z48, z49, -, -⟩ := (id z1c)
  obtain ⟨z1o, zu, z2m, z4a⟩ := getF zt hx hZ hown (host := "") (Or.inl (own_W hw 37 rfl)) Via.refl z2k z1a (g := (mkF m 28 #[.val (.ref z0), .val (.double (Jvm.FP.l2d (vx.toInt64))), .second, .val (.int vf), .val (.int vt), .val (.ref br), .unset, .unset, .unset] [(.ref z0), (.int 15), (.ref zi)])) rfl rfl (hb hby y3_28)
  obtain ⟨z2n, z1p, z79, z4b, z7a, z4c, z7b⟩ := (id z3l)
  have z2o : ¬ ((14 : Int32) < 0 ∨ z2n.slots.size ≤ ((14 : Int32)).toNatClampNeg) := inb_of z4b ⟨by decide, by decide⟩
  have z4d : z2n.slots[((14 : Int32)).toNatClampNeg]? = some (.int 1) := Has.at z4c z2o rfl
  obtain ⟨z4e, z1q, z4f, z4g⟩ := getF zu hx hZ hown (host := "") (Or.inl (own_W hw 18 rfl)) Via.refl z2m z25 (g := (mkF m 36 #[.val (.ref z0), .val (.double (Jvm.FP.l2d (vx.toInt64))), .second, .val (.int vf), .val (.int vt), .val (.ref br), .val (.int 1), .unset, .unset] [(.ref z0)])) rfl rfl (hb hby y3_36)
  obtain ⟨z4h, z2p, z4i, z2q, z4j, z4k, z4l⟩ := (id z3m)
  have z4m : ¬ ((1 : Int32) < 0 ∨ z4h.slots.size ≤ ((1 : Int32)).toNatClampNeg) := inb_of z2q ⟨by decide, by decide⟩
  obtain ⟨z4n, z4o, z1r, z4p, z4, z4q⟩ := stI z1q hx hZ z4f z2p (j := (1 : Int32)) z4m (g := (mkF m 42 #[.val (.ref z0), .val (.double (Jvm.FP.l2d (vx.toInt64))), .second, .val (.int vf), .val (.int vt), .val (.ref br), .val (.int 1), .unset, .unset] [(.int vf), (.int 1), (.ref zd)])) rfl rfl (hb hby y3_42)
  have z4r := Fr.snoc z1r N0 z2d
  have z4s := OL0.wr z4 z2d
  have z4t := KK0.wr z4 (own_Ix 0 rfl)
  have z4u : Arv Z z4o zd zy .int 16 [(.int zw), (.int vf), (.int zx)] (.int 0) := Arv.set z2p z4i z2q z4j z4k z4l rfl z4 1 (by decide) (by decide : 1 < 3)
  have z2r := (z3n.other z4 (Or.inl zk))
  obtain ⟨z4v, z1s, z4w, z4x⟩ := getF z1r hx hZ hown (host := "") (Or.inl (own_W hw 20 rfl)) Via.refl z4p z2r (g := (mkF m 44 #[.val (.ref z0), .val (.double (Jvm.FP.l2d (vx.toInt64))), .second, .val (.int vf), .val (.int vt), .val (.ref br), .val (.int 1), .unset, .unset] [(.ref z0)])) rfl rfl (hb hby y3_44)
  have z4y := (z3o.other z4 (Ne.symm z27))
  obtain ⟨z4z, z2s, z50, z2t, z51, z52, z53⟩ := (id z4y)
  have z54 : ¬ ((1 : Int32) < 0 ∨ z4z.slots.size ≤ ((1 : Int32)).toNatClampNeg) := inb_of z2t ⟨by decide, by decide⟩
  obtain ⟨z55, z2u, z1t, z56, z5, z57⟩ := stI z1s hx hZ z4w z2s (j := (1 : Int32)) z54 (g := (mkF m 51 #[.val (.ref z0), .val (.double (Jvm.FP.l2d (vx.toInt64))), .second, .val (.int vf), .val (.int vt), .val (.ref br), .val (.int 1), .unset, .unset] [(.int vt), (.int 1), (.ref ze)])) rfl rfl (hb hby y3_51)
  have z58 := Fr.snoc z1t z4r z2e
  have z59 := z4s.wr z5 z2e
  have z5a := z4t.wr z5 (own_Ix 1 rfl)
  have z5b : Arv Z z2u ze zz .int 16 [(.int t1), (.int vt), (.int t3)] (.int 0) := Arv.set z2s z50 z2t z51 z52 z53 rfl z5 1 (by decide) (by decide : 1 < 3)
  have z2v := ((z3p.other z4 (Or.inl zk)).other z5 (Or.inl zl))
  obtain ⟨z5c, z1u, z5d, z5e⟩ := getF z1t hx hZ hown (host := "") (Or.inl (own_W hw 24 rfl)) Via.refl z56 z2v (g := (mkF m 53 #[.val (.ref z0), .val (.double (Jvm.FP.l2d (vx.toInt64))), .second, .val (.int vf), .val (.int vt), .val (.ref br), .val (.int 1), .unset, .unset] [(.ref z0)])) rfl rfl (hb hby y3_53)
  have z2w : own_AM Z z2u zc zo (.object y_s3) := ((z3q.other z4 (Ne.symm z28)).other z5 (Ne.symm z29))
  obtain ⟨vs142, dv142, z5f, z2x, z5g, z5h, z7c, z7d, z7e⟩ := (id z2w)
  have z5i : ¬ ((1 : Int32) < 0 ∨ z5f.slots.size ≤ ((1 : Int32)).toNatClampNeg) := inb_of z5h ⟨by decide, by decide⟩
  have z5j := ((z3r.wr z4).wr z5)
  obtain ⟨z5k, z5l, z15, z5m, z8, z5n⟩ := stR z1u hx hZ z5d z2x (j := (1 : Int32)) z5i rfl (Sto.ofV z2x z5g z26 (Ins.of_exa z5j (own_W hw 66 rfl))) (g := (mkF m 60 #[.val (.ref z0), .val (.double (Jvm.FP.l2d (vx.toInt64))), .second, .val (.int vf), .val (.int vt), .val (.ref br), .val (.int 1), .unset, .unset] [(.ref br), (.int 1), (.ref zc)])) rfl rfl (hb hby y3_60)
  have z5o := Fr.snoc z15 z58 z2f
  have z5p := z59.wr z8 z2f
  have z5q := z5a.wr z8 (own_Ix 2 rfl)
  have z5r : own_AM Z z5l zc zo (.object y_s3) := own_AM.set z2w rfl z8
  have z1v := (((z1a.other z4 (Or.inl zk)).other z5 (Or.inl zl)).other z8 (Or.inl zm))
  obtain ⟨z2y, z16, z5s, z5t⟩ := getF z15 hx hZ hown (host := "") (Or.inl (own_W hw 37 rfl)) Via.refl z5m z1v (g := (mkF m 63 #[.val (.ref z0), .val (.double (Jvm.FP.l2d (vx.toInt64))), .second, .val (.int vf), .val (.int vt), .val (.ref br), .val (.int 1), .unset, .unset] [(.ref z0), (.ref z0)])) rfl rfl (hb hby y3_63)
  have z2z := (((z3s.wr z4).wr z5).wr z8)
  obtain ⟨z30, z31, zp, z5u, z9, z5v⟩ := putF z16 hx hZ hown (host := "") (Or.inl (own_W hw 37 rfl)) Via.refl z5s z1v z2z (Or.inl (own_W hw 38 rfl)) (own_W hw 1 rfl) (ty := .int) (by decide) rfl rfl (g := (mkF m 69 #[.val (.ref z0), .val (.double (Jvm.FP.l2d (vx.toInt64))), .second, .val (.int vf), .val (.int vt), .val (.ref br), .val (.int 1), .unset, .unset] [(.int 2), (.ref z0), (.int 1)])) rfl rfl (hb hby y3_69)
  have z5w := Fr.snoc zp z5o z10
  have z32 := z5p.wr z9 z10
  have z5x := z5q.wr z9 (own_Ix 3 rfl)
  have z5y : Fld Z z31 z0 y_s0 "size" "I" (.int 2) := z1v.same z9
  have z1w := ((((z3t.other z4 (Or.inl zk)).other z5 (Or.inl zl)).other z8 (Or.inl zm)).other z9 (Or.inr (slot_ne (Or.inl (own_W hw 11 rfl)) (Or.inl (own_W hw 38 rfl)) (by decide) (t := (.array .double)) (t' := .int) (by decide) (by decide))))
  obtain ⟨zn, za, z1x, z5z⟩ := getF zp hx hZ hown (host := "") (Or.inl (own_W hw 10 rfl)) Via.refl z5u z1w (g := (mkF m 81 #[.val (.ref z0), .val (.double (Jvm.FP.l2d (vx.toInt64))), .second, .val (.int vf), .val (.int vt), .val (.ref br), .val (.int 1), .val (.int 1), .unset] [(.ref z0), (.double (Jvm.FP.l2d (vx.toInt64)))])) rfl rfl (hb hby y3_81)
  have z33 := ((((z3u.other z4 z1d).other z5 z1e).other z8 z1f).other z9 (Ne.symm z1))
  obtain ⟨z34, z1y, z7f, z60, z7g, z61, z7h⟩ := (id z33)
  have z35 : ¬ ((0 : Int32) < 0 ∨ z34.slots.size ≤ ((0 : Int32)).toNatClampNeg) := inb_of z60 ⟨by decide, by decide⟩
  have z62 : z34.slots[((0 : Int32)).toNatClampNeg]? = some (.double (Jvm.FP.l2d (x1.toInt64))) := Has.at z61 z35 rfl
  have z36 := ((((z3v.other z4 (Or.inl zk)).other z5 (Or.inl zl)).other z8 (Or.inl zm)).other z9 (Or.inr (slot_ne (Or.inl (own_W hw 14 rfl)) (Or.inl (own_W hw 38 rfl)) (by decide) (t := (.array .long)) (t' := .int) (by decide) (by decide))))
  have z63 := ((((z3w.other z4 z1g).other z5 z1h).other z8 z1i).other z9 (Ne.symm z2))
  have z37 := ((((z1b.other z4 (Or.inl zk)).other z5 (Or.inl zl)).other z8 (Or.inl zm)).other z9 (Or.inr (slot_ne (Or.inl (own_W hw 17 rfl)) (Or.inl (own_W hw 38 rfl)) (by decide) (t := (.array .int)) (t' := .int) (by decide) (by decide))))
  have z64 := ((((z1c.other z4 z1j).other z5 z1k).other z8 z1l).other z9 (Ne.symm z3))
  have z1z := (z2z.wr z9)
  obtain ⟨cq158, z65, q158'⟩ := z1z.cell
  obtain ⟨_, _, ⟨z38, L158, z7i, n158⟩, -, zj, ⟨Lc158, z39, l158, y158, z158⟩, z3a⟩ := za.privateBack hx (y := own_m4) hown (mvT hZ (own_W hw 86 rfl)) (mvT hZ (own_W hw 87 rfl)) (own_selpS (y := own_m4) (mvT hZ (own_W hw 35 rfl)) rfl (mvP (args := #[]) hZ (own_W hw 88 rfl)) (mvT hZ (own_W hw 87 rfl)) (by decide)) (Cond.privateMethod_at (mvP hZ (own_W hw 88 rfl) (args := #[]))) (mvT hZ (own_W hw 89 rfl)) (by decide) (backOf (W := 0) (rmM01 l Z a0 hw [] z31 n0 A K x1 x2 x3 c1 c2 c3 s1 s2 s3 z0 z6 zh z7 zq zr zs EN z32 z1w z33 z36 z63 z37 z64 z1z z1 z2a z2 z2b z2c z11 z12 z13) hZ (own_W hw 89 rfl) (own_W hw 2 rfl) (by decide) (by decide)) (g := (mkF m 108 #[.val (.ref z0), .val (.double (Jvm.FP.l2d (vx.toInt64))), .second, .val (.int vf), .val (.int vt), .val (.ref br), .val (.int 1), .val (.int 1), .val (.int 0)] [(.int 1), (.int 0), (.ref z0)])) rfl (by rw [hml]; rfl) (Steps.refl _) (a := z0) (by rw [z1x]; exact z65) q158' (argsL := [(.int 0), (.int 1)]) (rest := []) (lenOf own_pd1 rfl) rfl (by show 2 * 0 + _ ≤ _; exact Nat.le_of_eq rfl) (hb hby y3_108) (fun _ _ => ⟨rfl, z1x, (by decide : 0 + 0 ≤ _), (by decide : 0 + 0 ≤ _)⟩)
  dsimp only [Pt.U, Pt.locs, Pt.cells, Pt.slots] at zj l158 y158 z158 z3a z39
  replace zj := own_sub zj l158 y158 z158
  obtain ⟨rfl, z66, zf, z67, z68, z69⟩ := z39
  have z6a := Fr.app z5w z66
  have z6b := z32.keep zf (allS z13 (allS z12 (allS z11 all0)))
  have z6c := z5x.trans zf (allS (own_Ix 6 rfl) (allS (own_Ix 5 rfl) (allS (own_Ix 4 rfl) all0)))
  have z20 := (((((z3x.other z4 (Or.inl zk)).other z5 (Or.inl zl)).other z8 (Or.inl zm)).other z9 (Or.inr (slot_ne (Or.inl (own_W hw 49 rfl)) (Or.inl (own_W hw 38 rfl)) (by decide) (t := .long) (t' := .int) (by decide) (by decide)))).keep zf (ninS z3 (ninS z2 (ninS z1 nin0))))
  obtain ⟨z21, z17, z6d, z6e⟩ := getF zj hx hZ hown (host := "") (Or.inl (own_W hw 48 rfl)) Via.refl rfl z20 (g := (mkF m 124 #[.val (.ref z0), .val (.double (Jvm.FP.l2d (vx.toInt64))), .second, .val (.int vf), .val (.int vt), .val (.ref br), .val (.int 1), .val (.int 0), .val (.int 0)] [(.ref z0), (.ref z0), (.double (Jvm.FP.l2d (vx.toInt64))), (.int 0), (.ref z0)])) rfl rfl (hb hby y3_124)
  have z3b := (z1z.keep zf)
  obtain ⟨z6f, z3c, z22, z3d, zb, z6g⟩ := putF z17 hx hZ hown (host := "") (Or.inl (own_W hw 48 rfl)) Via.refl z6d z20 z3b (Or.inl (own_W hw 49 rfl)) (own_W hw 1 rfl) (ty := .long) (by decide) rfl rfl (g := (mkF m 130 #[.val (.ref z0), .val (.double (Jvm.FP.l2d (vx.toInt64))), .second, .val (.int vf), .val (.int vt), .val (.ref br), .val (.int 1), .val (.int 0), .val (.int 0)] [(.long (ga + (1 : Int64))), (.ref z0), (.long ga), (.double (Jvm.FP.l2d (vx.toInt64))), (.int 0), (.ref z0)])) rfl rfl (hb hby y3_130)
  have z6h := Fr.snoc z22 z6a z10
  have z3e := z6b.wr zb z10
  have z6i := z6c.wr zb (own_Ix 3 rfl)
  have z6j : Fld Z z3c z0 y_s0 "additions" "J" (.long (ga + (1 : Int64))) := z20.same zb
  have z3f := ((z1w.keep zf (ninS z3 (ninS z2 (ninS z1 nin0)))).other zb (Or.inr (slot_ne (Or.inl (own_W hw 11 rfl)) (Or.inl (own_W hw 49 rfl)) (by decide) (t := (.array .double)) (t' := .long) (by decide) (by decide))))
  have z6k := (z67.other zb (Ne.symm z1))
  have z3g := ((z36.keep zf (ninS z3 (ninS z2 (ninS z1 nin0)))).other zb (Or.inr (slot_ne (Or.inl (own_W hw 14 rfl)) (Or.inl (own_W hw 49 rfl)) (by decide) (t := (.array .long)) (t' := .long) (by decide) (by decide))))
  have z6l := (z68.other zb (Ne.symm z2))
  have z3h := ((z37.keep zf (ninS z3 (ninS z2 (ninS z1 nin0)))).other zb (Or.inr (slot_ne (Or.inl (own_W hw 17 rfl)) (Or.inl (own_W hw 49 rfl)) (by decide) (t := (.array .int)) (t' := .long) (by decide) (by decide))))
  have z6m := (z69.other zb (Ne.symm z3))
  have z3i := (z3b.wr zb)
  obtain ⟨cq169, z6n, q169'⟩ := z3i.cell
  obtain ⟨_, _, ⟨z23, L169, z7j, n169⟩, -, zv, ⟨Lc169, z3j, l169, y169, z169⟩, z3k⟩ := z22.privateBack hx (y := own_m2) hown (mvT hZ (own_W hw 50 rfl)) (mvT hZ (own_W hw 51 rfl)) (own_selpS (y := own_m2) (mvT hZ (own_W hw 35 rfl)) rfl (mvP (args := #[]) hZ (own_W hw 52 rfl)) (mvT hZ (own_W hw 51 rfl)) (by decide)) (Cond.privateMethod_at (mvP hZ (own_W hw 52 rfl) (args := #[]))) (mvT hZ (own_W hw 53 rfl)) (by decide) (backOf (W := 0) (rmP0 l Z a0 hw [] z3c n0 A K x1 x1 x3 c1 c1 c3 s1 s1 s3 vx ga (1 : Int32) z0 z6 zh z7 zq zr zs EN z3e z3f z6k z3g z6l z3h z6m z1 z2a z2 z2b z2c z11 z12 z13) hZ (own_W hw 53 rfl) (own_W hw 2 rfl) (by decide) (by decide)) (g := (mkF m 135 #[.val (.ref z0), .val (.double (Jvm.FP.l2d (vx.toInt64))), .second, .val (.int vf), .val (.int vt), .val (.ref br), .val (.int 1), .val (.int 0), .val (.int 0)] [(.int 1), (.long ga), (.double (Jvm.FP.l2d (vx.toInt64))), (.int 0), (.ref z0)])) rfl (by rw [hml]; rfl) (Steps.refl _) (a := z0) (by rw [z3d]; exact z6n) q169' (argsL := [(.int 0), (.double (Jvm.FP.l2d (vx.toInt64))), (.long ga), (.int 1)]) (rest := []) (lenOf own_pd0 rfl) rfl (by show 2 * 0 + _ ≤ _; exact Nat.le_of_eq rfl) (hb hby y3_135) (fun _ _ => ⟨rfl, z3d, (by decide : 0 + 0 ≤ _), (by decide : 0 + 0 ≤ _)⟩)
  dsimp only [Pt.U, Pt.locs, Pt.cells, Pt.slots] at zv l169 y169 z169 z3k z3j
  replace zv := own_sub zv l169 y169 z169
  obtain ⟨rfl, z6o, zg, z6p, z6q, z6r⟩ := z3j
  have z6s := Fr.app z6h z6o
  have z7k := z3e.keep zg (allS z11 (allS z12 (allS z13 all0)))
  have z6t := z6i.trans zg (allS (own_Ix 4 rfl) (allS (own_Ix 5 rfl) (allS (own_Ix 6 rfl) all0)))
  have z6u := (z3i.keep zg)
  have z6v := (z3f.keep zg (ninS z1 (ninS z2 (ninS z3 nin0))))
  have z6w := (z3g.keep zg (ninS z1 (ninS z2 (ninS z3 nin0))))
  have z6x := (z3h.keep zg (ninS z1 (ninS z2 (ninS z3 nin0))))
  have z6y := (((((((z25.other z4 (Or.inl zk)).other z5 (Or.inl zl)).other z8 (Or.inl zm)).other z9 (Or.inr (slot_ne (Or.inl (own_W hw 19 rfl)) (Or.inl (own_W hw 38 rfl)) (by decide) (t := (.array .int)) (t' := .int) (by decide) (by decide)))).keep zf (ninS z3 (ninS z2 (ninS z1 nin0)))).other zb (Or.inr (slot_ne (Or.inl (own_W hw 19 rfl)) (Or.inl (own_W hw 49 rfl)) (by decide) (t := (.array .int)) (t' := .long) (by decide) (by decide)))).keep zg (ninS z1 (ninS z2 (ninS z3 nin0))))
  have z6z := ((((((z2r.other z5 (Or.inl zl)).other z8 (Or.inl zm)).other z9 (Or.inr (slot_ne (Or.inl (own_W hw 21 rfl)) (Or.inl (own_W hw 38 rfl)) (by decide) (t := (.array .int)) (t' := .int) (by decide) (by decide)))).keep zf (ninS z3 (ninS z2 (ninS z1 nin0)))).other zb (Or.inr (slot_ne (Or.inl (own_W hw 21 rfl)) (Or.inl (own_W hw 49 rfl)) (by decide) (t := (.array .int)) (t' := .long) (by decide) (by decide)))).keep zg (ninS z1 (ninS z2 (ninS z3 nin0))))
  have z70 := (((((z2v.other z8 (Or.inl zm)).other z9 (Or.inr (slot_ne (Or.inl (own_W hw 25 rfl)) (Or.inl (own_W hw 38 rfl)) (by decide) (t := (.array (.object y_s3))) (t' := .int) (by decide) (by decide)))).keep zf (ninS z3 (ninS z2 (ninS z1 nin0)))).other zb (Or.inr (slot_ne (Or.inl (own_W hw 25 rfl)) (Or.inl (own_W hw 49 rfl)) (by decide) (t := (.array (.object y_s3))) (t' := .long) (by decide) (by decide)))).keep zg (ninS z1 (ninS z2 (ninS z3 nin0))))
  have z71 := (((((((z24.other z4 (Or.inl zk)).other z5 (Or.inl zl)).other z8 (Or.inl zm)).other z9 (Or.inr (slot_ne (Or.inl (own_W hw 27 rfl)) (Or.inl (own_W hw 38 rfl)) (by decide) (t := (.array .int)) (t' := .int) (by decide) (by decide)))).keep zf (ninS z3 (ninS z2 (ninS z1 nin0)))).other zb (Or.inr (slot_ne (Or.inl (own_W hw 27 rfl)) (Or.inl (own_W hw 49 rfl)) (by decide) (t := (.array .int)) (t' := .long) (by decide) (by decide)))).keep zg (ninS z1 (ninS z2 (ninS z3 nin0))))
  have z72 := (((z5y.keep zf (ninS z3 (ninS z2 (ninS z1 nin0)))).other zb (Or.inr (slot_ne (Or.inl (own_W hw 38 rfl)) (Or.inl (own_W hw 49 rfl)) (by decide) (t := .int) (t' := .long) (by decide) (by decide)))).keep zg (ninS z1 (ninS z2 (ninS z3 nin0))))
  have z73 := (z6j.keep zg (ninS z1 (ninS z2 (ninS z3 nin0))))
  have z74 := ((((((z4u.other z5 z27).other z8 z28).other z9 (Ne.symm zk)).keep zf (ninS (Ne.symm z1j) (ninS (Ne.symm z1g) (ninS (Ne.symm z1d) nin0)))).other zb (Ne.symm zk)).keep zg (ninS (Ne.symm z1d) (ninS (Ne.symm z1g) (ninS (Ne.symm z1j) nin0))))
  have z75 := (((((z5b.other z8 z29).other z9 (Ne.symm zl)).keep zf (ninS (Ne.symm z1k) (ninS (Ne.symm z1h) (ninS (Ne.symm z1e) nin0)))).other zb (Ne.symm zl)).keep zg (ninS (Ne.symm z1e) (ninS (Ne.symm z1h) (ninS (Ne.symm z1k) nin0))))
  have z76 : own_AM Z z23.heap zc zo (.object y_s3) := ((((z5r.other z9 (Ne.symm zm)).keep zf (ninS (Ne.symm z1l) (ninS (Ne.symm z1i) (ninS (Ne.symm z1f) nin0)))).other zb (Ne.symm zm)).keep zg (ninS (Ne.symm z1f) (ninS (Ne.symm z1i) (ninS (Ne.symm z1l) nin0))))
  obtain ⟨fs, hr, hrun, hended, hW, hsame⟩ := zv.leave (v := none) (fun _ => rfl)
  refine ⟨_, _, pre0 _ ?_, hrun, hended, _, _, rfl, ?_, ⟨_, rfl⟩, hW, hsame.mono (by decide) (by decide)⟩
  · show Steps p.tables e below (s₁.setTop (mkF m 0 #[.val (.ref z0), .val (.double (Jvm.FP.l2d (vx.toInt64))), .second, .val (.int vf), .val (.int vt), .val (.ref br), .unset, .unset, .unset] [])) _
    refine XS.aloadN X0.here hx rfl (hb hby y3_0) rfl rfl ?_
    refine z40 _ ?_
    show Steps p.tables e below (z3y.setTop (mkF m 4 #[.val (.ref z0), .val (.double (Jvm.FP.l2d (vx.toInt64))), .second, .val (.int vf), .val (.int vt), .val (.ref br), .unset, .unset, .unset] [(.int 1)])) _
    refine XS.aloadN z2g.here hx rfl (hb hby y3_4) rfl rfl ?_
    refine z41 _ ?_
    show Steps p.tables e below (z1m.setTop (mkF m 8 #[.val (.ref z0), .val (.double (Jvm.FP.l2d (vx.toInt64))), .second, .val (.int vf), .val (.int vt), .val (.ref br), .unset, .unset, .unset] [(.ref z7), (.int 1)])) _
    refine z14.arraylength hx (by rw [z2h]; exact z2i.1) (State.isArrayOf_alike hZ.alike z2i.2.1) (g := (mkF m 8 #[.val (.ref z0), .val (.double (Jvm.FP.l2d (vx.toInt64))), .second, .val (.int vf), .val (.int vt), .val (.ref br), .unset, .unset, .unset] [(.ref z7), (.int 1)])) rfl rfl (hb hby y3_8) _ ?_
    rw [len_of z42 z43]
    show Steps p.tables e below (z1m.setTop (mkF m 9 #[.val (.ref z0), .val (.double (Jvm.FP.l2d (vx.toInt64))), .second, .val (.int vf), .val (.int vt), .val (.ref br), .unset, .unset, .unset] [(.int 16), (.int 1)])) _
    refine XS.icmpYes z14.here hx rfl (pc0 := 9) (pc' := 16) rfl (hb hby y3_9) rfl (feq (by decide : ¬ ((1 : Int32) = (16 : Int32)))).2 (by decide) (by decide) ?_
    show Steps p.tables e below (z1m.setTop (mkF m 16 #[.val (.ref z0), .val (.double (Jvm.FP.l2d (vx.toInt64))), .second, .val (.int vf), .val (.int vt), .val (.ref br), .unset, .unset, .unset] [])) _
    refine XS.aloadN z14.here hx rfl (hb hby y3_16) rfl rfl ?_
    refine z46 _ ?_
    show Steps p.tables e below (z44.setTop (mkF m 20 #[.val (.ref z0), .val (.double (Jvm.FP.l2d (vx.toInt64))), .second, .val (.int vf), .val (.int vt), .val (.ref br), .unset, .unset, .unset] [(.ref zi)])) _
    refine XS.aloadN z2j.here hx rfl (hb hby y3_20) rfl rfl ?_
    refine z47 _ ?_
    show Steps p.tables e below (z1n.setTop (mkF m 24 #[.val (.ref z0), .val (.double (Jvm.FP.l2d (vx.toInt64))), .second, .val (.int vf), .val (.int vt), .val (.ref br), .unset, .unset, .unset] [(.ref z7), (.ref zi)])) _
    refine zt.arraylength hx (by rw [z2k]; exact z2l.1) (State.isArrayOf_alike hZ.alike z2l.2.1) (g := (mkF m 24 #[.val (.ref z0), .val (.double (Jvm.FP.l2d (vx.toInt64))), .second, .val (.int vf), .val (.int vt), .val (.ref br), .unset, .unset, .unset] [(.ref z7), (.ref zi)])) rfl rfl (hb hby y3_24) _ ?_
    rw [len_of z48 z49]
    show Steps p.tables e below (z1n.setTop (mkF m 25 #[.val (.ref z0), .val (.double (Jvm.FP.l2d (vx.toInt64))), .second, .val (.int vf), .val (.int vt), .val (.ref br), .unset, .unset, .unset] [(.int 16), (.ref zi)])) _
    refine XS.iconst zt.here hx rfl (hb hby y3_25) ?_
    refine XS.isub zt.here hx rfl (hb hby y3_26) rfl ?_
    show Steps p.tables e below (z1n.setTop (mkF m 27 #[.val (.ref z0), .val (.double (Jvm.FP.l2d (vx.toInt64))), .second, .val (.int vf), .val (.int vt), .val (.ref br), .unset, .unset, .unset] [(.int 15), (.ref zi)])) _
    refine XS.aloadN zt.here hx rfl (hb hby y3_27) rfl rfl ?_
    refine z4a _ ?_
    show Steps p.tables e below (z1o.setTop (mkF m 31 #[.val (.ref z0), .val (.double (Jvm.FP.l2d (vx.toInt64))), .second, .val (.int vf), .val (.int vt), .val (.ref br), .unset, .unset, .unset] [(.int 1), (.int 15), (.ref zi)])) _
    refine XS.isub zu.here hx rfl (hb hby y3_31) rfl ?_
    show Steps p.tables e below (z1o.setTop (mkF m 32 #[.val (.ref z0), .val (.double (Jvm.FP.l2d (vx.toInt64))), .second, .val (.int vf), .val (.int vt), .val (.ref br), .unset, .unset, .unset] [(.int 14), (.ref zi)])) _
    refine zu.iaload hx (j := (14 : Int32)) (v := (.int 1)) (by rw [z2m]; exact z1p.1) (State.isArrayOf_alike hZ.alike z1p.2.1) z1p.2.2 z2o z4d (g := (mkF m 32 #[.val (.ref z0), .val (.double (Jvm.FP.l2d (vx.toInt64))), .second, .val (.int vf), .val (.int vt), .val (.ref br), .unset, .unset, .unset] [(.int 14), (.ref zi)])) rfl rfl (hb hby y3_32) _ ?_
    show Steps p.tables e below (z1o.setTop (mkF m 33 #[.val (.ref z0), .val (.double (Jvm.FP.l2d (vx.toInt64))), .second, .val (.int vf), .val (.int vt), .val (.ref br), .unset, .unset, .unset] [(.int 1)])) _
    refine XS.istore zu.here hx rfl (hb hby y3_33) rfl (l' := #[.val (.ref z0), .val (.double (Jvm.FP.l2d (vx.toInt64))), .second, .val (.int vf), .val (.int vt), .val (.ref br), .val (.int 1), .unset, .unset]) rfl ?_
    refine XS.aloadN zu.here hx rfl (hb hby y3_35) rfl rfl ?_
    refine z4g _ ?_
    show Steps p.tables e below (z4e.setTop (mkF m 39 #[.val (.ref z0), .val (.double (Jvm.FP.l2d (vx.toInt64))), .second, .val (.int vf), .val (.int vt), .val (.ref br), .val (.int 1), .unset, .unset] [(.ref zd)])) _
    refine XS.iload z1q.here hx rfl (hb hby y3_39) rfl ?_
    refine XS.iloadN z1q.here hx rfl (hb hby y3_41) rfl ?_
    refine z4q _ ?_
    show Steps p.tables e below (z4n.setTop (mkF m 43 #[.val (.ref z0), .val (.double (Jvm.FP.l2d (vx.toInt64))), .second, .val (.int vf), .val (.int vt), .val (.ref br), .val (.int 1), .unset, .unset] [])) _
    refine XS.aloadN z1r.here hx rfl (hb hby y3_43) rfl rfl ?_
    refine z4x _ ?_
    show Steps p.tables e below (z4v.setTop (mkF m 47 #[.val (.ref z0), .val (.double (Jvm.FP.l2d (vx.toInt64))), .second, .val (.int vf), .val (.int vt), .val (.ref br), .val (.int 1), .unset, .unset] [(.ref ze)])) _
    refine XS.iload z1s.here hx rfl (hb hby y3_47) rfl ?_
    refine XS.iload z1s.here hx rfl (hb hby y3_49) rfl ?_
    refine z57 _ ?_
    show Steps p.tables e below (z55.setTop (mkF m 52 #[.val (.ref z0), .val (.double (Jvm.FP.l2d (vx.toInt64))), .second, .val (.int vf), .val (.int vt), .val (.ref br), .val (.int 1), .unset, .unset] [])) _
    refine XS.aloadN z1t.here hx rfl (hb hby y3_52) rfl rfl ?_
    refine z5e _ ?_
    show Steps p.tables e below (z5c.setTop (mkF m 56 #[.val (.ref z0), .val (.double (Jvm.FP.l2d (vx.toInt64))), .second, .val (.int vf), .val (.int vt), .val (.ref br), .val (.int 1), .unset, .unset] [(.ref zc)])) _
    refine XS.iload z1u.here hx rfl (hb hby y3_56) rfl ?_
    refine XS.aload z1u.here hx rfl (hb hby y3_58) rfl rfl ?_
    refine z5n _ ?_
    show Steps p.tables e below (z5k.setTop (mkF m 61 #[.val (.ref z0), .val (.double (Jvm.FP.l2d (vx.toInt64))), .second, .val (.int vf), .val (.int vt), .val (.ref br), .val (.int 1), .unset, .unset] [])) _
    refine XS.aloadN z15.here hx rfl (hb hby y3_61) rfl rfl ?_
    refine XS.dup z15.here hx rfl (hb hby y3_62) rfl rfl ?_
    refine z5t _ ?_
    show Steps p.tables e below (z2y.setTop (mkF m 66 #[.val (.ref z0), .val (.double (Jvm.FP.l2d (vx.toInt64))), .second, .val (.int vf), .val (.int vt), .val (.ref br), .val (.int 1), .unset, .unset] [(.int 1), (.ref z0)])) _
    refine XS.dupX1 z16.here hx rfl (hb hby y3_66) rfl rfl rfl ?_
    refine XS.iconst z16.here hx rfl (hb hby y3_67) ?_
    refine XS.iadd z16.here hx rfl (hb hby y3_68) rfl ?_
    show Steps p.tables e below (z2y.setTop (mkF m 69 #[.val (.ref z0), .val (.double (Jvm.FP.l2d (vx.toInt64))), .second, .val (.int vf), .val (.int vt), .val (.ref br), .val (.int 1), .unset, .unset] [(.int 2), (.ref z0), (.int 1)])) _
    refine z5v _ ?_
    show Steps p.tables e below (z30.setTop (mkF m 72 #[.val (.ref z0), .val (.double (Jvm.FP.l2d (vx.toInt64))), .second, .val (.int vf), .val (.int vt), .val (.ref br), .val (.int 1), .unset, .unset] [(.int 1)])) _
    refine XS.istore zp.here hx rfl (hb hby y3_72) rfl (l' := #[.val (.ref z0), .val (.double (Jvm.FP.l2d (vx.toInt64))), .second, .val (.int vf), .val (.int vt), .val (.ref br), .val (.int 1), .val (.int 1), .unset]) rfl ?_
    refine XS.iload zp.here hx rfl (hb hby y3_74) rfl ?_
    refine XS.ifNo zp.here hx rfl (hb hby y3_76) rfl ((if0 _ _).trans (tlt (by decide : (0 : Int32) < (1 : Int32))).2.2.2) ?_
    show Steps p.tables e below (z30.setTop (mkF m 79 #[.val (.ref z0), .val (.double (Jvm.FP.l2d (vx.toInt64))), .second, .val (.int vf), .val (.int vt), .val (.ref br), .val (.int 1), .val (.int 1), .unset] [])) _
    refine XS.dloadN zp.here hx rfl (hb hby y3_79) rfl ?_
    refine XS.aloadN zp.here hx rfl (hb hby y3_80) rfl rfl ?_
    refine z5z _ ?_
    show Steps p.tables e below (zn.setTop (mkF m 84 #[.val (.ref z0), .val (.double (Jvm.FP.l2d (vx.toInt64))), .second, .val (.int vf), .val (.int vt), .val (.ref br), .val (.int 1), .val (.int 1), .unset] [(.ref z6), (.double (Jvm.FP.l2d (vx.toInt64)))])) _
    refine XS.iload za.here hx rfl (hb hby y3_84) rfl ?_
    refine XS.iconst za.here hx rfl (hb hby y3_86) ?_
    refine XS.isub za.here hx rfl (hb hby y3_87) rfl ?_
    show Steps p.tables e below (zn.setTop (mkF m 88 #[.val (.ref z0), .val (.double (Jvm.FP.l2d (vx.toInt64))), .second, .val (.int vf), .val (.int vt), .val (.ref br), .val (.int 1), .val (.int 1), .unset] [(.int 0), (.ref z6), (.double (Jvm.FP.l2d (vx.toInt64)))])) _
    refine XS.iconst za.here hx rfl (hb hby y3_88) ?_
    refine XS.idiv za.here hx rfl (hb hby y3_89) rfl (by decide) ?_
    show Steps p.tables e below (zn.setTop (mkF m 90 #[.val (.ref z0), .val (.double (Jvm.FP.l2d (vx.toInt64))), .second, .val (.int vf), .val (.int vt), .val (.ref br), .val (.int 1), .val (.int 1), .unset] [(.int 0), (.ref z6), (.double (Jvm.FP.l2d (vx.toInt64)))])) _
    refine za.daload hx (j := (0 : Int32)) (v := (.double (Jvm.FP.l2d (x1.toInt64)))) (by rw [z1x]; exact z1y.1) (State.isArrayOf_alike hZ.alike z1y.2.1) z1y.2.2 z35 z62 (g := (mkF m 90 #[.val (.ref z0), .val (.double (Jvm.FP.l2d (vx.toInt64))), .second, .val (.int vf), .val (.int vt), .val (.ref br), .val (.int 1), .val (.int 1), .unset] [(.int 0), (.ref z6), (.double (Jvm.FP.l2d (vx.toInt64)))])) rfl rfl (hb hby y3_90) _ ?_
    show Steps p.tables e below (zn.setTop (mkF m 91 #[.val (.ref z0), .val (.double (Jvm.FP.l2d (vx.toInt64))), .second, .val (.int vf), .val (.int vt), .val (.ref br), .val (.int 1), .val (.int 1), .unset] [(.double (Jvm.FP.l2d (x1.toInt64))), (.double (Jvm.FP.l2d (vx.toInt64)))])) _
    refine XS.dcmpS za.here hx rfl (hb hby y3_91) rfl (dcmpV_w (own_b53 vx) (own_b53 x1) _) ?_
    show Steps p.tables e below (zn.setTop (mkF m 92 #[.val (.ref z0), .val (.double (Jvm.FP.l2d (vx.toInt64))), .second, .val (.int vf), .val (.int vt), .val (.ref br), .val (.int 1), .val (.int 1), .unset] [(.int (lcmpW (vx.toInt64) (x1.toInt64)))])) _
    refine XS.ifNo za.here hx rfl (hb hby y3_92) rfl ((if0 _ _).trans (tlt ((own_llt _ _).mpr hri)).2.1) ?_
    show Steps p.tables e below (zn.setTop (mkF m 95 #[.val (.ref z0), .val (.double (Jvm.FP.l2d (vx.toInt64))), .second, .val (.int vf), .val (.int vt), .val (.ref br), .val (.int 1), .val (.int 1), .unset] [])) _
    refine XS.iload za.here hx rfl (hb hby y3_95) rfl ?_
    refine XS.iconst za.here hx rfl (hb hby y3_97) ?_
    refine XS.isub za.here hx rfl (hb hby y3_98) rfl ?_
    show Steps p.tables e below (zn.setTop (mkF m 99 #[.val (.ref z0), .val (.double (Jvm.FP.l2d (vx.toInt64))), .second, .val (.int vf), .val (.int vt), .val (.ref br), .val (.int 1), .val (.int 1), .unset] [(.int 0)])) _
    refine XS.iconst za.here hx rfl (hb hby y3_99) ?_
    refine XS.idiv za.here hx rfl (hb hby y3_100) rfl (by decide) ?_
    show Steps p.tables e below (zn.setTop (mkF m 101 #[.val (.ref z0), .val (.double (Jvm.FP.l2d (vx.toInt64))), .second, .val (.int vf), .val (.int vt), .val (.ref br), .val (.int 1), .val (.int 1), .unset] [(.int 0)])) _
    refine XS.istore za.here hx rfl (hb hby y3_101) rfl (l' := #[.val (.ref z0), .val (.double (Jvm.FP.l2d (vx.toInt64))), .second, .val (.int vf), .val (.int vt), .val (.ref br), .val (.int 1), .val (.int 1), .val (.int 0)]) rfl ?_
    refine XS.aloadN za.here hx rfl (hb hby y3_103) rfl rfl ?_
    refine XS.iload za.here hx rfl (hb hby y3_104) rfl ?_
    refine XS.iload za.here hx rfl (hb hby y3_106) rfl ?_
    refine z3a.trans ?_
    show Steps p.tables e below (z38.setTop (mkF m 111 #[.val (.ref z0), .val (.double (Jvm.FP.l2d (vx.toInt64))), .second, .val (.int vf), .val (.int vt), .val (.ref br), .val (.int 1), .val (.int 1), .val (.int 0)] [])) _
    refine XS.iload zj.here hx rfl (hb hby y3_111) rfl ?_
    refine XS.istore zj.here hx rfl (hb hby y3_113) rfl (l' := #[.val (.ref z0), .val (.double (Jvm.FP.l2d (vx.toInt64))), .second, .val (.int vf), .val (.int vt), .val (.ref br), .val (.int 1), .val (.int 0), .val (.int 0)]) rfl ?_
    refine XS.goto zj.here hx rfl (pc0 := 115) (pc' := 74) rfl (hb hby y3_115) (by decide) (by decide) ?_
    refine XS.iload zj.here hx rfl (hb hby y3_74) rfl ?_
    refine XS.ifYes zj.here hx rfl (pc0 := 76) (pc' := 118) rfl (hb hby y3_76) rfl ((if0 _ _).trans (flt (by decide : ¬ ((0 : Int32) < (0 : Int32)))).2.2.2) (by decide) (by decide) ?_
    show Steps p.tables e below (z38.setTop (mkF m 118 #[.val (.ref z0), .val (.double (Jvm.FP.l2d (vx.toInt64))), .second, .val (.int vf), .val (.int vt), .val (.ref br), .val (.int 1), .val (.int 0), .val (.int 0)] [])) _
    refine XS.aloadN zj.here hx rfl (hb hby y3_118) rfl rfl ?_
    refine XS.iload zj.here hx rfl (hb hby y3_119) rfl ?_
    refine XS.dloadN zj.here hx rfl (hb hby y3_121) rfl ?_
    refine XS.aloadN zj.here hx rfl (hb hby y3_122) rfl rfl ?_
    refine XS.dup zj.here hx rfl (hb hby y3_123) rfl rfl ?_
    refine z6e _ ?_
    show Steps p.tables e below (z21.setTop (mkF m 127 #[.val (.ref z0), .val (.double (Jvm.FP.l2d (vx.toInt64))), .second, .val (.int vf), .val (.int vt), .val (.ref br), .val (.int 1), .val (.int 0), .val (.int 0)] [(.long ga), (.ref z0), (.double (Jvm.FP.l2d (vx.toInt64))), (.int 0), (.ref z0)])) _
    refine own_dup2X1 z17.here hx rfl (hb hby y3_127) rfl ?_
    show Steps p.tables e below (z21.setTop (mkF m 128 #[.val (.ref z0), .val (.double (Jvm.FP.l2d (vx.toInt64))), .second, .val (.int vf), .val (.int vt), .val (.ref br), .val (.int 1), .val (.int 0), .val (.int 0)] [(.long ga), (.ref z0), (.long ga), (.double (Jvm.FP.l2d (vx.toInt64))), (.int 0), (.ref z0)])) _
    refine XS.lconst z17.here hx rfl (hb hby y3_128) ?_
    refine XS.ladd z17.here hx rfl (hb hby y3_129) rfl ?_
    show Steps p.tables e below (z21.setTop (mkF m 130 #[.val (.ref z0), .val (.double (Jvm.FP.l2d (vx.toInt64))), .second, .val (.int vf), .val (.int vt), .val (.ref br), .val (.int 1), .val (.int 0), .val (.int 0)] [(.long (ga + (1 : Int64))), (.ref z0), (.long ga), (.double (Jvm.FP.l2d (vx.toInt64))), (.int 0), (.ref z0)])) _
    refine z6g _ ?_
    show Steps p.tables e below (z6f.setTop (mkF m 133 #[.val (.ref z0), .val (.double (Jvm.FP.l2d (vx.toInt64))), .second, .val (.int vf), .val (.int vt), .val (.ref br), .val (.int 1), .val (.int 0), .val (.int 0)] [(.long ga), (.double (Jvm.FP.l2d (vx.toInt64))), (.int 0), (.ref z0)])) _
    refine XS.iload z22.here hx rfl (hb hby y3_133) rfl ?_
    refine z3k.trans ?_
    show Steps p.tables e below (z23.setTop (mkF m 138 #[.val (.ref z0), .val (.double (Jvm.FP.l2d (vx.toInt64))), .second, .val (.int vf), .val (.int vt), .val (.ref br), .val (.int 1), .val (.int 0), .val (.int 0)] [])) _
    exact zv.returnOut hx Bd.returns (hb hby y3_138) hr
  · show Q_rmA1y Z A K x1 x2 x3 c1 c2 c3 s1 s2 s3 zw z18 zx t1 t2 t3 ga vx vf vt z0 z6 zh z7 zd ze zc zi br zq zr zs zy zz zo z19 h0 n0 _ z23.heap _
    exact ⟨rfl, z6s, z6t, z6u, z6v, z6w, z6x, z6y, z6z, z70, z71, z72, z73, z6p, z6q, z6r, z74, z75, z76, z26⟩
def Q_rmA1n (Z : State) (A : Nat → Addr) (K : Nat → ClassId) (x1 : Int32) (x2 : Int32) (x3 : Int32) (c1 : Int64) (c2 : Int64) (c3 : Int64) (s1 : Int32) (s2 : Int32) (s3 : Int32) (z8 : Int32) (zg : Int32) (z9 : Int32) (t1 : Int32) (t2 : Int32) (t3 : Int32) (ga : Int64) (vx : Int32) (vf : Int32) (vt : Int32) (z0 : Addr) (z1 : Addr) (z2 : Addr) (z3 : Addr) (z4 : Addr) (z5 : Addr) (z6 : Addr) (za : Addr) (br : Addr) (zb : ClassId) (zc : ClassId) (zd : ClassId) (ze : ClassId) (zf : ClassId) (z7 : ClassId) (zh : ClassId) (h0 : Heap) (n0 : Nat) (v : Option Value) (h : Heap) (L : List Loc) : Prop := v = none ∧ Fr n0 L ∧ Keep h0 h [z4, z5, z6, z0, z3, z2, z1] ∧ (Exa Z h z0 y_s0) ∧ (Fld Z h z0 y_s0 "at" "[D" (.ref z1)) ∧ (Fld Z h z0 y_s0 "added" "[J" (.ref z2)) ∧ (Fld Z h z0 y_s0 "slot" "[I" (.ref z3)) ∧ (Fld Z h z0 y_s0 "from" "[I" (.ref z4)) ∧ (Fld Z h z0 y_s0 "to" "[I" (.ref z5)) ∧ (Fld Z h z0 y_s0 "message" y_s1 (.ref z6)) ∧ (Fld Z h z0 y_s0 "free" "[I" (.ref za)) ∧ (Fld Z h z0 y_s0 "size" "I" (.int 2)) ∧ (Fld Z h z0 y_s0 "additions" "J" (.long (ga + (1 : Int64)))) ∧ (Arv Z h z1 zb .double (16 : Int32) [(.double (Jvm.FP.l2d (x1.toInt64))), (.double (Jvm.FP.l2d (vx.toInt64))), (.double (Jvm.FP.l2d (x3.toInt64)))] (.double (Jvm.FP.l2d ((0 : Int32).toInt64)))) ∧ (Arv Z h z2 zc .long (16 : Int32) [(.long c1), (.long ga), (.long c3)] (.long 0)) ∧ (Arv Z h z3 zd .int 16 [(.int s1), (.int 1), (.int s3)] (.int 0)) ∧ (Arv Z h z4 ze .int 16 [(.int z8), (.int vf), (.int z9)] (.int 0)) ∧ (Arv Z h z5 zf .int 16 [(.int t1), (.int vt), (.int t3)] (.int 0)) ∧ (own_AM Z h z6 z7 (.object y_s3)) ∧ (Ovr Z z7 y_s3)
set_option maxRecDepth 65536 in
set_option maxHeartbeats 40000000 in
theorem rmA1n (l : Launch) (Z : State) (a0 : Array Value) (hw : ∀ d ∈ tables_1, d.before a0 Z = true) (ws : List Jvm.Cond) (h0 : Heap) (n0 : Nat) (A : Nat → Addr) (K : Nat → ClassId) (x1 : Int32) (x2 : Int32) (x3 : Int32) (c1 : Int64) (c2 : Int64) (c3 : Int64) (s1 : Int32) (s2 : Int32) (s3 : Int32) (zr : Int32) (z13 : Int32) (zs : Int32) (t1 : Int32) (t2 : Int32) (t3 : Int32) (ga : Int64) (vx : Int32) (vf : Int32) (vt : Int32)  (z0 : Addr) (z6 : Addr) (ze : Addr) (z7 : Addr) (z9 : Addr) (za : Addr) (z8 : Addr) (zc : Addr) (br : Addr) (zt : ClassId) (zu : ClassId) (zv : ClassId) (zw : ClassId) (zx : ClassId) (zl : ClassId) (z14 : ClassId) (EN : own_St Z A K) (OL0 : Old Z n0 h0) (z15 : Fld Z h0 z0 y_s0 "size" "I" (.int 1)) (z16 : Fld Z h0 z0 y_s0 "slot" "[I" (.ref z7)) (z17 : Arv Z h0 z7 zv .int 16 [(.int s1), (.int s2), (.int s3)] (.int 0)) (z1n : Fld Z h0 z0 y_s0 "free" "[I" (.ref zc)) (z38 : Arv Z h0 zc z14 .int 16 [(.int 15), (.int 14), (.int 13), (.int 12), (.int 11), (.int 10), (.int 9), (.int 8), (.int 7), (.int 6), (.int 5), (.int 4), (.int 3), (.int 2), (.int 1), (.int 0)] (.int 0)) (z1o : Fld Z h0 z0 y_s0 "from" "[I" (.ref z9)) (z39 : Arv Z h0 z9 zw .int 16 [(.int zr), (.int z13), (.int zs)] (.int 0)) (z3a : Fld Z h0 z0 y_s0 "to" "[I" (.ref za)) (z3b : Arv Z h0 za zx .int 16 [(.int t1), (.int t2), (.int t3)] (.int 0)) (z3c : Fld Z h0 z0 y_s0 "message" y_s1 (.ref z8)) (z3d : own_AM Z h0 z8 zl (.object y_s3)) (z1p : Ovr Z zl y_s3) (z3e : Exa Z h0 br y_s2) (z3f : Exa Z h0 z0 y_s0) (z3g : Fld Z h0 z0 y_s0 "at" "[D" (.ref z6)) (z3h : Arv Z h0 z6 zt .double (16 : Int32) [(.double (Jvm.FP.l2d (x1.toInt64))), (.double (Jvm.FP.l2d (x2.toInt64))), (.double (Jvm.FP.l2d (x3.toInt64)))] (.double (Jvm.FP.l2d ((0 : Int32).toInt64)))) (z3i : Fld Z h0 z0 y_s0 "additions" "J" (.long ga)) (z3j : Fld Z h0 z0 y_s0 "added" "[J" (.ref ze)) (z3k : Arv Z h0 ze zu .long (16 : Int32) [(.long c1), (.long c2), (.long c3)] (.long 0)) (hri : ¬ (vx < x1)) (zh : z0 ≠ z9) (z1q : z9 ≠ za) (zi : z0 ≠ za) (z1r : z9 ≠ z8) (z1s : za ≠ z8) (zj : z0 ≠ z8) (z1t : z6 ≠ z9) (z1u : z6 ≠ za) (z1v : z6 ≠ z8) (zf : z0 ≠ z6) (z1w : ze ≠ z9) (z1x : ze ≠ za) (z1y : ze ≠ z8) (zg : z0 ≠ ze) (z1z : z7 ≠ z9) (z20 : z7 ≠ za) (z21 : z7 ≠ z8) (zk : z0 ≠ z7) (z3l : z6 ≠ ze) (z3m : z6 ≠ z7) (z3n : ze ≠ z7) (z22 : n0 ≤ z9) (z23 : n0 ≤ za) (z24 : n0 ≤ z8) (zy : n0 ≤ z0) (z25 : n0 ≤ z6) (z26 : n0 ≤ ze) (z27 : n0 ≤ z7) :
    MetFree l own_m3 (head1 (Jvm.Cond.code own_m3 prog_48_method_2_code 9 none :: ws) (Room.mk 2 0 0 32)) (fun a U => a = #[(.ref z0), (.double (Jvm.FP.l2d (vx.toInt64))), (.int vf), (.int vt), (.ref br)] ∧ Z.Warmed39 U.vm ∧ U.heap = h0) (fun _ _ _ _ _ => True) (fun _ U o U' => ∃ v L, o = .returned v ∧ Q_rmA1n Z A K x1 x2 x3 c1 c2 c3 s1 s2 s3 zr z13 zs t1 t2 t3 ga vx vf vt z0 z6 ze z7 z9 za z8 zc br zt zu zv zw zx zl z14 h0 n0 v U'.heap L ∧ FrameEnd U o U' L (Room.mk 2 0 0 32).cells (Room.mk 2 0 0 32).slots) := by
  refine MetFree.of_bodySF (plainFor_of_name own_pn0) hisR ?_
  intro p e s m args below meth c s₁ Bd hml0 hP hK
  obtain ⟨rfl, hZ, hh⟩ := hP
  have hx := Bd.exec
  have hby := Bd.bytes
  have hml : c.maxLocals = 9 := hml0
  have hown : s.vm.findClass y_s0 = some m.cls := findClass_of_methodNamed Bd.named
  have hnm := (name_of_methodNamed Bd.named Bd.method).1
  have X0 : Stand p l e (Room.mk 2 0 0 32) s m #[(.ref z0), (.double (Jvm.FP.l2d (vx.toInt64))), (.int vf), (.int vt), (.ref br)] below meth c s₁ [] 0 0 := Stand.of_body Bd
  have e0 : s₁.heap = h0 := by rw [← hh, Bd.state]; rfl
  have N0 := Fr.nil n0
  have pre0 : ∀ t, Steps p.tables e below (s₁.setTop (mkF m 0 #[.val (.ref z0), .val (.double (Jvm.FP.l2d (vx.toInt64))), .second, .val (.int vf), .val (.int vt), .val (.ref br), .unset, .unset, .unset] [])) t → Steps p.tables e below (s₁.setTop (entryFrame m #[(.ref z0), (.double (Jvm.FP.l2d (vx.toInt64))), (.int vf), (.int vt), (.ref br)] 9)) t := fun t k => castTop (by first | (simp [entryFrame, mkF, argsToLocals, Value.category, maxLocals]; done) | rfl) k
  have KK0 : Keep h0 h0 [z9, za, z8, z0, z7, ze, z6] := Keep.refl _ _
  obtain ⟨z3o, z28, z3p, z3q⟩ := getF X0 hx hZ hown (host := "") (Or.inl (own_W hw 37 rfl)) Via.refl e0 z15 (g := (mkF m 1 #[.val (.ref z0), .val (.double (Jvm.FP.l2d (vx.toInt64))), .second, .val (.int vf), .val (.int vt), .val (.ref br), .unset, .unset, .unset] [(.ref z0)])) rfl rfl (hb hby y3_1)
  obtain ⟨z18, zz, z29, z3r⟩ := getF z28 hx hZ hown (host := "") (Or.inl (own_W hw 16 rfl)) Via.refl z3p z16 (g := (mkF m 5 #[.val (.ref z0), .val (.double (Jvm.FP.l2d (vx.toInt64))), .second, .val (.int vf), .val (.int vt), .val (.ref br), .unset, .unset, .unset] [(.ref z0), (.int 1)])) rfl rfl (hb hby y3_5)
  obtain ⟨z6p, z2a, -, z3s, z3t, -, -⟩ := (id z17)
  obtain ⟨z3u, z2b, z3v, z3w⟩ := getF zz hx hZ hown (host := "") (Or.inl (own_W hw 26 rfl)) Via.refl z29 z1n (g := (mkF m 17 #[.val (.ref z0), .val (.double (Jvm.FP.l2d (vx.toInt64))), .second, .val (.int vf), .val (.int vt), .val (.ref br), .unset, .unset, .unset] [(.ref z0)])) rfl rfl (hb hby y3_17)
  obtain ⟨z19, zo, z2c, z3x⟩ := getF z2b hx hZ hown (host := "") (Or.inl (own_W hw 16 rfl)) Via.refl z3v z16 (g := (mkF m 21 #[.val (.ref z0), .val (.double (Jvm.FP.l2d (vx.toInt64))), .second, .val (.int vf), .val (.int vt), .val (.ref br), .unset, .unset, .unset] [(.ref z0), (.ref zc)])) rfl rfl (hb hby y3_21)
  obtain ⟨z6q, z2d, -, z3y, z3z, -, -⟩ := (id z17)
  obtain ⟨z1a, zp, z2e, z40⟩ := getF zo hx hZ hown (host := "") (Or.inl (own_W hw 37 rfl)) Via.refl z2c z15 (g := (mkF m 28 #[.val (.ref z0), .val (.double (Jvm.FP.l2d (vx.toInt64))), .second, .val (.int vf), .val (.int vt), .val (.ref br), .unset, .unset, .unset] [(.ref z0), (.int 15), (.ref zc)])) rfl rfl (hb hby y3_28)
  obtain ⟨z2f, z1b, z6r, z41, z6s, z42, z6t⟩ := (id z38)
  have z2g : ¬ ((14 : Int32) < 0 ∨ z2f.slots.size ≤ ((14 : Int32)).toNatClampNeg) := inb_of z41 ⟨by decide, by decide⟩
  have z43 : z2f.slots[((14 : Int32)).toNatClampNeg]? = some (.int 1) := Has.at z42 z2g rfl
  obtain ⟨z44, z1c, z45, z46⟩ := getF zp hx hZ hown (host := "") (Or.inl (own_W hw 18 rfl)) Via.refl z2e z1o (g := (mkF m 36 #[.val (.ref z0), .val (.double (Jvm.FP.l2d (vx.toInt64))), .second, .val (.int vf), .val (.int vt), .val (.ref br), .val (.int 1), .unset, .unset] [(.ref z0)])) rfl rfl (hb hby y3_36)
  obtain ⟨z47, z2h, z48, z2i, z49, z4a, z4b⟩ := (id z39)
  have z4c : ¬ ((1 : Int32) < 0 ∨ z47.slots.size ≤ ((1 : Int32)).toNatClampNeg) := inb_of z2i ⟨by decide, by decide⟩
  obtain ⟨z4d, z4e, z1d, z4f, z1, z4g⟩ := stI z1c hx hZ z45 z2h (j := (1 : Int32)) z4c (g := (mkF m 42 #[.val (.ref z0), .val (.double (Jvm.FP.l2d (vx.toInt64))), .second, .val (.int vf), .val (.int vt), .val (.ref br), .val (.int 1), .unset, .unset] [(.int vf), (.int 1), (.ref z9)])) rfl rfl (hb hby y3_42)
  have z4h := Fr.snoc z1d N0 z22
  have z4i := OL0.wr z1 z22
  have z4j := KK0.wr z1 (own_Ix 0 rfl)
  have z4k : Arv Z z4e z9 zw .int 16 [(.int zr), (.int vf), (.int zs)] (.int 0) := Arv.set z2h z48 z2i z49 z4a z4b rfl z1 1 (by decide) (by decide : 1 < 3)
  have z2j := (z3a.other z1 (Or.inl zh))
  obtain ⟨z4l, z1e, z4m, z4n⟩ := getF z1d hx hZ hown (host := "") (Or.inl (own_W hw 20 rfl)) Via.refl z4f z2j (g := (mkF m 44 #[.val (.ref z0), .val (.double (Jvm.FP.l2d (vx.toInt64))), .second, .val (.int vf), .val (.int vt), .val (.ref br), .val (.int 1), .unset, .unset] [(.ref z0)])) rfl rfl (hb hby y3_44)
  have z4o := (z3b.other z1 (Ne.symm z1q))
  obtain ⟨z4p, z2k, z4q, z2l, z4r, z4s, z4t⟩ := (id z4o)
  have z4u : ¬ ((1 : Int32) < 0 ∨ z4p.slots.size ≤ ((1 : Int32)).toNatClampNeg) := inb_of z2l ⟨by decide, by decide⟩
  obtain ⟨z4v, z2m, z1f, z4w, z2, z4x⟩ := stI z1e hx hZ z4m z2k (j := (1 : Int32)) z4u (g := (mkF m 51 #[.val (.ref z0), .val (.double (Jvm.FP.l2d (vx.toInt64))), .second, .val (.int vf), .val (.int vt), .val (.ref br), .val (.int 1), .unset, .unset] [(.int vt), (.int 1), (.ref za)])) rfl rfl (hb hby y3_51)
  have z4y := Fr.snoc z1f z4h z23
  have z4z := z4i.wr z2 z23
  have z50 := z4j.wr z2 (own_Ix 1 rfl)
  have z51 : Arv Z z2m za zx .int 16 [(.int t1), (.int vt), (.int t3)] (.int 0) := Arv.set z2k z4q z2l z4r z4s z4t rfl z2 1 (by decide) (by decide : 1 < 3)
  have z2n := ((z3c.other z1 (Or.inl zh)).other z2 (Or.inl zi))
  obtain ⟨z52, z1g, z53, z54⟩ := getF z1f hx hZ hown (host := "") (Or.inl (own_W hw 24 rfl)) Via.refl z4w z2n (g := (mkF m 53 #[.val (.ref z0), .val (.double (Jvm.FP.l2d (vx.toInt64))), .second, .val (.int vf), .val (.int vt), .val (.ref br), .val (.int 1), .unset, .unset] [(.ref z0)])) rfl rfl (hb hby y3_53)
  have z2o : own_AM Z z2m z8 zl (.object y_s3) := ((z3d.other z1 (Ne.symm z1r)).other z2 (Ne.symm z1s))
  obtain ⟨vs203, dv203, z55, z2p, z56, z57, z6u, z6v, z6w⟩ := (id z2o)
  have z58 : ¬ ((1 : Int32) < 0 ∨ z55.slots.size ≤ ((1 : Int32)).toNatClampNeg) := inb_of z57 ⟨by decide, by decide⟩
  have z59 := ((z3e.wr z1).wr z2)
  obtain ⟨z5a, z5b, z10, z5c, z3, z5d⟩ := stR z1g hx hZ z53 z2p (j := (1 : Int32)) z58 rfl (Sto.ofV z2p z56 z1p (Ins.of_exa z59 (own_W hw 66 rfl))) (g := (mkF m 60 #[.val (.ref z0), .val (.double (Jvm.FP.l2d (vx.toInt64))), .second, .val (.int vf), .val (.int vt), .val (.ref br), .val (.int 1), .unset, .unset] [(.ref br), (.int 1), (.ref z8)])) rfl rfl (hb hby y3_60)
  have z5e := Fr.snoc z10 z4y z24
  have z5f := z4z.wr z3 z24
  have z5g := z50.wr z3 (own_Ix 2 rfl)
  have z5h : own_AM Z z5b z8 zl (.object y_s3) := own_AM.set z2o rfl z3
  have z1h := (((z15.other z1 (Or.inl zh)).other z2 (Or.inl zi)).other z3 (Or.inl zj))
  obtain ⟨z2q, z11, z5i, z5j⟩ := getF z10 hx hZ hown (host := "") (Or.inl (own_W hw 37 rfl)) Via.refl z5c z1h (g := (mkF m 63 #[.val (.ref z0), .val (.double (Jvm.FP.l2d (vx.toInt64))), .second, .val (.int vf), .val (.int vt), .val (.ref br), .val (.int 1), .unset, .unset] [(.ref z0), (.ref z0)])) rfl rfl (hb hby y3_63)
  have z2r := (((z3f.wr z1).wr z2).wr z3)
  obtain ⟨z2s, z5k, zm, z5l, z4, z5m⟩ := putF z11 hx hZ hown (host := "") (Or.inl (own_W hw 37 rfl)) Via.refl z5i z1h z2r (Or.inl (own_W hw 38 rfl)) (own_W hw 1 rfl) (ty := .int) (by decide) rfl rfl (g := (mkF m 69 #[.val (.ref z0), .val (.double (Jvm.FP.l2d (vx.toInt64))), .second, .val (.int vf), .val (.int vt), .val (.ref br), .val (.int 1), .unset, .unset] [(.int 2), (.ref z0), (.int 1)])) rfl rfl (hb hby y3_69)
  have z5n := Fr.snoc zm z5e zy
  have z5o := z5f.wr z4 zy
  have z5p := z5g.wr z4 (own_Ix 3 rfl)
  have z5q : Fld Z z5k z0 y_s0 "size" "I" (.int 2) := z1h.same z4
  have z2t := ((((z3g.other z1 (Or.inl zh)).other z2 (Or.inl zi)).other z3 (Or.inl zj)).other z4 (Or.inr (slot_ne (Or.inl (own_W hw 11 rfl)) (Or.inl (own_W hw 38 rfl)) (by decide) (t := (.array .double)) (t' := .int) (by decide) (by decide))))
  obtain ⟨zn, zd, z2u, z5r⟩ := getF zm hx hZ hown (host := "") (Or.inl (own_W hw 10 rfl)) Via.refl z5l z2t (g := (mkF m 81 #[.val (.ref z0), .val (.double (Jvm.FP.l2d (vx.toInt64))), .second, .val (.int vf), .val (.int vt), .val (.ref br), .val (.int 1), .val (.int 1), .unset] [(.ref z0), (.double (Jvm.FP.l2d (vx.toInt64)))])) rfl rfl (hb hby y3_81)
  have z2v := ((((z3h.other z1 z1t).other z2 z1u).other z3 z1v).other z4 (Ne.symm zf))
  obtain ⟨z2w, z1i, z6x, z5s, z6y, z5t, z6z⟩ := (id z2v)
  have z2x : ¬ ((0 : Int32) < 0 ∨ z2w.slots.size ≤ ((0 : Int32)).toNatClampNeg) := inb_of z5s ⟨by decide, by decide⟩
  have z5u : z2w.slots[((0 : Int32)).toNatClampNeg]? = some (.double (Jvm.FP.l2d (x1.toInt64))) := Has.at z5t z2x rfl
  have z1j := ((((z3i.other z1 (Or.inl zh)).other z2 (Or.inl zi)).other z3 (Or.inl zj)).other z4 (Or.inr (slot_ne (Or.inl (own_W hw 49 rfl)) (Or.inl (own_W hw 38 rfl)) (by decide) (t := .long) (t' := .int) (by decide) (by decide))))
  obtain ⟨z1k, z12, z5v, z5w⟩ := getF zd hx hZ hown (host := "") (Or.inl (own_W hw 48 rfl)) Via.refl z2u z1j (g := (mkF m 124 #[.val (.ref z0), .val (.double (Jvm.FP.l2d (vx.toInt64))), .second, .val (.int vf), .val (.int vt), .val (.ref br), .val (.int 1), .val (.int 1), .unset] [(.ref z0), (.ref z0), (.double (Jvm.FP.l2d (vx.toInt64))), (.int 1), (.ref z0)])) rfl rfl (hb hby y3_124)
  have z2y := (z2r.wr z4)
  obtain ⟨z5x, z2z, z1l, z30, z5, z5y⟩ := putF z12 hx hZ hown (host := "") (Or.inl (own_W hw 48 rfl)) Via.refl z5v z1j z2y (Or.inl (own_W hw 49 rfl)) (own_W hw 1 rfl) (ty := .long) (by decide) rfl rfl (g := (mkF m 130 #[.val (.ref z0), .val (.double (Jvm.FP.l2d (vx.toInt64))), .second, .val (.int vf), .val (.int vt), .val (.ref br), .val (.int 1), .val (.int 1), .unset] [(.long (ga + (1 : Int64))), (.ref z0), (.long ga), (.double (Jvm.FP.l2d (vx.toInt64))), (.int 1), (.ref z0)])) rfl rfl (hb hby y3_130)
  have z5z := Fr.snoc z1l z5n zy
  have z31 := z5o.wr z5 zy
  have z60 := z5p.wr z5 (own_Ix 3 rfl)
  have z61 : Fld Z z2z z0 y_s0 "additions" "J" (.long (ga + (1 : Int64))) := z1j.same z5
  have z32 := (z2t.other z5 (Or.inr (slot_ne (Or.inl (own_W hw 11 rfl)) (Or.inl (own_W hw 49 rfl)) (by decide) (t := (.array .double)) (t' := .long) (by decide) (by decide))))
  have z62 := (z2v.other z5 (Ne.symm zf))
  have z33 := (((((z3j.other z1 (Or.inl zh)).other z2 (Or.inl zi)).other z3 (Or.inl zj)).other z4 (Or.inr (slot_ne (Or.inl (own_W hw 14 rfl)) (Or.inl (own_W hw 38 rfl)) (by decide) (t := (.array .long)) (t' := .int) (by decide) (by decide)))).other z5 (Or.inr (slot_ne (Or.inl (own_W hw 14 rfl)) (Or.inl (own_W hw 49 rfl)) (by decide) (t := (.array .long)) (t' := .long) (by decide) (by decide))))
  have z63 := (((((z3k.other z1 z1w).other z2 z1x).other z3 z1y).other z4 (Ne.symm zg)).other z5 (Ne.symm zg))
  have z34 := (((((z16.other z1 (Or.inl zh)).other z2 (Or.inl zi)).other z3 (Or.inl zj)).other z4 (Or.inr (slot_ne (Or.inl (own_W hw 17 rfl)) (Or.inl (own_W hw 38 rfl)) (by decide) (t := (.array .int)) (t' := .int) (by decide) (by decide)))).other z5 (Or.inr (slot_ne (Or.inl (own_W hw 17 rfl)) (Or.inl (own_W hw 49 rfl)) (by decide) (t := (.array .int)) (t' := .long) (by decide) (by decide))))
  have z64 := (((((z17.other z1 z1z).other z2 z20).other z3 z21).other z4 (Ne.symm zk)).other z5 (Ne.symm zk))
  have z35 := (z2y.wr z5)
  obtain ⟨cq224, z65, q224'⟩ := z35.cell
  obtain ⟨_, _, ⟨z1m, L224, z70, n224⟩, -, zq, ⟨Lc224, z36, l224, y224, z224⟩, z37⟩ := z1l.privateBack hx (y := own_m2) hown (mvT hZ (own_W hw 50 rfl)) (mvT hZ (own_W hw 51 rfl)) (own_selpS (y := own_m2) (mvT hZ (own_W hw 35 rfl)) rfl (mvP (args := #[]) hZ (own_W hw 52 rfl)) (mvT hZ (own_W hw 51 rfl)) (by decide)) (Cond.privateMethod_at (mvP hZ (own_W hw 52 rfl) (args := #[]))) (mvT hZ (own_W hw 53 rfl)) (by decide) (backOf (W := 0) (rmP1 l Z a0 hw [] z2z n0 A K x1 x2 x3 c1 c2 c3 s1 s2 s3 vx ga (1 : Int32) z0 z6 ze z7 zt zu zv EN z31 z32 z62 z33 z63 z34 z64 zf z3l zg z3m z3n z25 z26 z27) hZ (own_W hw 53 rfl) (own_W hw 2 rfl) (by decide) (by decide)) (g := (mkF m 135 #[.val (.ref z0), .val (.double (Jvm.FP.l2d (vx.toInt64))), .second, .val (.int vf), .val (.int vt), .val (.ref br), .val (.int 1), .val (.int 1), .unset] [(.int 1), (.long ga), (.double (Jvm.FP.l2d (vx.toInt64))), (.int 1), (.ref z0)])) rfl (by rw [hml]; rfl) (Steps.refl _) (a := z0) (by rw [z30]; exact z65) q224' (argsL := [(.int 1), (.double (Jvm.FP.l2d (vx.toInt64))), (.long ga), (.int 1)]) (rest := []) (lenOf own_pd0 rfl) rfl (by show 2 * 0 + _ ≤ _; exact Nat.le_of_eq rfl) (hb hby y3_135) (fun _ _ => ⟨rfl, z30, (by decide : 0 + 0 ≤ _), (by decide : 0 + 0 ≤ _)⟩)
  dsimp only [Pt.U, Pt.locs, Pt.cells, Pt.slots] at zq l224 y224 z224 z37 z36
  replace zq := own_sub zq l224 y224 z224
  obtain ⟨rfl, z66, zb, z67, z68, z69⟩ := z36
  have z6a := Fr.app z5z z66
  have z71 := z31.keep zb (allS z25 (allS z26 (allS z27 all0)))
  have z6b := z60.trans zb (allS (own_Ix 6 rfl) (allS (own_Ix 5 rfl) (allS (own_Ix 4 rfl) all0)))
  have z6c := (z35.keep zb)
  have z6d := (z32.keep zb (ninS zf (ninS zg (ninS zk nin0))))
  have z6e := (z33.keep zb (ninS zf (ninS zg (ninS zk nin0))))
  have z6f := (z34.keep zb (ninS zf (ninS zg (ninS zk nin0))))
  have z6g := ((((((z1o.other z1 (Or.inl zh)).other z2 (Or.inl zi)).other z3 (Or.inl zj)).other z4 (Or.inr (slot_ne (Or.inl (own_W hw 19 rfl)) (Or.inl (own_W hw 38 rfl)) (by decide) (t := (.array .int)) (t' := .int) (by decide) (by decide)))).other z5 (Or.inr (slot_ne (Or.inl (own_W hw 19 rfl)) (Or.inl (own_W hw 49 rfl)) (by decide) (t := (.array .int)) (t' := .long) (by decide) (by decide)))).keep zb (ninS zf (ninS zg (ninS zk nin0))))
  have z6h := (((((z2j.other z2 (Or.inl zi)).other z3 (Or.inl zj)).other z4 (Or.inr (slot_ne (Or.inl (own_W hw 21 rfl)) (Or.inl (own_W hw 38 rfl)) (by decide) (t := (.array .int)) (t' := .int) (by decide) (by decide)))).other z5 (Or.inr (slot_ne (Or.inl (own_W hw 21 rfl)) (Or.inl (own_W hw 49 rfl)) (by decide) (t := (.array .int)) (t' := .long) (by decide) (by decide)))).keep zb (ninS zf (ninS zg (ninS zk nin0))))
  have z6i := ((((z2n.other z3 (Or.inl zj)).other z4 (Or.inr (slot_ne (Or.inl (own_W hw 25 rfl)) (Or.inl (own_W hw 38 rfl)) (by decide) (t := (.array (.object y_s3))) (t' := .int) (by decide) (by decide)))).other z5 (Or.inr (slot_ne (Or.inl (own_W hw 25 rfl)) (Or.inl (own_W hw 49 rfl)) (by decide) (t := (.array (.object y_s3))) (t' := .long) (by decide) (by decide)))).keep zb (ninS zf (ninS zg (ninS zk nin0))))
  have z6j := ((((((z1n.other z1 (Or.inl zh)).other z2 (Or.inl zi)).other z3 (Or.inl zj)).other z4 (Or.inr (slot_ne (Or.inl (own_W hw 27 rfl)) (Or.inl (own_W hw 38 rfl)) (by decide) (t := (.array .int)) (t' := .int) (by decide) (by decide)))).other z5 (Or.inr (slot_ne (Or.inl (own_W hw 27 rfl)) (Or.inl (own_W hw 49 rfl)) (by decide) (t := (.array .int)) (t' := .long) (by decide) (by decide)))).keep zb (ninS zf (ninS zg (ninS zk nin0))))
  have z6k := ((z5q.other z5 (Or.inr (slot_ne (Or.inl (own_W hw 38 rfl)) (Or.inl (own_W hw 49 rfl)) (by decide) (t := .int) (t' := .long) (by decide) (by decide)))).keep zb (ninS zf (ninS zg (ninS zk nin0))))
  have z6l := (z61.keep zb (ninS zf (ninS zg (ninS zk nin0))))
  have z6m := (((((z4k.other z2 z1q).other z3 z1r).other z4 (Ne.symm zh)).other z5 (Ne.symm zh)).keep zb (ninS (Ne.symm z1t) (ninS (Ne.symm z1w) (ninS (Ne.symm z1z) nin0))))
  have z6n := ((((z51.other z3 z1s).other z4 (Ne.symm zi)).other z5 (Ne.symm zi)).keep zb (ninS (Ne.symm z1u) (ninS (Ne.symm z1x) (ninS (Ne.symm z20) nin0))))
  have z6o : own_AM Z z1m.heap z8 zl (.object y_s3) := (((z5h.other z4 (Ne.symm zj)).other z5 (Ne.symm zj)).keep zb (ninS (Ne.symm z1v) (ninS (Ne.symm z1y) (ninS (Ne.symm z21) nin0))))
  obtain ⟨fs, hr, hrun, hended, hW, hsame⟩ := zq.leave (v := none) (fun _ => rfl)
  refine ⟨_, _, pre0 _ ?_, hrun, hended, _, _, rfl, ?_, ⟨_, rfl⟩, hW, hsame.mono (by decide) (by decide)⟩
  · show Steps p.tables e below (s₁.setTop (mkF m 0 #[.val (.ref z0), .val (.double (Jvm.FP.l2d (vx.toInt64))), .second, .val (.int vf), .val (.int vt), .val (.ref br), .unset, .unset, .unset] [])) _
    refine XS.aloadN X0.here hx rfl (hb hby y3_0) rfl rfl ?_
    refine z3q _ ?_
    show Steps p.tables e below (z3o.setTop (mkF m 4 #[.val (.ref z0), .val (.double (Jvm.FP.l2d (vx.toInt64))), .second, .val (.int vf), .val (.int vt), .val (.ref br), .unset, .unset, .unset] [(.int 1)])) _
    refine XS.aloadN z28.here hx rfl (hb hby y3_4) rfl rfl ?_
    refine z3r _ ?_
    show Steps p.tables e below (z18.setTop (mkF m 8 #[.val (.ref z0), .val (.double (Jvm.FP.l2d (vx.toInt64))), .second, .val (.int vf), .val (.int vt), .val (.ref br), .unset, .unset, .unset] [(.ref z7), (.int 1)])) _
    refine zz.arraylength hx (by rw [z29]; exact z2a.1) (State.isArrayOf_alike hZ.alike z2a.2.1) (g := (mkF m 8 #[.val (.ref z0), .val (.double (Jvm.FP.l2d (vx.toInt64))), .second, .val (.int vf), .val (.int vt), .val (.ref br), .unset, .unset, .unset] [(.ref z7), (.int 1)])) rfl rfl (hb hby y3_8) _ ?_
    rw [len_of z3s z3t]
    show Steps p.tables e below (z18.setTop (mkF m 9 #[.val (.ref z0), .val (.double (Jvm.FP.l2d (vx.toInt64))), .second, .val (.int vf), .val (.int vt), .val (.ref br), .unset, .unset, .unset] [(.int 16), (.int 1)])) _
    refine XS.icmpYes zz.here hx rfl (pc0 := 9) (pc' := 16) rfl (hb hby y3_9) rfl (feq (by decide : ¬ ((1 : Int32) = (16 : Int32)))).2 (by decide) (by decide) ?_
    show Steps p.tables e below (z18.setTop (mkF m 16 #[.val (.ref z0), .val (.double (Jvm.FP.l2d (vx.toInt64))), .second, .val (.int vf), .val (.int vt), .val (.ref br), .unset, .unset, .unset] [])) _
    refine XS.aloadN zz.here hx rfl (hb hby y3_16) rfl rfl ?_
    refine z3w _ ?_
    show Steps p.tables e below (z3u.setTop (mkF m 20 #[.val (.ref z0), .val (.double (Jvm.FP.l2d (vx.toInt64))), .second, .val (.int vf), .val (.int vt), .val (.ref br), .unset, .unset, .unset] [(.ref zc)])) _
    refine XS.aloadN z2b.here hx rfl (hb hby y3_20) rfl rfl ?_
    refine z3x _ ?_
    show Steps p.tables e below (z19.setTop (mkF m 24 #[.val (.ref z0), .val (.double (Jvm.FP.l2d (vx.toInt64))), .second, .val (.int vf), .val (.int vt), .val (.ref br), .unset, .unset, .unset] [(.ref z7), (.ref zc)])) _
    refine zo.arraylength hx (by rw [z2c]; exact z2d.1) (State.isArrayOf_alike hZ.alike z2d.2.1) (g := (mkF m 24 #[.val (.ref z0), .val (.double (Jvm.FP.l2d (vx.toInt64))), .second, .val (.int vf), .val (.int vt), .val (.ref br), .unset, .unset, .unset] [(.ref z7), (.ref zc)])) rfl rfl (hb hby y3_24) _ ?_
    rw [len_of z3y z3z]
    show Steps p.tables e below (z19.setTop (mkF m 25 #[.val (.ref z0), .val (.double (Jvm.FP.l2d (vx.toInt64))), .second, .val (.int vf), .val (.int vt), .val (.ref br), .unset, .unset, .unset] [(.int 16), (.ref zc)])) _
    refine XS.iconst zo.here hx rfl (hb hby y3_25) ?_
    refine XS.isub zo.here hx rfl (hb hby y3_26) rfl ?_
    show Steps p.tables e below (z19.setTop (mkF m 27 #[.val (.ref z0), .val (.double (Jvm.FP.l2d (vx.toInt64))), .second, .val (.int vf), .val (.int vt), .val (.ref br), .unset, .unset, .unset] [(.int 15), (.ref zc)])) _
    refine XS.aloadN zo.here hx rfl (hb hby y3_27) rfl rfl ?_
    refine z40 _ ?_
    show Steps p.tables e below (z1a.setTop (mkF m 31 #[.val (.ref z0), .val (.double (Jvm.FP.l2d (vx.toInt64))), .second, .val (.int vf), .val (.int vt), .val (.ref br), .unset, .unset, .unset] [(.int 1), (.int 15), (.ref zc)])) _
    refine XS.isub zp.here hx rfl (hb hby y3_31) rfl ?_
    show Steps p.tables e below (z1a.setTop (mkF m 32 #[.val (.ref z0), .val (.double (Jvm.FP.l2d (vx.toInt64))), .second, .val (.int vf), .val (.int vt), .val (.ref br), .unset, .unset, .unset] [(.int 14), (.ref zc)])) _
    refine zp.iaload hx (j := (14 : Int32)) (v := (.int 1)) (by rw [z2e]; exact z1b.1) (State.isArrayOf_alike hZ.alike z1b.2.1) z1b.2.2 z2g z43 (g := (mkF m 32 #[.val (.ref z0), .val (.double (Jvm.FP.l2d (vx.toInt64))), .second, .val (.int vf), .val (.int vt), .val (.ref br), .unset, .unset, .unset] [(.int 14), (.ref zc)])) rfl rfl (hb hby y3_32) _ ?_
    show Steps p.tables e below (z1a.setTop (mkF m 33 #[.val (.ref z0), .val (.double (Jvm.FP.l2d (vx.toInt64))), .second, .val (.int vf), .val (.int vt), .val (.ref br), .unset, .unset, .unset] [(.int 1)])) _
    refine XS.istore zp.here hx rfl (hb hby y3_33) rfl (l' := #[.val (.ref z0), .val (.double (Jvm.FP.l2d (vx.toInt64))), .second, .val (.int vf), .val (.int vt), .val (.ref br), .val (.int 1), .unset, .unset]) rfl ?_
    refine XS.aloadN zp.here hx rfl (hb hby y3_35) rfl rfl ?_
    refine z46 _ ?_
    show Steps p.tables e below (z44.setTop (mkF m 39 #[.val (.ref z0), .val (.double (Jvm.FP.l2d (vx.toInt64))), .second, .val (.int vf), .val (.int vt), .val (.ref br), .val (.int 1), .unset, .unset] [(.ref z9)])) _
    refine XS.iload z1c.here hx rfl (hb hby y3_39) rfl ?_
    refine XS.iloadN z1c.here hx rfl (hb hby y3_41) rfl ?_
    refine z4g _ ?_
    show Steps p.tables e below (z4d.setTop (mkF m 43 #[.val (.ref z0), .val (.double (Jvm.FP.l2d (vx.toInt64))), .second, .val (.int vf), .val (.int vt), .val (.ref br), .val (.int 1), .unset, .unset] [])) _
    refine XS.aloadN z1d.here hx rfl (hb hby y3_43) rfl rfl ?_
    refine z4n _ ?_
    show Steps p.tables e below (z4l.setTop (mkF m 47 #[.val (.ref z0), .val (.double (Jvm.FP.l2d (vx.toInt64))), .second, .val (.int vf), .val (.int vt), .val (.ref br), .val (.int 1), .unset, .unset] [(.ref za)])) _
    refine XS.iload z1e.here hx rfl (hb hby y3_47) rfl ?_
    refine XS.iload z1e.here hx rfl (hb hby y3_49) rfl ?_
    refine z4x _ ?_
    show Steps p.tables e below (z4v.setTop (mkF m 52 #[.val (.ref z0), .val (.double (Jvm.FP.l2d (vx.toInt64))), .second, .val (.int vf), .val (.int vt), .val (.ref br), .val (.int 1), .unset, .unset] [])) _
    refine XS.aloadN z1f.here hx rfl (hb hby y3_52) rfl rfl ?_
    refine z54 _ ?_
    show Steps p.tables e below (z52.setTop (mkF m 56 #[.val (.ref z0), .val (.double (Jvm.FP.l2d (vx.toInt64))), .second, .val (.int vf), .val (.int vt), .val (.ref br), .val (.int 1), .unset, .unset] [(.ref z8)])) _
    refine XS.iload z1g.here hx rfl (hb hby y3_56) rfl ?_
    refine XS.aload z1g.here hx rfl (hb hby y3_58) rfl rfl ?_
    refine z5d _ ?_
    show Steps p.tables e below (z5a.setTop (mkF m 61 #[.val (.ref z0), .val (.double (Jvm.FP.l2d (vx.toInt64))), .second, .val (.int vf), .val (.int vt), .val (.ref br), .val (.int 1), .unset, .unset] [])) _
    refine XS.aloadN z10.here hx rfl (hb hby y3_61) rfl rfl ?_
    refine XS.dup z10.here hx rfl (hb hby y3_62) rfl rfl ?_
    refine z5j _ ?_
    show Steps p.tables e below (z2q.setTop (mkF m 66 #[.val (.ref z0), .val (.double (Jvm.FP.l2d (vx.toInt64))), .second, .val (.int vf), .val (.int vt), .val (.ref br), .val (.int 1), .unset, .unset] [(.int 1), (.ref z0)])) _
    refine XS.dupX1 z11.here hx rfl (hb hby y3_66) rfl rfl rfl ?_
    refine XS.iconst z11.here hx rfl (hb hby y3_67) ?_
    refine XS.iadd z11.here hx rfl (hb hby y3_68) rfl ?_
    show Steps p.tables e below (z2q.setTop (mkF m 69 #[.val (.ref z0), .val (.double (Jvm.FP.l2d (vx.toInt64))), .second, .val (.int vf), .val (.int vt), .val (.ref br), .val (.int 1), .unset, .unset] [(.int 2), (.ref z0), (.int 1)])) _
    refine z5m _ ?_
    show Steps p.tables e below (z2s.setTop (mkF m 72 #[.val (.ref z0), .val (.double (Jvm.FP.l2d (vx.toInt64))), .second, .val (.int vf), .val (.int vt), .val (.ref br), .val (.int 1), .unset, .unset] [(.int 1)])) _
    refine XS.istore zm.here hx rfl (hb hby y3_72) rfl (l' := #[.val (.ref z0), .val (.double (Jvm.FP.l2d (vx.toInt64))), .second, .val (.int vf), .val (.int vt), .val (.ref br), .val (.int 1), .val (.int 1), .unset]) rfl ?_
    refine XS.iload zm.here hx rfl (hb hby y3_74) rfl ?_
    refine XS.ifNo zm.here hx rfl (hb hby y3_76) rfl ((if0 _ _).trans (tlt (by decide : (0 : Int32) < (1 : Int32))).2.2.2) ?_
    show Steps p.tables e below (z2s.setTop (mkF m 79 #[.val (.ref z0), .val (.double (Jvm.FP.l2d (vx.toInt64))), .second, .val (.int vf), .val (.int vt), .val (.ref br), .val (.int 1), .val (.int 1), .unset] [])) _
    refine XS.dloadN zm.here hx rfl (hb hby y3_79) rfl ?_
    refine XS.aloadN zm.here hx rfl (hb hby y3_80) rfl rfl ?_
    refine z5r _ ?_
    show Steps p.tables e below (zn.setTop (mkF m 84 #[.val (.ref z0), .val (.double (Jvm.FP.l2d (vx.toInt64))), .second, .val (.int vf), .val (.int vt), .val (.ref br), .val (.int 1), .val (.int 1), .unset] [(.ref z6), (.double (Jvm.FP.l2d (vx.toInt64)))])) _
    refine XS.iload zd.here hx rfl (hb hby y3_84) rfl ?_
    refine XS.iconst zd.here hx rfl (hb hby y3_86) ?_
    refine XS.isub zd.here hx rfl (hb hby y3_87) rfl ?_
    show Steps p.tables e below (zn.setTop (mkF m 88 #[.val (.ref z0), .val (.double (Jvm.FP.l2d (vx.toInt64))), .second, .val (.int vf), .val (.int vt), .val (.ref br), .val (.int 1), .val (.int 1), .unset] [(.int 0), (.ref z6), (.double (Jvm.FP.l2d (vx.toInt64)))])) _
    refine XS.iconst zd.here hx rfl (hb hby y3_88) ?_
    refine XS.idiv zd.here hx rfl (hb hby y3_89) rfl (by decide) ?_
    show Steps p.tables e below (zn.setTop (mkF m 90 #[.val (.ref z0), .val (.double (Jvm.FP.l2d (vx.toInt64))), .second, .val (.int vf), .val (.int vt), .val (.ref br), .val (.int 1), .val (.int 1), .unset] [(.int 0), (.ref z6), (.double (Jvm.FP.l2d (vx.toInt64)))])) _
    refine zd.daload hx (j := (0 : Int32)) (v := (.double (Jvm.FP.l2d (x1.toInt64)))) (by rw [z2u]; exact z1i.1) (State.isArrayOf_alike hZ.alike z1i.2.1) z1i.2.2 z2x z5u (g := (mkF m 90 #[.val (.ref z0), .val (.double (Jvm.FP.l2d (vx.toInt64))), .second, .val (.int vf), .val (.int vt), .val (.ref br), .val (.int 1), .val (.int 1), .unset] [(.int 0), (.ref z6), (.double (Jvm.FP.l2d (vx.toInt64)))])) rfl rfl (hb hby y3_90) _ ?_
    show Steps p.tables e below (zn.setTop (mkF m 91 #[.val (.ref z0), .val (.double (Jvm.FP.l2d (vx.toInt64))), .second, .val (.int vf), .val (.int vt), .val (.ref br), .val (.int 1), .val (.int 1), .unset] [(.double (Jvm.FP.l2d (x1.toInt64))), (.double (Jvm.FP.l2d (vx.toInt64)))])) _
    refine XS.dcmpS zd.here hx rfl (hb hby y3_91) rfl (dcmpV_w (own_b53 vx) (own_b53 x1) _) ?_
    show Steps p.tables e below (zn.setTop (mkF m 92 #[.val (.ref z0), .val (.double (Jvm.FP.l2d (vx.toInt64))), .second, .val (.int vf), .val (.int vt), .val (.ref br), .val (.int 1), .val (.int 1), .unset] [(.int (lcmpW (vx.toInt64) (x1.toInt64)))])) _
    refine XS.ifYes zd.here hx rfl (pc0 := 92) (pc' := 118) rfl (hb hby y3_92) rfl ((if0 _ _).trans (flt (fun z => hri ((own_llt _ _).mp z))).2.1) (by decide) (by decide) ?_
    show Steps p.tables e below (zn.setTop (mkF m 118 #[.val (.ref z0), .val (.double (Jvm.FP.l2d (vx.toInt64))), .second, .val (.int vf), .val (.int vt), .val (.ref br), .val (.int 1), .val (.int 1), .unset] [])) _
    refine XS.aloadN zd.here hx rfl (hb hby y3_118) rfl rfl ?_
    refine XS.iload zd.here hx rfl (hb hby y3_119) rfl ?_
    refine XS.dloadN zd.here hx rfl (hb hby y3_121) rfl ?_
    refine XS.aloadN zd.here hx rfl (hb hby y3_122) rfl rfl ?_
    refine XS.dup zd.here hx rfl (hb hby y3_123) rfl rfl ?_
    refine z5w _ ?_
    show Steps p.tables e below (z1k.setTop (mkF m 127 #[.val (.ref z0), .val (.double (Jvm.FP.l2d (vx.toInt64))), .second, .val (.int vf), .val (.int vt), .val (.ref br), .val (.int 1), .val (.int 1), .unset] [(.long ga), (.ref z0), (.double (Jvm.FP.l2d (vx.toInt64))), (.int 1), (.ref z0)])) _
    refine own_dup2X1 z12.here hx rfl (hb hby y3_127) rfl ?_
    show Steps p.tables e below (z1k.setTop (mkF m 128 #[.val (.ref z0), .val (.double (Jvm.FP.l2d (vx.toInt64))), .second, .val (.int vf), .val (.int vt), .val (.ref br), .val (.int 1), .val (.int 1), .unset] [(.long ga), (.ref z0), (.long ga), (.double (Jvm.FP.l2d (vx.toInt64))), (.int 1), (.ref z0)])) _
    refine XS.lconst z12.here hx rfl (hb hby y3_128) ?_
    refine XS.ladd z12.here hx rfl (hb hby y3_129) rfl ?_
    show Steps p.tables e below (z1k.setTop (mkF m 130 #[.val (.ref z0), .val (.double (Jvm.FP.l2d (vx.toInt64))), .second, .val (.int vf), .val (.int vt), .val (.ref br), .val (.int 1), .val (.int 1), .unset] [(.long (ga + (1 : Int64))), (.ref z0), (.long ga), (.double (Jvm.FP.l2d (vx.toInt64))), (.int 1), (.ref z0)])) _
    refine z5y _ ?_
    show Steps p.tables e below (z5x.setTop (mkF m 133 #[.val (.ref z0), .val (.double (Jvm.FP.l2d (vx.toInt64))), .second, .val (.int vf), .val (.int vt), .val (.ref br), .val (.int 1), .val (.int 1), .unset] [(.long ga), (.double (Jvm.FP.l2d (vx.toInt64))), (.int 1), (.ref z0)])) _
    refine XS.iload z1l.here hx rfl (hb hby y3_133) rfl ?_
    refine z37.trans ?_
    show Steps p.tables e below (z1m.setTop (mkF m 138 #[.val (.ref z0), .val (.double (Jvm.FP.l2d (vx.toInt64))), .second, .val (.int vf), .val (.int vt), .val (.ref br), .val (.int 1), .val (.int 1), .unset] [])) _
    exact zq.returnOut hx Bd.returns (hb hby y3_138) hr
  · show Q_rmA1n Z A K x1 x2 x3 c1 c2 c3 s1 s2 s3 zr z13 zs t1 t2 t3 ga vx vf vt z0 z6 ze z7 z9 za z8 zc br zt zu zv zw zx zl z14 h0 n0 _ z1m.heap _
    exact ⟨rfl, z6a, z6b, z6c, z6d, z6e, z6f, z6g, z6h, z6i, z6j, z6k, z6l, z67, z68, z69, z6m, z6n, z6o, z1p⟩
def Q_rmA2y (Z : State) (A : Nat → Addr) (K : Nat → ClassId) (x1 : Int32) (x2 : Int32) (x3 : Int32) (c1 : Int64) (c2 : Int64) (c3 : Int64) (s1 : Int32) (s2 : Int32) (s3 : Int32) (z8 : Int32) (z9 : Int32) (zg : Int32) (t1 : Int32) (t2 : Int32) (t3 : Int32) (ga : Int64) (vx : Int32) (vf : Int32) (vt : Int32) (z0 : Addr) (z1 : Addr) (z2 : Addr) (z3 : Addr) (z4 : Addr) (z5 : Addr) (z6 : Addr) (za : Addr) (zb : ClassId) (zc : ClassId) (zd : ClassId) (ze : ClassId) (zf : ClassId) (z7 : ClassId) (zh : ClassId) (h0 : Heap) (n0 : Nat) (v : Option Value) (h : Heap) (L : List Loc) : Prop := v = none ∧ Fr n0 L ∧ Keep h0 h [z4, z5, z6, z0, z1, z2, z3] ∧ (Exa Z h z0 y_s0) ∧ (Fld Z h z0 y_s0 "at" "[D" (.ref z1)) ∧ (Fld Z h z0 y_s0 "added" "[J" (.ref z2)) ∧ (Fld Z h z0 y_s0 "slot" "[I" (.ref z3)) ∧ (Fld Z h z0 y_s0 "from" "[I" (.ref z4)) ∧ (Fld Z h z0 y_s0 "to" "[I" (.ref z5)) ∧ (Fld Z h z0 y_s0 "message" y_s1 (.ref z6)) ∧ (Fld Z h z0 y_s0 "free" "[I" (.ref za)) ∧ (Fld Z h z0 y_s0 "size" "I" (.int 3)) ∧ (Fld Z h z0 y_s0 "additions" "J" (.long (ga + (1 : Int64)))) ∧ (Arv Z h z1 zb .double (16 : Int32) [(.double (Jvm.FP.l2d (vx.toInt64))), (.double (Jvm.FP.l2d (x2.toInt64))), (.double (Jvm.FP.l2d (x1.toInt64)))] (.double (Jvm.FP.l2d ((0 : Int32).toInt64)))) ∧ (Arv Z h z2 zc .long (16 : Int32) [(.long ga), (.long c2), (.long c1)] (.long 0)) ∧ (Arv Z h z3 zd .int 16 [(.int 2), (.int s2), (.int s1)] (.int 0)) ∧ (Arv Z h z4 ze .int 16 [(.int z8), (.int z9), (.int vf)] (.int 0)) ∧ (Arv Z h z5 zf .int 16 [(.int t1), (.int t2), (.int vt)] (.int 0)) ∧ (own_AM Z h z6 z7 (.object y_s3)) ∧ (Ovr Z z7 y_s3)
set_option maxRecDepth 65536 in
set_option maxHeartbeats 40000000 in
theorem rmA2y (l : Launch) (Z : State) (a0 : Array Value) (hw : ∀ d ∈ tables_1, d.before a0 Z = true) (ws : List Jvm.Cond) (h0 : Heap) (n0 : Nat) (A : Nat → Addr) (K : Nat → ClassId) (x1 : Int32) (x2 : Int32) (x3 : Int32) (c1 : Int64) (c2 : Int64) (c3 : Int64) (s1 : Int32) (s2 : Int32) (s3 : Int32) (zw : Int32) (zx : Int32) (z18 : Int32) (t1 : Int32) (t2 : Int32) (t3 : Int32) (ga : Int64) (vx : Int32) (vf : Int32) (vt : Int32)  (z0 : Addr) (z4 : Addr) (zh : Addr) (z5 : Addr) (zd : Addr) (ze : Addr) (zc : Addr) (zi : Addr) (zq : ClassId) (zr : ClassId) (zs : ClassId) (zy : ClassId) (zz : ClassId) (zo : ClassId) (z19 : ClassId) (EN : own_St Z A K) (OL0 : Old Z n0 h0) (z1a : Fld Z h0 z0 y_s0 "size" "I" (.int 2)) (z1b : Fld Z h0 z0 y_s0 "slot" "[I" (.ref z5)) (z1c : Arv Z h0 z5 zs .int 16 [(.int s1), (.int s2), (.int s3)] (.int 0)) (z24 : Fld Z h0 z0 y_s0 "free" "[I" (.ref zi)) (z3j : Arv Z h0 zi z19 .int 16 [(.int 15), (.int 14), (.int 13), (.int 12), (.int 11), (.int 10), (.int 9), (.int 8), (.int 7), (.int 6), (.int 5), (.int 4), (.int 3), (.int 2), (.int 1), (.int 0)] (.int 0)) (z25 : Fld Z h0 z0 y_s0 "from" "[I" (.ref zd)) (z3k : Arv Z h0 zd zy .int 16 [(.int zw), (.int zx), (.int z18)] (.int 0)) (z3l : Fld Z h0 z0 y_s0 "to" "[I" (.ref ze)) (z3m : Arv Z h0 ze zz .int 16 [(.int t1), (.int t2), (.int t3)] (.int 0)) (z3n : Fld Z h0 z0 y_s0 "message" y_s1 (.ref zc)) (z3o : own_AM Z h0 zc zo (.object y_s3)) (z3p : Exa Z h0 z0 y_s0) (z3q : Fld Z h0 z0 y_s0 "at" "[D" (.ref z4)) (z3r : Arv Z h0 z4 zq .double (16 : Int32) [(.double (Jvm.FP.l2d (x1.toInt64))), (.double (Jvm.FP.l2d (x2.toInt64))), (.double (Jvm.FP.l2d (x3.toInt64)))] (.double (Jvm.FP.l2d ((0 : Int32).toInt64)))) (z3s : Fld Z h0 z0 y_s0 "added" "[J" (.ref zh)) (z3t : Arv Z h0 zh zr .long (16 : Int32) [(.long c1), (.long c2), (.long c3)] (.long 0)) (z3u : Fld Z h0 z0 y_s0 "additions" "J" (.long ga)) (z3v : Ovr Z zo y_s3) (hri : vx < x1) (zk : z0 ≠ zd) (z26 : zd ≠ ze) (zl : z0 ≠ ze) (z27 : zd ≠ zc) (z28 : ze ≠ zc) (zm : z0 ≠ zc) (z1d : z4 ≠ zd) (z1e : z4 ≠ ze) (z1f : z4 ≠ zc) (z1 : z0 ≠ z4) (z1g : zh ≠ zd) (z1h : zh ≠ ze) (z1i : zh ≠ zc) (z2 : z0 ≠ zh) (z1j : z5 ≠ zd) (z1k : z5 ≠ ze) (z1l : z5 ≠ zc) (z3 : z0 ≠ z5) (z29 : z4 ≠ zh) (z2a : z4 ≠ z5) (z2b : zh ≠ z5) (z2c : n0 ≤ zd) (z2d : n0 ≤ ze) (z2e : n0 ≤ zc) (z10 : n0 ≤ z0) (z11 : n0 ≤ z4) (z12 : n0 ≤ zh) (z13 : n0 ≤ z5) :
    MetFree l own_m3 (head1 (Jvm.Cond.code own_m3 prog_48_method_2_code 9 none :: ws) (Room.mk 2 0 0 32)) (fun a U => a = #[(.ref z0), (.double (Jvm.FP.l2d (vx.toInt64))), (.int vf), (.int vt), .null] ∧ Z.Warmed39 U.vm ∧ U.heap = h0) (fun _ _ _ _ _ => True) (fun _ U o U' => ∃ v L, o = .returned v ∧ Q_rmA2y Z A K x1 x2 x3 c1 c2 c3 s1 s2 s3 zw zx z18 t1 t2 t3 ga vx vf vt z0 z4 zh z5 zd ze zc zi zq zr zs zy zz zo z19 h0 n0 v U'.heap L ∧ FrameEnd U o U' L (Room.mk 2 0 0 32).cells (Room.mk 2 0 0 32).slots) := by
  refine MetFree.of_bodySF (plainFor_of_name own_pn0) hisR ?_
  intro p e s m args below meth c s₁ Bd hml0 hP hK
  obtain ⟨rfl, hZ, hh⟩ := hP
  have hx := Bd.exec
  have hby := Bd.bytes
  have hml : c.maxLocals = 9 := hml0
  have hown : s.vm.findClass y_s0 = some m.cls := findClass_of_methodNamed Bd.named
  have hnm := (name_of_methodNamed Bd.named Bd.method).1
  have X0 : Stand p l e (Room.mk 2 0 0 32) s m #[(.ref z0), (.double (Jvm.FP.l2d (vx.toInt64))), (.int vf), (.int vt), .null] below meth c s₁ [] 0 0 := Stand.of_body Bd
  have e0 : s₁.heap = h0 := by rw [← hh, Bd.state]; rfl
  have N0 := Fr.nil n0
  have pre0 : ∀ t, Steps p.tables e below (s₁.setTop (mkF m 0 #[.val (.ref z0), .val (.double (Jvm.FP.l2d (vx.toInt64))), .second, .val (.int vf), .val (.int vt), .val .null, .unset, .unset, .unset] [])) t → Steps p.tables e below (s₁.setTop (entryFrame m #[(.ref z0), (.double (Jvm.FP.l2d (vx.toInt64))), (.int vf), (.int vt), .null] 9)) t := fun t k => castTop (by first | (simp [entryFrame, mkF, argsToLocals, Value.category, maxLocals]; done) | rfl) k
  have KK0 : Keep h0 h0 [zd, ze, zc, z0, z4, zh, z5] := Keep.refl _ _
  obtain ⟨z3w, z2f, z3x, z3y⟩ := getF X0 hx hZ hown (host := "") (Or.inl (own_W hw 37 rfl)) Via.refl e0 z1a (g := (mkF m 1 #[.val (.ref z0), .val (.double (Jvm.FP.l2d (vx.toInt64))), .second, .val (.int vf), .val (.int vt), .val .null, .unset, .unset, .unset] [(.ref z0)])) rfl rfl (hb hby y3_1)
  obtain ⟨z1m, z14, z2g, z3z⟩ := getF z2f hx hZ hown (host := "") (Or.inl (own_W hw 16 rfl)) Via.refl z3x z1b (g := (mkF m 5 #[.val (.ref z0), .val (.double (Jvm.FP.l2d (vx.toInt64))), .second, .val (.int vf), .val (.int vt), .val .null, .unset, .unset, .unset] [(.ref z0), (.int 2)])) rfl rfl (hb hby y3_5)
  obtain ⟨z74, z2h, -, z40, z41, -, -⟩ := (id z1c)
  obtain ⟨z42, z2i, z43, z44⟩ := getF z14 hx hZ hown (host := "") (Or.inl (own_W hw 26 rfl)) Via.refl z2g z24 (g := (mkF m 17 #[.val (.ref z0), .val (.double (Jvm.FP.l2d (vx.toInt64))), .second, .val (.int vf), .val (.int vt), .val .null, .unset, .unset, .unset] [(.ref z0)])) rfl rfl (hb hby y3_17)
  obtain ⟨z1n, zt, z2j, z45⟩ := getF z2i hx hZ hown (host := "") (Or.inl (own_W hw 16 rfl)) Via.refl z43 z1b (g := (mkF m 21 #[.val (.ref z0), .val (.double (Jvm.FP.l2d (vx.toInt64))), .second, .val (.int vf), .val (.int vt), .val .null, .unset, .unset, .unset] [(.ref z0), (.ref zi)])) rfl rfl (hb hby y3_21)
  obtain ⟨z75, z2k, -, z46, z47, -, -⟩ := (id z1c)
  obtain ⟨z1o, zu, z2l, z48⟩ := getF zt hx hZ hown (host := "") (Or.inl (own_W hw 37 rfl)) Via.refl z2j z1a (g := (mkF m 28 #[.val (.ref z0), .val (.double (Jvm.FP.l2d (vx.toInt64))), .second, .val (.int vf), .val (.int vt), .val .null, .unset, .unset, .unset] [(.ref z0), (.int 15), (.ref zi)])) rfl rfl (hb hby y3_28)
  obtain ⟨z2m, z1p, z76, z49, z77, z4a, z78⟩ := (id z3j)
  have z2n : ¬ ((13 : Int32) < 0 ∨ z2m.slots.size ≤ ((13 : Int32)).toNatClampNeg) := inb_of z49 ⟨by decide, by decide⟩
  have z4b : z2m.slots[((13 : Int32)).toNatClampNeg]? = some (.int 2) := Has.at z4a z2n rfl
  obtain ⟨z4c, z1q, z4d, z4e⟩ := getF zu hx hZ hown (host := "") (Or.inl (own_W hw 18 rfl)) Via.refl z2l z25 (g := (mkF m 36 #[.val (.ref z0), .val (.double (Jvm.FP.l2d (vx.toInt64))), .second, .val (.int vf), .val (.int vt), .val .null, .val (.int 2), .unset, .unset] [(.ref z0)])) rfl rfl (hb hby y3_36)
  obtain ⟨z4f, z2o, z4g, z2p, z4h, z4i, z4j⟩ := (id z3k)
  have z4k : ¬ ((2 : Int32) < 0 ∨ z4f.slots.size ≤ ((2 : Int32)).toNatClampNeg) := inb_of z2p ⟨by decide, by decide⟩
  obtain ⟨z4l, z4m, z1r, z4n, z6, z4o⟩ := stI z1q hx hZ z4d z2o (j := (2 : Int32)) z4k (g := (mkF m 42 #[.val (.ref z0), .val (.double (Jvm.FP.l2d (vx.toInt64))), .second, .val (.int vf), .val (.int vt), .val .null, .val (.int 2), .unset, .unset] [(.int vf), (.int 2), (.ref zd)])) rfl rfl (hb hby y3_42)
  have z4p := Fr.snoc z1r N0 z2c
  have z4q := OL0.wr z6 z2c
  have z4r := KK0.wr z6 (own_Ix 0 rfl)
  have z4s : Arv Z z4m zd zy .int 16 [(.int zw), (.int zx), (.int vf)] (.int 0) := Arv.set z2o z4g z2p z4h z4i z4j rfl z6 2 (by decide) (by decide : 2 < 3)
  have z2q := (z3l.other z6 (Or.inl zk))
  obtain ⟨z4t, z1s, z4u, z4v⟩ := getF z1r hx hZ hown (host := "") (Or.inl (own_W hw 20 rfl)) Via.refl z4n z2q (g := (mkF m 44 #[.val (.ref z0), .val (.double (Jvm.FP.l2d (vx.toInt64))), .second, .val (.int vf), .val (.int vt), .val .null, .val (.int 2), .unset, .unset] [(.ref z0)])) rfl rfl (hb hby y3_44)
  have z4w := (z3m.other z6 (Ne.symm z26))
  obtain ⟨z4x, z2r, z4y, z2s, z4z, z50, z51⟩ := (id z4w)
  have z52 : ¬ ((2 : Int32) < 0 ∨ z4x.slots.size ≤ ((2 : Int32)).toNatClampNeg) := inb_of z2s ⟨by decide, by decide⟩
  obtain ⟨z53, z2t, z1t, z54, z7, z55⟩ := stI z1s hx hZ z4u z2r (j := (2 : Int32)) z52 (g := (mkF m 51 #[.val (.ref z0), .val (.double (Jvm.FP.l2d (vx.toInt64))), .second, .val (.int vf), .val (.int vt), .val .null, .val (.int 2), .unset, .unset] [(.int vt), (.int 2), (.ref ze)])) rfl rfl (hb hby y3_51)
  have z56 := Fr.snoc z1t z4p z2d
  have z57 := z4q.wr z7 z2d
  have z58 := z4r.wr z7 (own_Ix 1 rfl)
  have z59 : Arv Z z2t ze zz .int 16 [(.int t1), (.int t2), (.int vt)] (.int 0) := Arv.set z2r z4y z2s z4z z50 z51 rfl z7 2 (by decide) (by decide : 2 < 3)
  have z2u := ((z3n.other z6 (Or.inl zk)).other z7 (Or.inl zl))
  obtain ⟨z5a, z1u, z5b, z5c⟩ := getF z1t hx hZ hown (host := "") (Or.inl (own_W hw 24 rfl)) Via.refl z54 z2u (g := (mkF m 53 #[.val (.ref z0), .val (.double (Jvm.FP.l2d (vx.toInt64))), .second, .val (.int vf), .val (.int vt), .val .null, .val (.int 2), .unset, .unset] [(.ref z0)])) rfl rfl (hb hby y3_53)
  have z2v : own_AM Z z2t zc zo (.object y_s3) := ((z3o.other z6 (Ne.symm z27)).other z7 (Ne.symm z28))
  obtain ⟨vs258, dv258, z5d, z5e, z79, z5f, z7a, z7b, z7c⟩ := (id z2v)
  have z5g : ¬ ((2 : Int32) < 0 ∨ z5d.slots.size ≤ ((2 : Int32)).toNatClampNeg) := inb_of z5f ⟨by decide, by decide⟩
  obtain ⟨z5h, z5i, z15, z5j, z8, z5k⟩ := stR z1u hx hZ z5b z5e (j := (2 : Int32)) z5g rfl (Or.inl rfl) (g := (mkF m 60 #[.val (.ref z0), .val (.double (Jvm.FP.l2d (vx.toInt64))), .second, .val (.int vf), .val (.int vt), .val .null, .val (.int 2), .unset, .unset] [.null, (.int 2), (.ref zc)])) rfl rfl (hb hby y3_60)
  have z5l := Fr.snoc z15 z56 z2e
  have z5m := z57.wr z8 z2e
  have z5n := z58.wr z8 (own_Ix 2 rfl)
  have z5o : own_AM Z z5i zc zo (.object y_s3) := own_AM.set z2v rfl z8
  have z1v := (((z1a.other z6 (Or.inl zk)).other z7 (Or.inl zl)).other z8 (Or.inl zm))
  obtain ⟨z2w, z16, z5p, z5q⟩ := getF z15 hx hZ hown (host := "") (Or.inl (own_W hw 37 rfl)) Via.refl z5j z1v (g := (mkF m 63 #[.val (.ref z0), .val (.double (Jvm.FP.l2d (vx.toInt64))), .second, .val (.int vf), .val (.int vt), .val .null, .val (.int 2), .unset, .unset] [(.ref z0), (.ref z0)])) rfl rfl (hb hby y3_63)
  have z2x := (((z3p.wr z6).wr z7).wr z8)
  obtain ⟨z2y, z2z, zp, z5r, z9, z5s⟩ := putF z16 hx hZ hown (host := "") (Or.inl (own_W hw 37 rfl)) Via.refl z5p z1v z2x (Or.inl (own_W hw 38 rfl)) (own_W hw 1 rfl) (ty := .int) (by decide) rfl rfl (g := (mkF m 69 #[.val (.ref z0), .val (.double (Jvm.FP.l2d (vx.toInt64))), .second, .val (.int vf), .val (.int vt), .val .null, .val (.int 2), .unset, .unset] [(.int 3), (.ref z0), (.int 2)])) rfl rfl (hb hby y3_69)
  have z5t := Fr.snoc zp z5l z10
  have z30 := z5m.wr z9 z10
  have z5u := z5n.wr z9 (own_Ix 3 rfl)
  have z5v : Fld Z z2z z0 y_s0 "size" "I" (.int 3) := z1v.same z9
  have z1w := ((((z3q.other z6 (Or.inl zk)).other z7 (Or.inl zl)).other z8 (Or.inl zm)).other z9 (Or.inr (slot_ne (Or.inl (own_W hw 11 rfl)) (Or.inl (own_W hw 38 rfl)) (by decide) (t := (.array .double)) (t' := .int) (by decide) (by decide))))
  obtain ⟨zn, za, z1x, z5w⟩ := getF zp hx hZ hown (host := "") (Or.inl (own_W hw 10 rfl)) Via.refl z5r z1w (g := (mkF m 81 #[.val (.ref z0), .val (.double (Jvm.FP.l2d (vx.toInt64))), .second, .val (.int vf), .val (.int vt), .val .null, .val (.int 2), .val (.int 2), .unset] [(.ref z0), (.double (Jvm.FP.l2d (vx.toInt64)))])) rfl rfl (hb hby y3_81)
  have z31 := ((((z3r.other z6 z1d).other z7 z1e).other z8 z1f).other z9 (Ne.symm z1))
  obtain ⟨z32, z1y, z7d, z5x, z7e, z5y, z7f⟩ := (id z31)
  have z33 : ¬ ((0 : Int32) < 0 ∨ z32.slots.size ≤ ((0 : Int32)).toNatClampNeg) := inb_of z5x ⟨by decide, by decide⟩
  have z5z : z32.slots[((0 : Int32)).toNatClampNeg]? = some (.double (Jvm.FP.l2d (x1.toInt64))) := Has.at z5y z33 rfl
  have z34 := ((((z3s.other z6 (Or.inl zk)).other z7 (Or.inl zl)).other z8 (Or.inl zm)).other z9 (Or.inr (slot_ne (Or.inl (own_W hw 14 rfl)) (Or.inl (own_W hw 38 rfl)) (by decide) (t := (.array .long)) (t' := .int) (by decide) (by decide))))
  have z60 := ((((z3t.other z6 z1g).other z7 z1h).other z8 z1i).other z9 (Ne.symm z2))
  have z35 := ((((z1b.other z6 (Or.inl zk)).other z7 (Or.inl zl)).other z8 (Or.inl zm)).other z9 (Or.inr (slot_ne (Or.inl (own_W hw 17 rfl)) (Or.inl (own_W hw 38 rfl)) (by decide) (t := (.array .int)) (t' := .int) (by decide) (by decide))))
  have z61 := ((((z1c.other z6 z1j).other z7 z1k).other z8 z1l).other z9 (Ne.symm z3))
  have z1z := (z2x.wr z9)
  obtain ⟨cq273, z62, q273'⟩ := z1z.cell
  obtain ⟨_, _, ⟨z36, L273, z7g, n273⟩, -, zj, ⟨Lc273, z37, l273, y273, z273⟩, z38⟩ := za.privateBack hx (y := own_m4) hown (mvT hZ (own_W hw 86 rfl)) (mvT hZ (own_W hw 87 rfl)) (own_selpS (y := own_m4) (mvT hZ (own_W hw 35 rfl)) rfl (mvP (args := #[]) hZ (own_W hw 88 rfl)) (mvT hZ (own_W hw 87 rfl)) (by decide)) (Cond.privateMethod_at (mvP hZ (own_W hw 88 rfl) (args := #[]))) (mvT hZ (own_W hw 89 rfl)) (by decide) (backOf (W := 0) (rmM02 l Z a0 hw [] z2z n0 A K x1 x2 x3 c1 c2 c3 s1 s2 s3 z0 z4 zh z5 zq zr zs EN z30 z1w z31 z34 z60 z35 z61 z1z z1 z29 z2 z2a z2b z11 z12 z13) hZ (own_W hw 89 rfl) (own_W hw 2 rfl) (by decide) (by decide)) (g := (mkF m 108 #[.val (.ref z0), .val (.double (Jvm.FP.l2d (vx.toInt64))), .second, .val (.int vf), .val (.int vt), .val .null, .val (.int 2), .val (.int 2), .val (.int 0)] [(.int 2), (.int 0), (.ref z0)])) rfl (by rw [hml]; rfl) (Steps.refl _) (a := z0) (by rw [z1x]; exact z62) q273' (argsL := [(.int 0), (.int 2)]) (rest := []) (lenOf own_pd1 rfl) rfl (by show 2 * 0 + _ ≤ _; exact Nat.le_of_eq rfl) (hb hby y3_108) (fun _ _ => ⟨rfl, z1x, (by decide : 0 + 0 ≤ _), (by decide : 0 + 0 ≤ _)⟩)
  dsimp only [Pt.U, Pt.locs, Pt.cells, Pt.slots] at zj l273 y273 z273 z38 z37
  replace zj := own_sub zj l273 y273 z273
  obtain ⟨rfl, z63, zf, z64, z65, z66⟩ := z37
  have z67 := Fr.app z5t z63
  have z68 := z30.keep zf (allS z13 (allS z12 (allS z11 all0)))
  have z69 := z5u.trans zf (allS (own_Ix 6 rfl) (allS (own_Ix 5 rfl) (allS (own_Ix 4 rfl) all0)))
  have z20 := (((((z3u.other z6 (Or.inl zk)).other z7 (Or.inl zl)).other z8 (Or.inl zm)).other z9 (Or.inr (slot_ne (Or.inl (own_W hw 49 rfl)) (Or.inl (own_W hw 38 rfl)) (by decide) (t := .long) (t' := .int) (by decide) (by decide)))).keep zf (ninS z3 (ninS z2 (ninS z1 nin0))))
  obtain ⟨z21, z17, z6a, z6b⟩ := getF zj hx hZ hown (host := "") (Or.inl (own_W hw 48 rfl)) Via.refl rfl z20 (g := (mkF m 124 #[.val (.ref z0), .val (.double (Jvm.FP.l2d (vx.toInt64))), .second, .val (.int vf), .val (.int vt), .val .null, .val (.int 2), .val (.int 0), .val (.int 0)] [(.ref z0), (.ref z0), (.double (Jvm.FP.l2d (vx.toInt64))), (.int 0), (.ref z0)])) rfl rfl (hb hby y3_124)
  have z39 := (z1z.keep zf)
  obtain ⟨z6c, z3a, z22, z3b, zb, z6d⟩ := putF z17 hx hZ hown (host := "") (Or.inl (own_W hw 48 rfl)) Via.refl z6a z20 z39 (Or.inl (own_W hw 49 rfl)) (own_W hw 1 rfl) (ty := .long) (by decide) rfl rfl (g := (mkF m 130 #[.val (.ref z0), .val (.double (Jvm.FP.l2d (vx.toInt64))), .second, .val (.int vf), .val (.int vt), .val .null, .val (.int 2), .val (.int 0), .val (.int 0)] [(.long (ga + (1 : Int64))), (.ref z0), (.long ga), (.double (Jvm.FP.l2d (vx.toInt64))), (.int 0), (.ref z0)])) rfl rfl (hb hby y3_130)
  have z6e := Fr.snoc z22 z67 z10
  have z3c := z68.wr zb z10
  have z6f := z69.wr zb (own_Ix 3 rfl)
  have z6g : Fld Z z3a z0 y_s0 "additions" "J" (.long (ga + (1 : Int64))) := z20.same zb
  have z3d := ((z1w.keep zf (ninS z3 (ninS z2 (ninS z1 nin0)))).other zb (Or.inr (slot_ne (Or.inl (own_W hw 11 rfl)) (Or.inl (own_W hw 49 rfl)) (by decide) (t := (.array .double)) (t' := .long) (by decide) (by decide))))
  have z6h := (z64.other zb (Ne.symm z1))
  have z3e := ((z34.keep zf (ninS z3 (ninS z2 (ninS z1 nin0)))).other zb (Or.inr (slot_ne (Or.inl (own_W hw 14 rfl)) (Or.inl (own_W hw 49 rfl)) (by decide) (t := (.array .long)) (t' := .long) (by decide) (by decide))))
  have z6i := (z65.other zb (Ne.symm z2))
  have z3f := ((z35.keep zf (ninS z3 (ninS z2 (ninS z1 nin0)))).other zb (Or.inr (slot_ne (Or.inl (own_W hw 17 rfl)) (Or.inl (own_W hw 49 rfl)) (by decide) (t := (.array .int)) (t' := .long) (by decide) (by decide))))
  have z6j := (z66.other zb (Ne.symm z3))
  have z3g := (z39.wr zb)
  obtain ⟨cq284, z6k, q284'⟩ := z3g.cell
  obtain ⟨_, _, ⟨z23, L284, z7h, n284⟩, -, zv, ⟨Lc284, z3h, l284, y284, z284⟩, z3i⟩ := z22.privateBack hx (y := own_m2) hown (mvT hZ (own_W hw 50 rfl)) (mvT hZ (own_W hw 51 rfl)) (own_selpS (y := own_m2) (mvT hZ (own_W hw 35 rfl)) rfl (mvP (args := #[]) hZ (own_W hw 52 rfl)) (mvT hZ (own_W hw 51 rfl)) (by decide)) (Cond.privateMethod_at (mvP hZ (own_W hw 52 rfl) (args := #[]))) (mvT hZ (own_W hw 53 rfl)) (by decide) (backOf (W := 0) (rmP0 l Z a0 hw [] z3a n0 A K x1 x2 x1 c1 c2 c1 s1 s2 s1 vx ga (2 : Int32) z0 z4 zh z5 zq zr zs EN z3c z3d z6h z3e z6i z3f z6j z1 z29 z2 z2a z2b z11 z12 z13) hZ (own_W hw 53 rfl) (own_W hw 2 rfl) (by decide) (by decide)) (g := (mkF m 135 #[.val (.ref z0), .val (.double (Jvm.FP.l2d (vx.toInt64))), .second, .val (.int vf), .val (.int vt), .val .null, .val (.int 2), .val (.int 0), .val (.int 0)] [(.int 2), (.long ga), (.double (Jvm.FP.l2d (vx.toInt64))), (.int 0), (.ref z0)])) rfl (by rw [hml]; rfl) (Steps.refl _) (a := z0) (by rw [z3b]; exact z6k) q284' (argsL := [(.int 0), (.double (Jvm.FP.l2d (vx.toInt64))), (.long ga), (.int 2)]) (rest := []) (lenOf own_pd0 rfl) rfl (by show 2 * 0 + _ ≤ _; exact Nat.le_of_eq rfl) (hb hby y3_135) (fun _ _ => ⟨rfl, z3b, (by decide : 0 + 0 ≤ _), (by decide : 0 + 0 ≤ _)⟩)
  dsimp only [Pt.U, Pt.locs, Pt.cells, Pt.slots] at zv l284 y284 z284 z3i z3h
  replace zv := own_sub zv l284 y284 z284
  obtain ⟨rfl, z6l, zg, z6m, z6n, z6o⟩ := z3h
  have z6p := Fr.app z6e z6l
  have z7i := z3c.keep zg (allS z11 (allS z12 (allS z13 all0)))
  have z6q := z6f.trans zg (allS (own_Ix 4 rfl) (allS (own_Ix 5 rfl) (allS (own_Ix 6 rfl) all0)))
  have z6r := (z3g.keep zg)
  have z6s := (z3d.keep zg (ninS z1 (ninS z2 (ninS z3 nin0))))
  have z6t := (z3e.keep zg (ninS z1 (ninS z2 (ninS z3 nin0))))
  have z6u := (z3f.keep zg (ninS z1 (ninS z2 (ninS z3 nin0))))
  have z6v := (((((((z25.other z6 (Or.inl zk)).other z7 (Or.inl zl)).other z8 (Or.inl zm)).other z9 (Or.inr (slot_ne (Or.inl (own_W hw 19 rfl)) (Or.inl (own_W hw 38 rfl)) (by decide) (t := (.array .int)) (t' := .int) (by decide) (by decide)))).keep zf (ninS z3 (ninS z2 (ninS z1 nin0)))).other zb (Or.inr (slot_ne (Or.inl (own_W hw 19 rfl)) (Or.inl (own_W hw 49 rfl)) (by decide) (t := (.array .int)) (t' := .long) (by decide) (by decide)))).keep zg (ninS z1 (ninS z2 (ninS z3 nin0))))
  have z6w := ((((((z2q.other z7 (Or.inl zl)).other z8 (Or.inl zm)).other z9 (Or.inr (slot_ne (Or.inl (own_W hw 21 rfl)) (Or.inl (own_W hw 38 rfl)) (by decide) (t := (.array .int)) (t' := .int) (by decide) (by decide)))).keep zf (ninS z3 (ninS z2 (ninS z1 nin0)))).other zb (Or.inr (slot_ne (Or.inl (own_W hw 21 rfl)) (Or.inl (own_W hw 49 rfl)) (by decide) (t := (.array .int)) (t' := .long) (by decide) (by decide)))).keep zg (ninS z1 (ninS z2 (ninS z3 nin0))))
  have z6x := (((((z2u.other z8 (Or.inl zm)).other z9 (Or.inr (slot_ne (Or.inl (own_W hw 25 rfl)) (Or.inl (own_W hw 38 rfl)) (by decide) (t := (.array (.object y_s3))) (t' := .int) (by decide) (by decide)))).keep zf (ninS z3 (ninS z2 (ninS z1 nin0)))).other zb (Or.inr (slot_ne (Or.inl (own_W hw 25 rfl)) (Or.inl (own_W hw 49 rfl)) (by decide) (t := (.array (.object y_s3))) (t' := .long) (by decide) (by decide)))).keep zg (ninS z1 (ninS z2 (ninS z3 nin0))))
  have z6y := (((((((z24.other z6 (Or.inl zk)).other z7 (Or.inl zl)).other z8 (Or.inl zm)).other z9 (Or.inr (slot_ne (Or.inl (own_W hw 27 rfl)) (Or.inl (own_W hw 38 rfl)) (by decide) (t := (.array .int)) (t' := .int) (by decide) (by decide)))).keep zf (ninS z3 (ninS z2 (ninS z1 nin0)))).other zb (Or.inr (slot_ne (Or.inl (own_W hw 27 rfl)) (Or.inl (own_W hw 49 rfl)) (by decide) (t := (.array .int)) (t' := .long) (by decide) (by decide)))).keep zg (ninS z1 (ninS z2 (ninS z3 nin0))))
  have z6z := (((z5v.keep zf (ninS z3 (ninS z2 (ninS z1 nin0)))).other zb (Or.inr (slot_ne (Or.inl (own_W hw 38 rfl)) (Or.inl (own_W hw 49 rfl)) (by decide) (t := .int) (t' := .long) (by decide) (by decide)))).keep zg (ninS z1 (ninS z2 (ninS z3 nin0))))
  have z70 := (z6g.keep zg (ninS z1 (ninS z2 (ninS z3 nin0))))
  have z71 := ((((((z4s.other z7 z26).other z8 z27).other z9 (Ne.symm zk)).keep zf (ninS (Ne.symm z1j) (ninS (Ne.symm z1g) (ninS (Ne.symm z1d) nin0)))).other zb (Ne.symm zk)).keep zg (ninS (Ne.symm z1d) (ninS (Ne.symm z1g) (ninS (Ne.symm z1j) nin0))))
  have z72 := (((((z59.other z8 z28).other z9 (Ne.symm zl)).keep zf (ninS (Ne.symm z1k) (ninS (Ne.symm z1h) (ninS (Ne.symm z1e) nin0)))).other zb (Ne.symm zl)).keep zg (ninS (Ne.symm z1e) (ninS (Ne.symm z1h) (ninS (Ne.symm z1k) nin0))))
  have z73 : own_AM Z z23.heap zc zo (.object y_s3) := ((((z5o.other z9 (Ne.symm zm)).keep zf (ninS (Ne.symm z1l) (ninS (Ne.symm z1i) (ninS (Ne.symm z1f) nin0)))).other zb (Ne.symm zm)).keep zg (ninS (Ne.symm z1f) (ninS (Ne.symm z1i) (ninS (Ne.symm z1l) nin0))))
  obtain ⟨fs, hr, hrun, hended, hW, hsame⟩ := zv.leave (v := none) (fun _ => rfl)
  refine ⟨_, _, pre0 _ ?_, hrun, hended, _, _, rfl, ?_, ⟨_, rfl⟩, hW, hsame.mono (by decide) (by decide)⟩
  · show Steps p.tables e below (s₁.setTop (mkF m 0 #[.val (.ref z0), .val (.double (Jvm.FP.l2d (vx.toInt64))), .second, .val (.int vf), .val (.int vt), .val .null, .unset, .unset, .unset] [])) _
    refine XS.aloadN X0.here hx rfl (hb hby y3_0) rfl rfl ?_
    refine z3y _ ?_
    show Steps p.tables e below (z3w.setTop (mkF m 4 #[.val (.ref z0), .val (.double (Jvm.FP.l2d (vx.toInt64))), .second, .val (.int vf), .val (.int vt), .val .null, .unset, .unset, .unset] [(.int 2)])) _
    refine XS.aloadN z2f.here hx rfl (hb hby y3_4) rfl rfl ?_
    refine z3z _ ?_
    show Steps p.tables e below (z1m.setTop (mkF m 8 #[.val (.ref z0), .val (.double (Jvm.FP.l2d (vx.toInt64))), .second, .val (.int vf), .val (.int vt), .val .null, .unset, .unset, .unset] [(.ref z5), (.int 2)])) _
    refine z14.arraylength hx (by rw [z2g]; exact z2h.1) (State.isArrayOf_alike hZ.alike z2h.2.1) (g := (mkF m 8 #[.val (.ref z0), .val (.double (Jvm.FP.l2d (vx.toInt64))), .second, .val (.int vf), .val (.int vt), .val .null, .unset, .unset, .unset] [(.ref z5), (.int 2)])) rfl rfl (hb hby y3_8) _ ?_
    rw [len_of z40 z41]
    show Steps p.tables e below (z1m.setTop (mkF m 9 #[.val (.ref z0), .val (.double (Jvm.FP.l2d (vx.toInt64))), .second, .val (.int vf), .val (.int vt), .val .null, .unset, .unset, .unset] [(.int 16), (.int 2)])) _
    refine XS.icmpYes z14.here hx rfl (pc0 := 9) (pc' := 16) rfl (hb hby y3_9) rfl (feq (by decide : ¬ ((2 : Int32) = (16 : Int32)))).2 (by decide) (by decide) ?_
    show Steps p.tables e below (z1m.setTop (mkF m 16 #[.val (.ref z0), .val (.double (Jvm.FP.l2d (vx.toInt64))), .second, .val (.int vf), .val (.int vt), .val .null, .unset, .unset, .unset] [])) _
    refine XS.aloadN z14.here hx rfl (hb hby y3_16) rfl rfl ?_
    refine z44 _ ?_
    show Steps p.tables e below (z42.setTop (mkF m 20 #[.val (.ref z0), .val (.double (Jvm.FP.l2d (vx.toInt64))), .second, .val (.int vf), .val (.int vt), .val .null, .unset, .unset, .unset] [(.ref zi)])) _
    refine XS.aloadN z2i.here hx rfl (hb hby y3_20) rfl rfl ?_
    refine z45 _ ?_
    show Steps p.tables e below (z1n.setTop (mkF m 24 #[.val (.ref z0), .val (.double (Jvm.FP.l2d (vx.toInt64))), .second, .val (.int vf), .val (.int vt), .val .null, .unset, .unset, .unset] [(.ref z5), (.ref zi)])) _
    refine zt.arraylength hx (by rw [z2j]; exact z2k.1) (State.isArrayOf_alike hZ.alike z2k.2.1) (g := (mkF m 24 #[.val (.ref z0), .val (.double (Jvm.FP.l2d (vx.toInt64))), .second, .val (.int vf), .val (.int vt), .val .null, .unset, .unset, .unset] [(.ref z5), (.ref zi)])) rfl rfl (hb hby y3_24) _ ?_
    rw [len_of z46 z47]
    show Steps p.tables e below (z1n.setTop (mkF m 25 #[.val (.ref z0), .val (.double (Jvm.FP.l2d (vx.toInt64))), .second, .val (.int vf), .val (.int vt), .val .null, .unset, .unset, .unset] [(.int 16), (.ref zi)])) _
    refine XS.iconst zt.here hx rfl (hb hby y3_25) ?_
    refine XS.isub zt.here hx rfl (hb hby y3_26) rfl ?_
    show Steps p.tables e below (z1n.setTop (mkF m 27 #[.val (.ref z0), .val (.double (Jvm.FP.l2d (vx.toInt64))), .second, .val (.int vf), .val (.int vt), .val .null, .unset, .unset, .unset] [(.int 15), (.ref zi)])) _
    refine XS.aloadN zt.here hx rfl (hb hby y3_27) rfl rfl ?_
    refine z48 _ ?_
    show Steps p.tables e below (z1o.setTop (mkF m 31 #[.val (.ref z0), .val (.double (Jvm.FP.l2d (vx.toInt64))), .second, .val (.int vf), .val (.int vt), .val .null, .unset, .unset, .unset] [(.int 2), (.int 15), (.ref zi)])) _
    refine XS.isub zu.here hx rfl (hb hby y3_31) rfl ?_
    show Steps p.tables e below (z1o.setTop (mkF m 32 #[.val (.ref z0), .val (.double (Jvm.FP.l2d (vx.toInt64))), .second, .val (.int vf), .val (.int vt), .val .null, .unset, .unset, .unset] [(.int 13), (.ref zi)])) _
    refine zu.iaload hx (j := (13 : Int32)) (v := (.int 2)) (by rw [z2l]; exact z1p.1) (State.isArrayOf_alike hZ.alike z1p.2.1) z1p.2.2 z2n z4b (g := (mkF m 32 #[.val (.ref z0), .val (.double (Jvm.FP.l2d (vx.toInt64))), .second, .val (.int vf), .val (.int vt), .val .null, .unset, .unset, .unset] [(.int 13), (.ref zi)])) rfl rfl (hb hby y3_32) _ ?_
    show Steps p.tables e below (z1o.setTop (mkF m 33 #[.val (.ref z0), .val (.double (Jvm.FP.l2d (vx.toInt64))), .second, .val (.int vf), .val (.int vt), .val .null, .unset, .unset, .unset] [(.int 2)])) _
    refine XS.istore zu.here hx rfl (hb hby y3_33) rfl (l' := #[.val (.ref z0), .val (.double (Jvm.FP.l2d (vx.toInt64))), .second, .val (.int vf), .val (.int vt), .val .null, .val (.int 2), .unset, .unset]) rfl ?_
    refine XS.aloadN zu.here hx rfl (hb hby y3_35) rfl rfl ?_
    refine z4e _ ?_
    show Steps p.tables e below (z4c.setTop (mkF m 39 #[.val (.ref z0), .val (.double (Jvm.FP.l2d (vx.toInt64))), .second, .val (.int vf), .val (.int vt), .val .null, .val (.int 2), .unset, .unset] [(.ref zd)])) _
    refine XS.iload z1q.here hx rfl (hb hby y3_39) rfl ?_
    refine XS.iloadN z1q.here hx rfl (hb hby y3_41) rfl ?_
    refine z4o _ ?_
    show Steps p.tables e below (z4l.setTop (mkF m 43 #[.val (.ref z0), .val (.double (Jvm.FP.l2d (vx.toInt64))), .second, .val (.int vf), .val (.int vt), .val .null, .val (.int 2), .unset, .unset] [])) _
    refine XS.aloadN z1r.here hx rfl (hb hby y3_43) rfl rfl ?_
    refine z4v _ ?_
    show Steps p.tables e below (z4t.setTop (mkF m 47 #[.val (.ref z0), .val (.double (Jvm.FP.l2d (vx.toInt64))), .second, .val (.int vf), .val (.int vt), .val .null, .val (.int 2), .unset, .unset] [(.ref ze)])) _
    refine XS.iload z1s.here hx rfl (hb hby y3_47) rfl ?_
    refine XS.iload z1s.here hx rfl (hb hby y3_49) rfl ?_
    refine z55 _ ?_
    show Steps p.tables e below (z53.setTop (mkF m 52 #[.val (.ref z0), .val (.double (Jvm.FP.l2d (vx.toInt64))), .second, .val (.int vf), .val (.int vt), .val .null, .val (.int 2), .unset, .unset] [])) _
    refine XS.aloadN z1t.here hx rfl (hb hby y3_52) rfl rfl ?_
    refine z5c _ ?_
    show Steps p.tables e below (z5a.setTop (mkF m 56 #[.val (.ref z0), .val (.double (Jvm.FP.l2d (vx.toInt64))), .second, .val (.int vf), .val (.int vt), .val .null, .val (.int 2), .unset, .unset] [(.ref zc)])) _
    refine XS.iload z1u.here hx rfl (hb hby y3_56) rfl ?_
    refine XS.aload z1u.here hx rfl (hb hby y3_58) rfl rfl ?_
    refine z5k _ ?_
    show Steps p.tables e below (z5h.setTop (mkF m 61 #[.val (.ref z0), .val (.double (Jvm.FP.l2d (vx.toInt64))), .second, .val (.int vf), .val (.int vt), .val .null, .val (.int 2), .unset, .unset] [])) _
    refine XS.aloadN z15.here hx rfl (hb hby y3_61) rfl rfl ?_
    refine XS.dup z15.here hx rfl (hb hby y3_62) rfl rfl ?_
    refine z5q _ ?_
    show Steps p.tables e below (z2w.setTop (mkF m 66 #[.val (.ref z0), .val (.double (Jvm.FP.l2d (vx.toInt64))), .second, .val (.int vf), .val (.int vt), .val .null, .val (.int 2), .unset, .unset] [(.int 2), (.ref z0)])) _
    refine XS.dupX1 z16.here hx rfl (hb hby y3_66) rfl rfl rfl ?_
    refine XS.iconst z16.here hx rfl (hb hby y3_67) ?_
    refine XS.iadd z16.here hx rfl (hb hby y3_68) rfl ?_
    show Steps p.tables e below (z2w.setTop (mkF m 69 #[.val (.ref z0), .val (.double (Jvm.FP.l2d (vx.toInt64))), .second, .val (.int vf), .val (.int vt), .val .null, .val (.int 2), .unset, .unset] [(.int 3), (.ref z0), (.int 2)])) _
    refine z5s _ ?_
    show Steps p.tables e below (z2y.setTop (mkF m 72 #[.val (.ref z0), .val (.double (Jvm.FP.l2d (vx.toInt64))), .second, .val (.int vf), .val (.int vt), .val .null, .val (.int 2), .unset, .unset] [(.int 2)])) _
    refine XS.istore zp.here hx rfl (hb hby y3_72) rfl (l' := #[.val (.ref z0), .val (.double (Jvm.FP.l2d (vx.toInt64))), .second, .val (.int vf), .val (.int vt), .val .null, .val (.int 2), .val (.int 2), .unset]) rfl ?_
    refine XS.iload zp.here hx rfl (hb hby y3_74) rfl ?_
    refine XS.ifNo zp.here hx rfl (hb hby y3_76) rfl ((if0 _ _).trans (tlt (by decide : (0 : Int32) < (2 : Int32))).2.2.2) ?_
    show Steps p.tables e below (z2y.setTop (mkF m 79 #[.val (.ref z0), .val (.double (Jvm.FP.l2d (vx.toInt64))), .second, .val (.int vf), .val (.int vt), .val .null, .val (.int 2), .val (.int 2), .unset] [])) _
    refine XS.dloadN zp.here hx rfl (hb hby y3_79) rfl ?_
    refine XS.aloadN zp.here hx rfl (hb hby y3_80) rfl rfl ?_
    refine z5w _ ?_
    show Steps p.tables e below (zn.setTop (mkF m 84 #[.val (.ref z0), .val (.double (Jvm.FP.l2d (vx.toInt64))), .second, .val (.int vf), .val (.int vt), .val .null, .val (.int 2), .val (.int 2), .unset] [(.ref z4), (.double (Jvm.FP.l2d (vx.toInt64)))])) _
    refine XS.iload za.here hx rfl (hb hby y3_84) rfl ?_
    refine XS.iconst za.here hx rfl (hb hby y3_86) ?_
    refine XS.isub za.here hx rfl (hb hby y3_87) rfl ?_
    show Steps p.tables e below (zn.setTop (mkF m 88 #[.val (.ref z0), .val (.double (Jvm.FP.l2d (vx.toInt64))), .second, .val (.int vf), .val (.int vt), .val .null, .val (.int 2), .val (.int 2), .unset] [(.int 1), (.ref z4), (.double (Jvm.FP.l2d (vx.toInt64)))])) _
    refine XS.iconst za.here hx rfl (hb hby y3_88) ?_
    refine XS.idiv za.here hx rfl (hb hby y3_89) rfl (by decide) ?_
    show Steps p.tables e below (zn.setTop (mkF m 90 #[.val (.ref z0), .val (.double (Jvm.FP.l2d (vx.toInt64))), .second, .val (.int vf), .val (.int vt), .val .null, .val (.int 2), .val (.int 2), .unset] [(.int 0), (.ref z4), (.double (Jvm.FP.l2d (vx.toInt64)))])) _
    refine za.daload hx (j := (0 : Int32)) (v := (.double (Jvm.FP.l2d (x1.toInt64)))) (by rw [z1x]; exact z1y.1) (State.isArrayOf_alike hZ.alike z1y.2.1) z1y.2.2 z33 z5z (g := (mkF m 90 #[.val (.ref z0), .val (.double (Jvm.FP.l2d (vx.toInt64))), .second, .val (.int vf), .val (.int vt), .val .null, .val (.int 2), .val (.int 2), .unset] [(.int 0), (.ref z4), (.double (Jvm.FP.l2d (vx.toInt64)))])) rfl rfl (hb hby y3_90) _ ?_
    show Steps p.tables e below (zn.setTop (mkF m 91 #[.val (.ref z0), .val (.double (Jvm.FP.l2d (vx.toInt64))), .second, .val (.int vf), .val (.int vt), .val .null, .val (.int 2), .val (.int 2), .unset] [(.double (Jvm.FP.l2d (x1.toInt64))), (.double (Jvm.FP.l2d (vx.toInt64)))])) _
    refine XS.dcmpS za.here hx rfl (hb hby y3_91) rfl (dcmpV_w (own_b53 vx) (own_b53 x1) _) ?_
    show Steps p.tables e below (zn.setTop (mkF m 92 #[.val (.ref z0), .val (.double (Jvm.FP.l2d (vx.toInt64))), .second, .val (.int vf), .val (.int vt), .val .null, .val (.int 2), .val (.int 2), .unset] [(.int (lcmpW (vx.toInt64) (x1.toInt64)))])) _
    refine XS.ifNo za.here hx rfl (hb hby y3_92) rfl ((if0 _ _).trans (tlt ((own_llt _ _).mpr hri)).2.1) ?_
    show Steps p.tables e below (zn.setTop (mkF m 95 #[.val (.ref z0), .val (.double (Jvm.FP.l2d (vx.toInt64))), .second, .val (.int vf), .val (.int vt), .val .null, .val (.int 2), .val (.int 2), .unset] [])) _
    refine XS.iload za.here hx rfl (hb hby y3_95) rfl ?_
    refine XS.iconst za.here hx rfl (hb hby y3_97) ?_
    refine XS.isub za.here hx rfl (hb hby y3_98) rfl ?_
    show Steps p.tables e below (zn.setTop (mkF m 99 #[.val (.ref z0), .val (.double (Jvm.FP.l2d (vx.toInt64))), .second, .val (.int vf), .val (.int vt), .val .null, .val (.int 2), .val (.int 2), .unset] [(.int 1)])) _
    refine XS.iconst za.here hx rfl (hb hby y3_99) ?_
    refine XS.idiv za.here hx rfl (hb hby y3_100) rfl (by decide) ?_
    show Steps p.tables e below (zn.setTop (mkF m 101 #[.val (.ref z0), .val (.double (Jvm.FP.l2d (vx.toInt64))), .second, .val (.int vf), .val (.int vt), .val .null, .val (.int 2), .val (.int 2), .unset] [(.int 0)])) _
    refine XS.istore za.here hx rfl (hb hby y3_101) rfl (l' := #[.val (.ref z0), .val (.double (Jvm.FP.l2d (vx.toInt64))), .second, .val (.int vf), .val (.int vt), .val .null, .val (.int 2), .val (.int 2), .val (.int 0)]) rfl ?_
    refine XS.aloadN za.here hx rfl (hb hby y3_103) rfl rfl ?_
    refine XS.iload za.here hx rfl (hb hby y3_104) rfl ?_
    refine XS.iload za.here hx rfl (hb hby y3_106) rfl ?_
    refine z38.trans ?_
    show Steps p.tables e below (z36.setTop (mkF m 111 #[.val (.ref z0), .val (.double (Jvm.FP.l2d (vx.toInt64))), .second, .val (.int vf), .val (.int vt), .val .null, .val (.int 2), .val (.int 2), .val (.int 0)] [])) _
    refine XS.iload zj.here hx rfl (hb hby y3_111) rfl ?_
    refine XS.istore zj.here hx rfl (hb hby y3_113) rfl (l' := #[.val (.ref z0), .val (.double (Jvm.FP.l2d (vx.toInt64))), .second, .val (.int vf), .val (.int vt), .val .null, .val (.int 2), .val (.int 0), .val (.int 0)]) rfl ?_
    refine XS.goto zj.here hx rfl (pc0 := 115) (pc' := 74) rfl (hb hby y3_115) (by decide) (by decide) ?_
    refine XS.iload zj.here hx rfl (hb hby y3_74) rfl ?_
    refine XS.ifYes zj.here hx rfl (pc0 := 76) (pc' := 118) rfl (hb hby y3_76) rfl ((if0 _ _).trans (flt (by decide : ¬ ((0 : Int32) < (0 : Int32)))).2.2.2) (by decide) (by decide) ?_
    show Steps p.tables e below (z36.setTop (mkF m 118 #[.val (.ref z0), .val (.double (Jvm.FP.l2d (vx.toInt64))), .second, .val (.int vf), .val (.int vt), .val .null, .val (.int 2), .val (.int 0), .val (.int 0)] [])) _
    refine XS.aloadN zj.here hx rfl (hb hby y3_118) rfl rfl ?_
    refine XS.iload zj.here hx rfl (hb hby y3_119) rfl ?_
    refine XS.dloadN zj.here hx rfl (hb hby y3_121) rfl ?_
    refine XS.aloadN zj.here hx rfl (hb hby y3_122) rfl rfl ?_
    refine XS.dup zj.here hx rfl (hb hby y3_123) rfl rfl ?_
    refine z6b _ ?_
    show Steps p.tables e below (z21.setTop (mkF m 127 #[.val (.ref z0), .val (.double (Jvm.FP.l2d (vx.toInt64))), .second, .val (.int vf), .val (.int vt), .val .null, .val (.int 2), .val (.int 0), .val (.int 0)] [(.long ga), (.ref z0), (.double (Jvm.FP.l2d (vx.toInt64))), (.int 0), (.ref z0)])) _
    refine own_dup2X1 z17.here hx rfl (hb hby y3_127) rfl ?_
    show Steps p.tables e below (z21.setTop (mkF m 128 #[.val (.ref z0), .val (.double (Jvm.FP.l2d (vx.toInt64))), .second, .val (.int vf), .val (.int vt), .val .null, .val (.int 2), .val (.int 0), .val (.int 0)] [(.long ga), (.ref z0), (.long ga), (.double (Jvm.FP.l2d (vx.toInt64))), (.int 0), (.ref z0)])) _
    refine XS.lconst z17.here hx rfl (hb hby y3_128) ?_
    refine XS.ladd z17.here hx rfl (hb hby y3_129) rfl ?_
    show Steps p.tables e below (z21.setTop (mkF m 130 #[.val (.ref z0), .val (.double (Jvm.FP.l2d (vx.toInt64))), .second, .val (.int vf), .val (.int vt), .val .null, .val (.int 2), .val (.int 0), .val (.int 0)] [(.long (ga + (1 : Int64))), (.ref z0), (.long ga), (.double (Jvm.FP.l2d (vx.toInt64))), (.int 0), (.ref z0)])) _
    refine z6d _ ?_
    show Steps p.tables e below (z6c.setTop (mkF m 133 #[.val (.ref z0), .val (.double (Jvm.FP.l2d (vx.toInt64))), .second, .val (.int vf), .val (.int vt), .val .null, .val (.int 2), .val (.int 0), .val (.int 0)] [(.long ga), (.double (Jvm.FP.l2d (vx.toInt64))), (.int 0), (.ref z0)])) _
    refine XS.iload z22.here hx rfl (hb hby y3_133) rfl ?_
    refine z3i.trans ?_
    show Steps p.tables e below (z23.setTop (mkF m 138 #[.val (.ref z0), .val (.double (Jvm.FP.l2d (vx.toInt64))), .second, .val (.int vf), .val (.int vt), .val .null, .val (.int 2), .val (.int 0), .val (.int 0)] [])) _
    exact zv.returnOut hx Bd.returns (hb hby y3_138) hr
  · show Q_rmA2y Z A K x1 x2 x3 c1 c2 c3 s1 s2 s3 zw zx z18 t1 t2 t3 ga vx vf vt z0 z4 zh z5 zd ze zc zi zq zr zs zy zz zo z19 h0 n0 _ z23.heap _
    exact ⟨rfl, z6p, z6q, z6r, z6s, z6t, z6u, z6v, z6w, z6x, z6y, z6z, z70, z6m, z6n, z6o, z71, z72, z73, z3v⟩
def Q_rmA2n (Z : State) (A : Nat → Addr) (K : Nat → ClassId) (x1 : Int32) (x2 : Int32) (x3 : Int32) (c1 : Int64) (c2 : Int64) (c3 : Int64) (s1 : Int32) (s2 : Int32) (s3 : Int32) (z8 : Int32) (z9 : Int32) (zg : Int32) (t1 : Int32) (t2 : Int32) (t3 : Int32) (ga : Int64) (vx : Int32) (vf : Int32) (vt : Int32) (z0 : Addr) (z1 : Addr) (z2 : Addr) (z3 : Addr) (z4 : Addr) (z5 : Addr) (z6 : Addr) (za : Addr) (zb : ClassId) (zc : ClassId) (zd : ClassId) (ze : ClassId) (zf : ClassId) (z7 : ClassId) (zh : ClassId) (h0 : Heap) (n0 : Nat) (v : Option Value) (h : Heap) (L : List Loc) : Prop := v = none ∧ Fr n0 L ∧ Keep h0 h [z4, z5, z6, z0, z3, z2, z1] ∧ (Exa Z h z0 y_s0) ∧ (Fld Z h z0 y_s0 "at" "[D" (.ref z1)) ∧ (Fld Z h z0 y_s0 "added" "[J" (.ref z2)) ∧ (Fld Z h z0 y_s0 "slot" "[I" (.ref z3)) ∧ (Fld Z h z0 y_s0 "from" "[I" (.ref z4)) ∧ (Fld Z h z0 y_s0 "to" "[I" (.ref z5)) ∧ (Fld Z h z0 y_s0 "message" y_s1 (.ref z6)) ∧ (Fld Z h z0 y_s0 "free" "[I" (.ref za)) ∧ (Fld Z h z0 y_s0 "size" "I" (.int 3)) ∧ (Fld Z h z0 y_s0 "additions" "J" (.long (ga + (1 : Int64)))) ∧ (Arv Z h z1 zb .double (16 : Int32) [(.double (Jvm.FP.l2d (x1.toInt64))), (.double (Jvm.FP.l2d (x2.toInt64))), (.double (Jvm.FP.l2d (vx.toInt64)))] (.double (Jvm.FP.l2d ((0 : Int32).toInt64)))) ∧ (Arv Z h z2 zc .long (16 : Int32) [(.long c1), (.long c2), (.long ga)] (.long 0)) ∧ (Arv Z h z3 zd .int 16 [(.int s1), (.int s2), (.int 2)] (.int 0)) ∧ (Arv Z h z4 ze .int 16 [(.int z8), (.int z9), (.int vf)] (.int 0)) ∧ (Arv Z h z5 zf .int 16 [(.int t1), (.int t2), (.int vt)] (.int 0)) ∧ (own_AM Z h z6 z7 (.object y_s3)) ∧ (Ovr Z z7 y_s3)
set_option maxRecDepth 65536 in
set_option maxHeartbeats 40000000 in
theorem rmA2n (l : Launch) (Z : State) (a0 : Array Value) (hw : ∀ d ∈ tables_1, d.before a0 Z = true) (ws : List Jvm.Cond) (h0 : Heap) (n0 : Nat) (A : Nat → Addr) (K : Nat → ClassId) (x1 : Int32) (x2 : Int32) (x3 : Int32) (c1 : Int64) (c2 : Int64) (c3 : Int64) (s1 : Int32) (s2 : Int32) (s3 : Int32) (zr : Int32) (zs : Int32) (z13 : Int32) (t1 : Int32) (t2 : Int32) (t3 : Int32) (ga : Int64) (vx : Int32) (vf : Int32) (vt : Int32)  (z0 : Addr) (z6 : Addr) (ze : Addr) (z7 : Addr) (z9 : Addr) (za : Addr) (z8 : Addr) (zc : Addr) (zt : ClassId) (zu : ClassId) (zv : ClassId) (zw : ClassId) (zx : ClassId) (zl : ClassId) (z14 : ClassId) (EN : own_St Z A K) (OL0 : Old Z n0 h0) (z15 : Fld Z h0 z0 y_s0 "size" "I" (.int 2)) (z16 : Fld Z h0 z0 y_s0 "slot" "[I" (.ref z7)) (z17 : Arv Z h0 z7 zv .int 16 [(.int s1), (.int s2), (.int s3)] (.int 0)) (z1n : Fld Z h0 z0 y_s0 "free" "[I" (.ref zc)) (z36 : Arv Z h0 zc z14 .int 16 [(.int 15), (.int 14), (.int 13), (.int 12), (.int 11), (.int 10), (.int 9), (.int 8), (.int 7), (.int 6), (.int 5), (.int 4), (.int 3), (.int 2), (.int 1), (.int 0)] (.int 0)) (z1o : Fld Z h0 z0 y_s0 "from" "[I" (.ref z9)) (z37 : Arv Z h0 z9 zw .int 16 [(.int zr), (.int zs), (.int z13)] (.int 0)) (z38 : Fld Z h0 z0 y_s0 "to" "[I" (.ref za)) (z39 : Arv Z h0 za zx .int 16 [(.int t1), (.int t2), (.int t3)] (.int 0)) (z3a : Fld Z h0 z0 y_s0 "message" y_s1 (.ref z8)) (z3b : own_AM Z h0 z8 zl (.object y_s3)) (z3c : Exa Z h0 z0 y_s0) (z3d : Fld Z h0 z0 y_s0 "at" "[D" (.ref z6)) (z3e : Arv Z h0 z6 zt .double (16 : Int32) [(.double (Jvm.FP.l2d (x1.toInt64))), (.double (Jvm.FP.l2d (x2.toInt64))), (.double (Jvm.FP.l2d (x3.toInt64)))] (.double (Jvm.FP.l2d ((0 : Int32).toInt64)))) (z3f : Fld Z h0 z0 y_s0 "additions" "J" (.long ga)) (z3g : Fld Z h0 z0 y_s0 "added" "[J" (.ref ze)) (z3h : Arv Z h0 ze zu .long (16 : Int32) [(.long c1), (.long c2), (.long c3)] (.long 0)) (z3i : Ovr Z zl y_s3) (hri : ¬ (vx < x1)) (zh : z0 ≠ z9) (z1p : z9 ≠ za) (zi : z0 ≠ za) (z1q : z9 ≠ z8) (z1r : za ≠ z8) (zj : z0 ≠ z8) (z1s : z6 ≠ z9) (z1t : z6 ≠ za) (z1u : z6 ≠ z8) (zf : z0 ≠ z6) (z1v : ze ≠ z9) (z1w : ze ≠ za) (z1x : ze ≠ z8) (zg : z0 ≠ ze) (z1y : z7 ≠ z9) (z1z : z7 ≠ za) (z20 : z7 ≠ z8) (zk : z0 ≠ z7) (z3j : z6 ≠ ze) (z3k : z6 ≠ z7) (z3l : ze ≠ z7) (z21 : n0 ≤ z9) (z22 : n0 ≤ za) (z23 : n0 ≤ z8) (zy : n0 ≤ z0) (z24 : n0 ≤ z6) (z25 : n0 ≤ ze) (z26 : n0 ≤ z7) :
    MetFree l own_m3 (head1 (Jvm.Cond.code own_m3 prog_48_method_2_code 9 none :: ws) (Room.mk 2 0 0 32)) (fun a U => a = #[(.ref z0), (.double (Jvm.FP.l2d (vx.toInt64))), (.int vf), (.int vt), .null] ∧ Z.Warmed39 U.vm ∧ U.heap = h0) (fun _ _ _ _ _ => True) (fun _ U o U' => ∃ v L, o = .returned v ∧ Q_rmA2n Z A K x1 x2 x3 c1 c2 c3 s1 s2 s3 zr zs z13 t1 t2 t3 ga vx vf vt z0 z6 ze z7 z9 za z8 zc zt zu zv zw zx zl z14 h0 n0 v U'.heap L ∧ FrameEnd U o U' L (Room.mk 2 0 0 32).cells (Room.mk 2 0 0 32).slots) := by
  refine MetFree.of_bodySF (plainFor_of_name own_pn0) hisR ?_
  intro p e s m args below meth c s₁ Bd hml0 hP hK
  obtain ⟨rfl, hZ, hh⟩ := hP
  have hx := Bd.exec
  have hby := Bd.bytes
  have hml : c.maxLocals = 9 := hml0
  have hown : s.vm.findClass y_s0 = some m.cls := findClass_of_methodNamed Bd.named
  have hnm := (name_of_methodNamed Bd.named Bd.method).1
  have X0 : Stand p l e (Room.mk 2 0 0 32) s m #[(.ref z0), (.double (Jvm.FP.l2d (vx.toInt64))), (.int vf), (.int vt), .null] below meth c s₁ [] 0 0 := Stand.of_body Bd
  have e0 : s₁.heap = h0 := by rw [← hh, Bd.state]; rfl
  have N0 := Fr.nil n0
  have pre0 : ∀ t, Steps p.tables e below (s₁.setTop (mkF m 0 #[.val (.ref z0), .val (.double (Jvm.FP.l2d (vx.toInt64))), .second, .val (.int vf), .val (.int vt), .val .null, .unset, .unset, .unset] [])) t → Steps p.tables e below (s₁.setTop (entryFrame m #[(.ref z0), (.double (Jvm.FP.l2d (vx.toInt64))), (.int vf), (.int vt), .null] 9)) t := fun t k => castTop (by first | (simp [entryFrame, mkF, argsToLocals, Value.category, maxLocals]; done) | rfl) k
  have KK0 : Keep h0 h0 [z9, za, z8, z0, z7, ze, z6] := Keep.refl _ _
  obtain ⟨z3m, z27, z3n, z3o⟩ := getF X0 hx hZ hown (host := "") (Or.inl (own_W hw 37 rfl)) Via.refl e0 z15 (g := (mkF m 1 #[.val (.ref z0), .val (.double (Jvm.FP.l2d (vx.toInt64))), .second, .val (.int vf), .val (.int vt), .val .null, .unset, .unset, .unset] [(.ref z0)])) rfl rfl (hb hby y3_1)
  obtain ⟨z18, zz, z28, z3p⟩ := getF z27 hx hZ hown (host := "") (Or.inl (own_W hw 16 rfl)) Via.refl z3n z16 (g := (mkF m 5 #[.val (.ref z0), .val (.double (Jvm.FP.l2d (vx.toInt64))), .second, .val (.int vf), .val (.int vt), .val .null, .unset, .unset, .unset] [(.ref z0), (.int 2)])) rfl rfl (hb hby y3_5)
  obtain ⟨z6m, z29, -, z3q, z3r, -, -⟩ := (id z17)
  obtain ⟨z3s, z2a, z3t, z3u⟩ := getF zz hx hZ hown (host := "") (Or.inl (own_W hw 26 rfl)) Via.refl z28 z1n (g := (mkF m 17 #[.val (.ref z0), .val (.double (Jvm.FP.l2d (vx.toInt64))), .second, .val (.int vf), .val (.int vt), .val .null, .unset, .unset, .unset] [(.ref z0)])) rfl rfl (hb hby y3_17)
  obtain ⟨z19, zo, z2b, z3v⟩ := getF z2a hx hZ hown (host := "") (Or.inl (own_W hw 16 rfl)) Via.refl z3t z16 (g := (mkF m 21 #[.val (.ref z0), .val (.double (Jvm.FP.l2d (vx.toInt64))), .second, .val (.int vf), .val (.int vt), .val .null, .unset, .unset, .unset] [(.ref z0), (.ref zc)])) rfl rfl (hb hby y3_21)
  obtain ⟨z6n, z2c, -, z3w, z3x, -, -⟩ := (id z17)
  obtain ⟨z1a, zp, z2d, z3y⟩ := getF zo hx hZ hown (host := "") (Or.inl (own_W hw 37 rfl)) Via.refl z2b z15 (g := (mkF m 28 #[.val (.ref z0), .val (.double (Jvm.FP.l2d (vx.toInt64))), .second, .val (.int vf), .val (.int vt), .val .null, .unset, .unset, .unset] [(.ref z0), (.int 15), (.ref zc)])) rfl rfl (hb hby y3_28)
  obtain ⟨z2e, z1b, z6o, z3z, z6p, z40, z6q⟩ := (id z36)
  have z2f : ¬ ((13 : Int32) < 0 ∨ z2e.slots.size ≤ ((13 : Int32)).toNatClampNeg) := inb_of z3z ⟨by decide, by decide⟩
  have z41 : z2e.slots[((13 : Int32)).toNatClampNeg]? = some (.int 2) := Has.at z40 z2f rfl
  obtain ⟨z42, z1c, z43, z44⟩ := getF zp hx hZ hown (host := "") (Or.inl (own_W hw 18 rfl)) Via.refl z2d z1o (g := (mkF m 36 #[.val (.ref z0), .val (.double (Jvm.FP.l2d (vx.toInt64))), .second, .val (.int vf), .val (.int vt), .val .null, .val (.int 2), .unset, .unset] [(.ref z0)])) rfl rfl (hb hby y3_36)
  obtain ⟨z45, z2g, z46, z2h, z47, z48, z49⟩ := (id z37)
  have z4a : ¬ ((2 : Int32) < 0 ∨ z45.slots.size ≤ ((2 : Int32)).toNatClampNeg) := inb_of z2h ⟨by decide, by decide⟩
  obtain ⟨z4b, z4c, z1d, z4d, z1, z4e⟩ := stI z1c hx hZ z43 z2g (j := (2 : Int32)) z4a (g := (mkF m 42 #[.val (.ref z0), .val (.double (Jvm.FP.l2d (vx.toInt64))), .second, .val (.int vf), .val (.int vt), .val .null, .val (.int 2), .unset, .unset] [(.int vf), (.int 2), (.ref z9)])) rfl rfl (hb hby y3_42)
  have z4f := Fr.snoc z1d N0 z21
  have z4g := OL0.wr z1 z21
  have z4h := KK0.wr z1 (own_Ix 0 rfl)
  have z4i : Arv Z z4c z9 zw .int 16 [(.int zr), (.int zs), (.int vf)] (.int 0) := Arv.set z2g z46 z2h z47 z48 z49 rfl z1 2 (by decide) (by decide : 2 < 3)
  have z2i := (z38.other z1 (Or.inl zh))
  obtain ⟨z4j, z1e, z4k, z4l⟩ := getF z1d hx hZ hown (host := "") (Or.inl (own_W hw 20 rfl)) Via.refl z4d z2i (g := (mkF m 44 #[.val (.ref z0), .val (.double (Jvm.FP.l2d (vx.toInt64))), .second, .val (.int vf), .val (.int vt), .val .null, .val (.int 2), .unset, .unset] [(.ref z0)])) rfl rfl (hb hby y3_44)
  have z4m := (z39.other z1 (Ne.symm z1p))
  obtain ⟨z4n, z2j, z4o, z2k, z4p, z4q, z4r⟩ := (id z4m)
  have z4s : ¬ ((2 : Int32) < 0 ∨ z4n.slots.size ≤ ((2 : Int32)).toNatClampNeg) := inb_of z2k ⟨by decide, by decide⟩
  obtain ⟨z4t, z2l, z1f, z4u, z2, z4v⟩ := stI z1e hx hZ z4k z2j (j := (2 : Int32)) z4s (g := (mkF m 51 #[.val (.ref z0), .val (.double (Jvm.FP.l2d (vx.toInt64))), .second, .val (.int vf), .val (.int vt), .val .null, .val (.int 2), .unset, .unset] [(.int vt), (.int 2), (.ref za)])) rfl rfl (hb hby y3_51)
  have z4w := Fr.snoc z1f z4f z22
  have z4x := z4g.wr z2 z22
  have z4y := z4h.wr z2 (own_Ix 1 rfl)
  have z4z : Arv Z z2l za zx .int 16 [(.int t1), (.int t2), (.int vt)] (.int 0) := Arv.set z2j z4o z2k z4p z4q z4r rfl z2 2 (by decide) (by decide : 2 < 3)
  have z2m := ((z3a.other z1 (Or.inl zh)).other z2 (Or.inl zi))
  obtain ⟨z50, z1g, z51, z52⟩ := getF z1f hx hZ hown (host := "") (Or.inl (own_W hw 24 rfl)) Via.refl z4u z2m (g := (mkF m 53 #[.val (.ref z0), .val (.double (Jvm.FP.l2d (vx.toInt64))), .second, .val (.int vf), .val (.int vt), .val .null, .val (.int 2), .unset, .unset] [(.ref z0)])) rfl rfl (hb hby y3_53)
  have z2n : own_AM Z z2l z8 zl (.object y_s3) := ((z3b.other z1 (Ne.symm z1q)).other z2 (Ne.symm z1r))
  obtain ⟨vs318, dv318, z53, z54, z6r, z55, z6s, z6t, z6u⟩ := (id z2n)
  have z56 : ¬ ((2 : Int32) < 0 ∨ z53.slots.size ≤ ((2 : Int32)).toNatClampNeg) := inb_of z55 ⟨by decide, by decide⟩
  obtain ⟨z57, z58, z10, z59, z3, z5a⟩ := stR z1g hx hZ z51 z54 (j := (2 : Int32)) z56 rfl (Or.inl rfl) (g := (mkF m 60 #[.val (.ref z0), .val (.double (Jvm.FP.l2d (vx.toInt64))), .second, .val (.int vf), .val (.int vt), .val .null, .val (.int 2), .unset, .unset] [.null, (.int 2), (.ref z8)])) rfl rfl (hb hby y3_60)
  have z5b := Fr.snoc z10 z4w z23
  have z5c := z4x.wr z3 z23
  have z5d := z4y.wr z3 (own_Ix 2 rfl)
  have z5e : own_AM Z z58 z8 zl (.object y_s3) := own_AM.set z2n rfl z3
  have z1h := (((z15.other z1 (Or.inl zh)).other z2 (Or.inl zi)).other z3 (Or.inl zj))
  obtain ⟨z2o, z11, z5f, z5g⟩ := getF z10 hx hZ hown (host := "") (Or.inl (own_W hw 37 rfl)) Via.refl z59 z1h (g := (mkF m 63 #[.val (.ref z0), .val (.double (Jvm.FP.l2d (vx.toInt64))), .second, .val (.int vf), .val (.int vt), .val .null, .val (.int 2), .unset, .unset] [(.ref z0), (.ref z0)])) rfl rfl (hb hby y3_63)
  have z2p := (((z3c.wr z1).wr z2).wr z3)
  obtain ⟨z2q, z5h, zm, z5i, z4, z5j⟩ := putF z11 hx hZ hown (host := "") (Or.inl (own_W hw 37 rfl)) Via.refl z5f z1h z2p (Or.inl (own_W hw 38 rfl)) (own_W hw 1 rfl) (ty := .int) (by decide) rfl rfl (g := (mkF m 69 #[.val (.ref z0), .val (.double (Jvm.FP.l2d (vx.toInt64))), .second, .val (.int vf), .val (.int vt), .val .null, .val (.int 2), .unset, .unset] [(.int 3), (.ref z0), (.int 2)])) rfl rfl (hb hby y3_69)
  have z5k := Fr.snoc zm z5b zy
  have z5l := z5c.wr z4 zy
  have z5m := z5d.wr z4 (own_Ix 3 rfl)
  have z5n : Fld Z z5h z0 y_s0 "size" "I" (.int 3) := z1h.same z4
  have z2r := ((((z3d.other z1 (Or.inl zh)).other z2 (Or.inl zi)).other z3 (Or.inl zj)).other z4 (Or.inr (slot_ne (Or.inl (own_W hw 11 rfl)) (Or.inl (own_W hw 38 rfl)) (by decide) (t := (.array .double)) (t' := .int) (by decide) (by decide))))
  obtain ⟨zn, zd, z2s, z5o⟩ := getF zm hx hZ hown (host := "") (Or.inl (own_W hw 10 rfl)) Via.refl z5i z2r (g := (mkF m 81 #[.val (.ref z0), .val (.double (Jvm.FP.l2d (vx.toInt64))), .second, .val (.int vf), .val (.int vt), .val .null, .val (.int 2), .val (.int 2), .unset] [(.ref z0), (.double (Jvm.FP.l2d (vx.toInt64)))])) rfl rfl (hb hby y3_81)
  have z2t := ((((z3e.other z1 z1s).other z2 z1t).other z3 z1u).other z4 (Ne.symm zf))
  obtain ⟨z2u, z1i, z6v, z5p, z6w, z5q, z6x⟩ := (id z2t)
  have z2v : ¬ ((0 : Int32) < 0 ∨ z2u.slots.size ≤ ((0 : Int32)).toNatClampNeg) := inb_of z5p ⟨by decide, by decide⟩
  have z5r : z2u.slots[((0 : Int32)).toNatClampNeg]? = some (.double (Jvm.FP.l2d (x1.toInt64))) := Has.at z5q z2v rfl
  have z1j := ((((z3f.other z1 (Or.inl zh)).other z2 (Or.inl zi)).other z3 (Or.inl zj)).other z4 (Or.inr (slot_ne (Or.inl (own_W hw 49 rfl)) (Or.inl (own_W hw 38 rfl)) (by decide) (t := .long) (t' := .int) (by decide) (by decide))))
  obtain ⟨z1k, z12, z5s, z5t⟩ := getF zd hx hZ hown (host := "") (Or.inl (own_W hw 48 rfl)) Via.refl z2s z1j (g := (mkF m 124 #[.val (.ref z0), .val (.double (Jvm.FP.l2d (vx.toInt64))), .second, .val (.int vf), .val (.int vt), .val .null, .val (.int 2), .val (.int 2), .unset] [(.ref z0), (.ref z0), (.double (Jvm.FP.l2d (vx.toInt64))), (.int 2), (.ref z0)])) rfl rfl (hb hby y3_124)
  have z2w := (z2p.wr z4)
  obtain ⟨z5u, z2x, z1l, z2y, z5, z5v⟩ := putF z12 hx hZ hown (host := "") (Or.inl (own_W hw 48 rfl)) Via.refl z5s z1j z2w (Or.inl (own_W hw 49 rfl)) (own_W hw 1 rfl) (ty := .long) (by decide) rfl rfl (g := (mkF m 130 #[.val (.ref z0), .val (.double (Jvm.FP.l2d (vx.toInt64))), .second, .val (.int vf), .val (.int vt), .val .null, .val (.int 2), .val (.int 2), .unset] [(.long (ga + (1 : Int64))), (.ref z0), (.long ga), (.double (Jvm.FP.l2d (vx.toInt64))), (.int 2), (.ref z0)])) rfl rfl (hb hby y3_130)
  have z5w := Fr.snoc z1l z5k zy
  have z2z := z5l.wr z5 zy
  have z5x := z5m.wr z5 (own_Ix 3 rfl)
  have z5y : Fld Z z2x z0 y_s0 "additions" "J" (.long (ga + (1 : Int64))) := z1j.same z5
  have z30 := (z2r.other z5 (Or.inr (slot_ne (Or.inl (own_W hw 11 rfl)) (Or.inl (own_W hw 49 rfl)) (by decide) (t := (.array .double)) (t' := .long) (by decide) (by decide))))
  have z5z := (z2t.other z5 (Ne.symm zf))
  have z31 := (((((z3g.other z1 (Or.inl zh)).other z2 (Or.inl zi)).other z3 (Or.inl zj)).other z4 (Or.inr (slot_ne (Or.inl (own_W hw 14 rfl)) (Or.inl (own_W hw 38 rfl)) (by decide) (t := (.array .long)) (t' := .int) (by decide) (by decide)))).other z5 (Or.inr (slot_ne (Or.inl (own_W hw 14 rfl)) (Or.inl (own_W hw 49 rfl)) (by decide) (t := (.array .long)) (t' := .long) (by decide) (by decide))))
  have z60 := (((((z3h.other z1 z1v).other z2 z1w).other z3 z1x).other z4 (Ne.symm zg)).other z5 (Ne.symm zg))
  have z32 := (((((z16.other z1 (Or.inl zh)).other z2 (Or.inl zi)).other z3 (Or.inl zj)).other z4 (Or.inr (slot_ne (Or.inl (own_W hw 17 rfl)) (Or.inl (own_W hw 38 rfl)) (by decide) (t := (.array .int)) (t' := .int) (by decide) (by decide)))).other z5 (Or.inr (slot_ne (Or.inl (own_W hw 17 rfl)) (Or.inl (own_W hw 49 rfl)) (by decide) (t := (.array .int)) (t' := .long) (by decide) (by decide))))
  have z61 := (((((z17.other z1 z1y).other z2 z1z).other z3 z20).other z4 (Ne.symm zk)).other z5 (Ne.symm zk))
  have z33 := (z2w.wr z5)
  obtain ⟨cq338, z62, q338'⟩ := z33.cell
  obtain ⟨_, _, ⟨z1m, L338, z6y, n338⟩, -, zq, ⟨Lc338, z34, l338, y338, z338⟩, z35⟩ := z1l.privateBack hx (y := own_m2) hown (mvT hZ (own_W hw 50 rfl)) (mvT hZ (own_W hw 51 rfl)) (own_selpS (y := own_m2) (mvT hZ (own_W hw 35 rfl)) rfl (mvP (args := #[]) hZ (own_W hw 52 rfl)) (mvT hZ (own_W hw 51 rfl)) (by decide)) (Cond.privateMethod_at (mvP hZ (own_W hw 52 rfl) (args := #[]))) (mvT hZ (own_W hw 53 rfl)) (by decide) (backOf (W := 0) (rmP2 l Z a0 hw [] z2x n0 A K x1 x2 x3 c1 c2 c3 s1 s2 s3 vx ga (2 : Int32) z0 z6 ze z7 zt zu zv EN z2z z30 z5z z31 z60 z32 z61 zf z3j zg z3k z3l z24 z25 z26) hZ (own_W hw 53 rfl) (own_W hw 2 rfl) (by decide) (by decide)) (g := (mkF m 135 #[.val (.ref z0), .val (.double (Jvm.FP.l2d (vx.toInt64))), .second, .val (.int vf), .val (.int vt), .val .null, .val (.int 2), .val (.int 2), .unset] [(.int 2), (.long ga), (.double (Jvm.FP.l2d (vx.toInt64))), (.int 2), (.ref z0)])) rfl (by rw [hml]; rfl) (Steps.refl _) (a := z0) (by rw [z2y]; exact z62) q338' (argsL := [(.int 2), (.double (Jvm.FP.l2d (vx.toInt64))), (.long ga), (.int 2)]) (rest := []) (lenOf own_pd0 rfl) rfl (by show 2 * 0 + _ ≤ _; exact Nat.le_of_eq rfl) (hb hby y3_135) (fun _ _ => ⟨rfl, z2y, (by decide : 0 + 0 ≤ _), (by decide : 0 + 0 ≤ _)⟩)
  dsimp only [Pt.U, Pt.locs, Pt.cells, Pt.slots] at zq l338 y338 z338 z35 z34
  replace zq := own_sub zq l338 y338 z338
  obtain ⟨rfl, z63, zb, z64, z65, z66⟩ := z34
  have z67 := Fr.app z5w z63
  have z6z := z2z.keep zb (allS z24 (allS z25 (allS z26 all0)))
  have z68 := z5x.trans zb (allS (own_Ix 6 rfl) (allS (own_Ix 5 rfl) (allS (own_Ix 4 rfl) all0)))
  have z69 := (z33.keep zb)
  have z6a := (z30.keep zb (ninS zf (ninS zg (ninS zk nin0))))
  have z6b := (z31.keep zb (ninS zf (ninS zg (ninS zk nin0))))
  have z6c := (z32.keep zb (ninS zf (ninS zg (ninS zk nin0))))
  have z6d := ((((((z1o.other z1 (Or.inl zh)).other z2 (Or.inl zi)).other z3 (Or.inl zj)).other z4 (Or.inr (slot_ne (Or.inl (own_W hw 19 rfl)) (Or.inl (own_W hw 38 rfl)) (by decide) (t := (.array .int)) (t' := .int) (by decide) (by decide)))).other z5 (Or.inr (slot_ne (Or.inl (own_W hw 19 rfl)) (Or.inl (own_W hw 49 rfl)) (by decide) (t := (.array .int)) (t' := .long) (by decide) (by decide)))).keep zb (ninS zf (ninS zg (ninS zk nin0))))
  have z6e := (((((z2i.other z2 (Or.inl zi)).other z3 (Or.inl zj)).other z4 (Or.inr (slot_ne (Or.inl (own_W hw 21 rfl)) (Or.inl (own_W hw 38 rfl)) (by decide) (t := (.array .int)) (t' := .int) (by decide) (by decide)))).other z5 (Or.inr (slot_ne (Or.inl (own_W hw 21 rfl)) (Or.inl (own_W hw 49 rfl)) (by decide) (t := (.array .int)) (t' := .long) (by decide) (by decide)))).keep zb (ninS zf (ninS zg (ninS zk nin0))))
  have z6f := ((((z2m.other z3 (Or.inl zj)).other z4 (Or.inr (slot_ne (Or.inl (own_W hw 25 rfl)) (Or.inl (own_W hw 38 rfl)) (by decide) (t := (.array (.object y_s3))) (t' := .int) (by decide) (by decide)))).other z5 (Or.inr (slot_ne (Or.inl (own_W hw 25 rfl)) (Or.inl (own_W hw 49 rfl)) (by decide) (t := (.array (.object y_s3))) (t' := .long) (by decide) (by decide)))).keep zb (ninS zf (ninS zg (ninS zk nin0))))
  have z6g := ((((((z1n.other z1 (Or.inl zh)).other z2 (Or.inl zi)).other z3 (Or.inl zj)).other z4 (Or.inr (slot_ne (Or.inl (own_W hw 27 rfl)) (Or.inl (own_W hw 38 rfl)) (by decide) (t := (.array .int)) (t' := .int) (by decide) (by decide)))).other z5 (Or.inr (slot_ne (Or.inl (own_W hw 27 rfl)) (Or.inl (own_W hw 49 rfl)) (by decide) (t := (.array .int)) (t' := .long) (by decide) (by decide)))).keep zb (ninS zf (ninS zg (ninS zk nin0))))
  have z6h := ((z5n.other z5 (Or.inr (slot_ne (Or.inl (own_W hw 38 rfl)) (Or.inl (own_W hw 49 rfl)) (by decide) (t := .int) (t' := .long) (by decide) (by decide)))).keep zb (ninS zf (ninS zg (ninS zk nin0))))
  have z6i := (z5y.keep zb (ninS zf (ninS zg (ninS zk nin0))))
  have z6j := (((((z4i.other z2 z1p).other z3 z1q).other z4 (Ne.symm zh)).other z5 (Ne.symm zh)).keep zb (ninS (Ne.symm z1s) (ninS (Ne.symm z1v) (ninS (Ne.symm z1y) nin0))))
  have z6k := ((((z4z.other z3 z1r).other z4 (Ne.symm zi)).other z5 (Ne.symm zi)).keep zb (ninS (Ne.symm z1t) (ninS (Ne.symm z1w) (ninS (Ne.symm z1z) nin0))))
  have z6l : own_AM Z z1m.heap z8 zl (.object y_s3) := (((z5e.other z4 (Ne.symm zj)).other z5 (Ne.symm zj)).keep zb (ninS (Ne.symm z1u) (ninS (Ne.symm z1x) (ninS (Ne.symm z20) nin0))))
  obtain ⟨fs, hr, hrun, hended, hW, hsame⟩ := zq.leave (v := none) (fun _ => rfl)
  refine ⟨_, _, pre0 _ ?_, hrun, hended, _, _, rfl, ?_, ⟨_, rfl⟩, hW, hsame.mono (by decide) (by decide)⟩
  · show Steps p.tables e below (s₁.setTop (mkF m 0 #[.val (.ref z0), .val (.double (Jvm.FP.l2d (vx.toInt64))), .second, .val (.int vf), .val (.int vt), .val .null, .unset, .unset, .unset] [])) _
    refine XS.aloadN X0.here hx rfl (hb hby y3_0) rfl rfl ?_
    refine z3o _ ?_
    show Steps p.tables e below (z3m.setTop (mkF m 4 #[.val (.ref z0), .val (.double (Jvm.FP.l2d (vx.toInt64))), .second, .val (.int vf), .val (.int vt), .val .null, .unset, .unset, .unset] [(.int 2)])) _
    refine XS.aloadN z27.here hx rfl (hb hby y3_4) rfl rfl ?_
    refine z3p _ ?_
    show Steps p.tables e below (z18.setTop (mkF m 8 #[.val (.ref z0), .val (.double (Jvm.FP.l2d (vx.toInt64))), .second, .val (.int vf), .val (.int vt), .val .null, .unset, .unset, .unset] [(.ref z7), (.int 2)])) _
    refine zz.arraylength hx (by rw [z28]; exact z29.1) (State.isArrayOf_alike hZ.alike z29.2.1) (g := (mkF m 8 #[.val (.ref z0), .val (.double (Jvm.FP.l2d (vx.toInt64))), .second, .val (.int vf), .val (.int vt), .val .null, .unset, .unset, .unset] [(.ref z7), (.int 2)])) rfl rfl (hb hby y3_8) _ ?_
    rw [len_of z3q z3r]
    show Steps p.tables e below (z18.setTop (mkF m 9 #[.val (.ref z0), .val (.double (Jvm.FP.l2d (vx.toInt64))), .second, .val (.int vf), .val (.int vt), .val .null, .unset, .unset, .unset] [(.int 16), (.int 2)])) _
    refine XS.icmpYes zz.here hx rfl (pc0 := 9) (pc' := 16) rfl (hb hby y3_9) rfl (feq (by decide : ¬ ((2 : Int32) = (16 : Int32)))).2 (by decide) (by decide) ?_
    show Steps p.tables e below (z18.setTop (mkF m 16 #[.val (.ref z0), .val (.double (Jvm.FP.l2d (vx.toInt64))), .second, .val (.int vf), .val (.int vt), .val .null, .unset, .unset, .unset] [])) _
    refine XS.aloadN zz.here hx rfl (hb hby y3_16) rfl rfl ?_
    refine z3u _ ?_
    show Steps p.tables e below (z3s.setTop (mkF m 20 #[.val (.ref z0), .val (.double (Jvm.FP.l2d (vx.toInt64))), .second, .val (.int vf), .val (.int vt), .val .null, .unset, .unset, .unset] [(.ref zc)])) _
    refine XS.aloadN z2a.here hx rfl (hb hby y3_20) rfl rfl ?_
    refine z3v _ ?_
    show Steps p.tables e below (z19.setTop (mkF m 24 #[.val (.ref z0), .val (.double (Jvm.FP.l2d (vx.toInt64))), .second, .val (.int vf), .val (.int vt), .val .null, .unset, .unset, .unset] [(.ref z7), (.ref zc)])) _
    refine zo.arraylength hx (by rw [z2b]; exact z2c.1) (State.isArrayOf_alike hZ.alike z2c.2.1) (g := (mkF m 24 #[.val (.ref z0), .val (.double (Jvm.FP.l2d (vx.toInt64))), .second, .val (.int vf), .val (.int vt), .val .null, .unset, .unset, .unset] [(.ref z7), (.ref zc)])) rfl rfl (hb hby y3_24) _ ?_
    rw [len_of z3w z3x]
    show Steps p.tables e below (z19.setTop (mkF m 25 #[.val (.ref z0), .val (.double (Jvm.FP.l2d (vx.toInt64))), .second, .val (.int vf), .val (.int vt), .val .null, .unset, .unset, .unset] [(.int 16), (.ref zc)])) _
    refine XS.iconst zo.here hx rfl (hb hby y3_25) ?_
    refine XS.isub zo.here hx rfl (hb hby y3_26) rfl ?_
    show Steps p.tables e below (z19.setTop (mkF m 27 #[.val (.ref z0), .val (.double (Jvm.FP.l2d (vx.toInt64))), .second, .val (.int vf), .val (.int vt), .val .null, .unset, .unset, .unset] [(.int 15), (.ref zc)])) _
    refine XS.aloadN zo.here hx rfl (hb hby y3_27) rfl rfl ?_
    refine z3y _ ?_
    show Steps p.tables e below (z1a.setTop (mkF m 31 #[.val (.ref z0), .val (.double (Jvm.FP.l2d (vx.toInt64))), .second, .val (.int vf), .val (.int vt), .val .null, .unset, .unset, .unset] [(.int 2), (.int 15), (.ref zc)])) _
    refine XS.isub zp.here hx rfl (hb hby y3_31) rfl ?_
    show Steps p.tables e below (z1a.setTop (mkF m 32 #[.val (.ref z0), .val (.double (Jvm.FP.l2d (vx.toInt64))), .second, .val (.int vf), .val (.int vt), .val .null, .unset, .unset, .unset] [(.int 13), (.ref zc)])) _
    refine zp.iaload hx (j := (13 : Int32)) (v := (.int 2)) (by rw [z2d]; exact z1b.1) (State.isArrayOf_alike hZ.alike z1b.2.1) z1b.2.2 z2f z41 (g := (mkF m 32 #[.val (.ref z0), .val (.double (Jvm.FP.l2d (vx.toInt64))), .second, .val (.int vf), .val (.int vt), .val .null, .unset, .unset, .unset] [(.int 13), (.ref zc)])) rfl rfl (hb hby y3_32) _ ?_
    show Steps p.tables e below (z1a.setTop (mkF m 33 #[.val (.ref z0), .val (.double (Jvm.FP.l2d (vx.toInt64))), .second, .val (.int vf), .val (.int vt), .val .null, .unset, .unset, .unset] [(.int 2)])) _
    refine XS.istore zp.here hx rfl (hb hby y3_33) rfl (l' := #[.val (.ref z0), .val (.double (Jvm.FP.l2d (vx.toInt64))), .second, .val (.int vf), .val (.int vt), .val .null, .val (.int 2), .unset, .unset]) rfl ?_
    refine XS.aloadN zp.here hx rfl (hb hby y3_35) rfl rfl ?_
    refine z44 _ ?_
    show Steps p.tables e below (z42.setTop (mkF m 39 #[.val (.ref z0), .val (.double (Jvm.FP.l2d (vx.toInt64))), .second, .val (.int vf), .val (.int vt), .val .null, .val (.int 2), .unset, .unset] [(.ref z9)])) _
    refine XS.iload z1c.here hx rfl (hb hby y3_39) rfl ?_
    refine XS.iloadN z1c.here hx rfl (hb hby y3_41) rfl ?_
    refine z4e _ ?_
    show Steps p.tables e below (z4b.setTop (mkF m 43 #[.val (.ref z0), .val (.double (Jvm.FP.l2d (vx.toInt64))), .second, .val (.int vf), .val (.int vt), .val .null, .val (.int 2), .unset, .unset] [])) _
    refine XS.aloadN z1d.here hx rfl (hb hby y3_43) rfl rfl ?_
    refine z4l _ ?_
    show Steps p.tables e below (z4j.setTop (mkF m 47 #[.val (.ref z0), .val (.double (Jvm.FP.l2d (vx.toInt64))), .second, .val (.int vf), .val (.int vt), .val .null, .val (.int 2), .unset, .unset] [(.ref za)])) _
    refine XS.iload z1e.here hx rfl (hb hby y3_47) rfl ?_
    refine XS.iload z1e.here hx rfl (hb hby y3_49) rfl ?_
    refine z4v _ ?_
    show Steps p.tables e below (z4t.setTop (mkF m 52 #[.val (.ref z0), .val (.double (Jvm.FP.l2d (vx.toInt64))), .second, .val (.int vf), .val (.int vt), .val .null, .val (.int 2), .unset, .unset] [])) _
    refine XS.aloadN z1f.here hx rfl (hb hby y3_52) rfl rfl ?_
    refine z52 _ ?_
    show Steps p.tables e below (z50.setTop (mkF m 56 #[.val (.ref z0), .val (.double (Jvm.FP.l2d (vx.toInt64))), .second, .val (.int vf), .val (.int vt), .val .null, .val (.int 2), .unset, .unset] [(.ref z8)])) _
    refine XS.iload z1g.here hx rfl (hb hby y3_56) rfl ?_
    refine XS.aload z1g.here hx rfl (hb hby y3_58) rfl rfl ?_
    refine z5a _ ?_
    show Steps p.tables e below (z57.setTop (mkF m 61 #[.val (.ref z0), .val (.double (Jvm.FP.l2d (vx.toInt64))), .second, .val (.int vf), .val (.int vt), .val .null, .val (.int 2), .unset, .unset] [])) _
    refine XS.aloadN z10.here hx rfl (hb hby y3_61) rfl rfl ?_
    refine XS.dup z10.here hx rfl (hb hby y3_62) rfl rfl ?_
    refine z5g _ ?_
    show Steps p.tables e below (z2o.setTop (mkF m 66 #[.val (.ref z0), .val (.double (Jvm.FP.l2d (vx.toInt64))), .second, .val (.int vf), .val (.int vt), .val .null, .val (.int 2), .unset, .unset] [(.int 2), (.ref z0)])) _
    refine XS.dupX1 z11.here hx rfl (hb hby y3_66) rfl rfl rfl ?_
    refine XS.iconst z11.here hx rfl (hb hby y3_67) ?_
    refine XS.iadd z11.here hx rfl (hb hby y3_68) rfl ?_
    show Steps p.tables e below (z2o.setTop (mkF m 69 #[.val (.ref z0), .val (.double (Jvm.FP.l2d (vx.toInt64))), .second, .val (.int vf), .val (.int vt), .val .null, .val (.int 2), .unset, .unset] [(.int 3), (.ref z0), (.int 2)])) _
    refine z5j _ ?_
    show Steps p.tables e below (z2q.setTop (mkF m 72 #[.val (.ref z0), .val (.double (Jvm.FP.l2d (vx.toInt64))), .second, .val (.int vf), .val (.int vt), .val .null, .val (.int 2), .unset, .unset] [(.int 2)])) _
    refine XS.istore zm.here hx rfl (hb hby y3_72) rfl (l' := #[.val (.ref z0), .val (.double (Jvm.FP.l2d (vx.toInt64))), .second, .val (.int vf), .val (.int vt), .val .null, .val (.int 2), .val (.int 2), .unset]) rfl ?_
    refine XS.iload zm.here hx rfl (hb hby y3_74) rfl ?_
    refine XS.ifNo zm.here hx rfl (hb hby y3_76) rfl ((if0 _ _).trans (tlt (by decide : (0 : Int32) < (2 : Int32))).2.2.2) ?_
    show Steps p.tables e below (z2q.setTop (mkF m 79 #[.val (.ref z0), .val (.double (Jvm.FP.l2d (vx.toInt64))), .second, .val (.int vf), .val (.int vt), .val .null, .val (.int 2), .val (.int 2), .unset] [])) _
    refine XS.dloadN zm.here hx rfl (hb hby y3_79) rfl ?_
    refine XS.aloadN zm.here hx rfl (hb hby y3_80) rfl rfl ?_
    refine z5o _ ?_
    show Steps p.tables e below (zn.setTop (mkF m 84 #[.val (.ref z0), .val (.double (Jvm.FP.l2d (vx.toInt64))), .second, .val (.int vf), .val (.int vt), .val .null, .val (.int 2), .val (.int 2), .unset] [(.ref z6), (.double (Jvm.FP.l2d (vx.toInt64)))])) _
    refine XS.iload zd.here hx rfl (hb hby y3_84) rfl ?_
    refine XS.iconst zd.here hx rfl (hb hby y3_86) ?_
    refine XS.isub zd.here hx rfl (hb hby y3_87) rfl ?_
    show Steps p.tables e below (zn.setTop (mkF m 88 #[.val (.ref z0), .val (.double (Jvm.FP.l2d (vx.toInt64))), .second, .val (.int vf), .val (.int vt), .val .null, .val (.int 2), .val (.int 2), .unset] [(.int 1), (.ref z6), (.double (Jvm.FP.l2d (vx.toInt64)))])) _
    refine XS.iconst zd.here hx rfl (hb hby y3_88) ?_
    refine XS.idiv zd.here hx rfl (hb hby y3_89) rfl (by decide) ?_
    show Steps p.tables e below (zn.setTop (mkF m 90 #[.val (.ref z0), .val (.double (Jvm.FP.l2d (vx.toInt64))), .second, .val (.int vf), .val (.int vt), .val .null, .val (.int 2), .val (.int 2), .unset] [(.int 0), (.ref z6), (.double (Jvm.FP.l2d (vx.toInt64)))])) _
    refine zd.daload hx (j := (0 : Int32)) (v := (.double (Jvm.FP.l2d (x1.toInt64)))) (by rw [z2s]; exact z1i.1) (State.isArrayOf_alike hZ.alike z1i.2.1) z1i.2.2 z2v z5r (g := (mkF m 90 #[.val (.ref z0), .val (.double (Jvm.FP.l2d (vx.toInt64))), .second, .val (.int vf), .val (.int vt), .val .null, .val (.int 2), .val (.int 2), .unset] [(.int 0), (.ref z6), (.double (Jvm.FP.l2d (vx.toInt64)))])) rfl rfl (hb hby y3_90) _ ?_
    show Steps p.tables e below (zn.setTop (mkF m 91 #[.val (.ref z0), .val (.double (Jvm.FP.l2d (vx.toInt64))), .second, .val (.int vf), .val (.int vt), .val .null, .val (.int 2), .val (.int 2), .unset] [(.double (Jvm.FP.l2d (x1.toInt64))), (.double (Jvm.FP.l2d (vx.toInt64)))])) _
    refine XS.dcmpS zd.here hx rfl (hb hby y3_91) rfl (dcmpV_w (own_b53 vx) (own_b53 x1) _) ?_
    show Steps p.tables e below (zn.setTop (mkF m 92 #[.val (.ref z0), .val (.double (Jvm.FP.l2d (vx.toInt64))), .second, .val (.int vf), .val (.int vt), .val .null, .val (.int 2), .val (.int 2), .unset] [(.int (lcmpW (vx.toInt64) (x1.toInt64)))])) _
    refine XS.ifYes zd.here hx rfl (pc0 := 92) (pc' := 118) rfl (hb hby y3_92) rfl ((if0 _ _).trans (flt (fun z => hri ((own_llt _ _).mp z))).2.1) (by decide) (by decide) ?_
    show Steps p.tables e below (zn.setTop (mkF m 118 #[.val (.ref z0), .val (.double (Jvm.FP.l2d (vx.toInt64))), .second, .val (.int vf), .val (.int vt), .val .null, .val (.int 2), .val (.int 2), .unset] [])) _
    refine XS.aloadN zd.here hx rfl (hb hby y3_118) rfl rfl ?_
    refine XS.iload zd.here hx rfl (hb hby y3_119) rfl ?_
    refine XS.dloadN zd.here hx rfl (hb hby y3_121) rfl ?_
    refine XS.aloadN zd.here hx rfl (hb hby y3_122) rfl rfl ?_
    refine XS.dup zd.here hx rfl (hb hby y3_123) rfl rfl ?_
    refine z5t _ ?_
    show Steps p.tables e below (z1k.setTop (mkF m 127 #[.val (.ref z0), .val (.double (Jvm.FP.l2d (vx.toInt64))), .second, .val (.int vf), .val (.int vt), .val .null, .val (.int 2), .val (.int 2), .unset] [(.long ga), (.ref z0), (.double (Jvm.FP.l2d (vx.toInt64))), (.int 2), (.ref z0)])) _
    refine own_dup2X1 z12.here hx rfl (hb hby y3_127) rfl ?_
    show Steps p.tables e below (z1k.setTop (mkF m 128 #[.val (.ref z0), .val (.double (Jvm.FP.l2d (vx.toInt64))), .second, .val (.int vf), .val (.int vt), .val .null, .val (.int 2), .val (.int 2), .unset] [(.long ga), (.ref z0), (.long ga), (.double (Jvm.FP.l2d (vx.toInt64))), (.int 2), (.ref z0)])) _
    refine XS.lconst z12.here hx rfl (hb hby y3_128) ?_
    refine XS.ladd z12.here hx rfl (hb hby y3_129) rfl ?_
    show Steps p.tables e below (z1k.setTop (mkF m 130 #[.val (.ref z0), .val (.double (Jvm.FP.l2d (vx.toInt64))), .second, .val (.int vf), .val (.int vt), .val .null, .val (.int 2), .val (.int 2), .unset] [(.long (ga + (1 : Int64))), (.ref z0), (.long ga), (.double (Jvm.FP.l2d (vx.toInt64))), (.int 2), (.ref z0)])) _
    refine z5v _ ?_
    show Steps p.tables e below (z5u.setTop (mkF m 133 #[.val (.ref z0), .val (.double (Jvm.FP.l2d (vx.toInt64))), .second, .val (.int vf), .val (.int vt), .val .null, .val (.int 2), .val (.int 2), .unset] [(.long ga), (.double (Jvm.FP.l2d (vx.toInt64))), (.int 2), (.ref z0)])) _
    refine XS.iload z1l.here hx rfl (hb hby y3_133) rfl ?_
    refine z35.trans ?_
    show Steps p.tables e below (z1m.setTop (mkF m 138 #[.val (.ref z0), .val (.double (Jvm.FP.l2d (vx.toInt64))), .second, .val (.int vf), .val (.int vt), .val .null, .val (.int 2), .val (.int 2), .unset] [])) _
    exact zq.returnOut hx Bd.returns (hb hby y3_138) hr
  · show Q_rmA2n Z A K x1 x2 x3 c1 c2 c3 s1 s2 s3 zr zs z13 t1 t2 t3 ga vx vf vt z0 z6 ze z7 z9 za z8 zc zt zu zv zw zx zl z14 h0 n0 _ z1m.heap _
    exact ⟨rfl, z67, z68, z69, z6a, z6b, z6c, z6d, z6e, z6f, z6g, z6h, z6i, z64, z65, z66, z6j, z6k, z6l, z3i⟩
theorem y4_0 : decode jdk_29_method_69_code 0 = .ok (.iload_n 0, 1) := by decide +kernel
theorem y4_1 : decode jdk_29_method_69_code 1 = .ok (.iload_n 1, 1) := by decide +kernel
theorem y4_2 : decode jdk_29_method_69_code 2 = .ok (.if_icmp .gt 7, 3) := by decide +kernel
theorem y4_9 : decode jdk_29_method_69_code 9 = .ok (.iload_n 1, 1) := by decide +kernel
theorem y4_10 : decode jdk_29_method_69_code 10 = .ok (.ireturn, 1) := by decide +kernel
set_option maxRecDepth 65536 in
set_option maxHeartbeats 40000000 in
theorem rm1 (l : Launch) (Z : State) (a0 : Array Value) (hw : ∀ d ∈ tables_1, d.before a0 Z = true) (ws : List Jvm.Cond) (h0 : Heap) (n0 : Nat) (A : Nat → Addr) (K : Nat → ClassId)  (EN : own_St Z A K) (OL0 : Old Z n0 h0) :
    MetFree l own_m5 (head1 (Jvm.Cond.code own_m5 jdk_29_method_69_code 2 (some .int) :: ws) (Room.mk 0 0 0 0)) (fun a U => a = #[(.int 5), (.int 2)] ∧ Z.Warmed39 U.vm ∧ U.heap = h0) (fun _ _ _ _ _ => True) (fun _ U o U' => ∃ v L, o = .returned v ∧ (PQ (some (.int 2)) h0 n0) v U'.heap L ∧ FrameEnd U o U' L (Room.mk 0 0 0 0).cells (Room.mk 0 0 0 0).slots) := by
  refine MetFree.of_bodySF (Jvm.Free.JP.mathPlain rfl (by decide +kernel)) hisR ?_
  intro p e s m args below meth c s₁ Bd hml0 hP hK
  obtain ⟨rfl, hZ, hh⟩ := hP
  have hx := Bd.exec
  have hby := Bd.bytes
  have hml : c.maxLocals = 2 := hml0
  have hown : s.vm.findClass "java/lang/Math" = some m.cls := findClass_of_methodNamed Bd.named
  have hnm := (name_of_methodNamed Bd.named Bd.method).1
  have X0 : Stand p l e (Room.mk 0 0 0 0) s m #[(.int 5), (.int 2)] below meth c s₁ [] 0 0 := Stand.of_body Bd
  have e0 : s₁.heap = h0 := by rw [← hh, Bd.state]; rfl
  have N0 := Fr.nil n0
  have pre0 : ∀ t, Steps p.tables e below (s₁.setTop (mkF m 0 #[.val (.int 5), .val (.int 2)] [])) t → Steps p.tables e below (s₁.setTop (entryFrame m #[(.int 5), (.int 2)] 2)) t := fun t k => castTop (by first | (simp [entryFrame, mkF, argsToLocals, Value.category, maxLocals]; done) | rfl) k
  have KK0 : Keep h0 h0 [] := Keep.refl _ _
  obtain ⟨fs, hr, hrun, hended, hW, hsame⟩ := X0.leave (v := some (.int 2)) (fun h => by rw [Bd.returns] at h; cases h)
  refine ⟨_, _, pre0 _ ?_, hrun, hended, _, _, rfl, ?_, ⟨_, rfl⟩, hW, hsame.mono (by decide) (by decide)⟩
  · show Steps p.tables e below (s₁.setTop (mkF m 0 #[.val (.int 5), .val (.int 2)] [])) _
    refine XS.iloadN X0.here hx rfl (hb hby y4_0) rfl ?_
    refine XS.iloadN X0.here hx rfl (hb hby y4_1) rfl ?_
    refine XS.icmpYes X0.here hx rfl (pc0 := 2) (pc' := 9) rfl (hb hby y4_2) rfl (tlt (by decide : (2 : Int32) < (5 : Int32))).2.2.1 (by decide) (by decide) ?_
    show Steps p.tables e below (s₁.setTop (mkF m 9 #[.val (.int 5), .val (.int 2)] [])) _
    refine XS.iloadN X0.here hx rfl (hb hby y4_9) rfl ?_
    exact retI X0 hx Bd.returns (hb hby y4_10) hr
  · show PQ (some (.int 2)) h0 n0 _ s₁.heap _
    rw [e0]
    exact ⟨rfl, N0, rfl⟩
def Q_rmR3y (Z : State) (A : Nat → Addr) (K : Nat → ClassId) (x1 : Int32) (x2 : Int32) (x3 : Int32) (c1 : Int64) (c2 : Int64) (c3 : Int64) (s1 : Int32) (s2 : Int32) (s3 : Int32) (zd : Int32) (ze : Int32) (zf : Int32) (t1 : Int32) (t2 : Int32) (t3 : Int32) (ga : Int64) (z0 : Addr) (z1 : Addr) (z2 : Addr) (z3 : Addr) (z7 : Addr) (z8 : Addr) (z4 : Addr) (z5 : Addr) (z9 : ClassId) (za : ClassId) (zb : ClassId) (z6 : ClassId) (zc : ClassId) (h0 : Heap) (n0 : Nat) (v : Option Value) (h : Heap) (L : List Loc) : Prop := v = none ∧ Fr n0 L ∧ Keep h0 h [z4, z5, z0, z1, z2, z3] ∧ (Exa Z h z0 y_s0) ∧ (Fld Z h z0 y_s0 "at" "[D" (.ref z1)) ∧ (Fld Z h z0 y_s0 "added" "[J" (.ref z2)) ∧ (Fld Z h z0 y_s0 "slot" "[I" (.ref z3)) ∧ (Fld Z h z0 y_s0 "from" "[I" (.ref z7)) ∧ (Fld Z h z0 y_s0 "to" "[I" (.ref z8)) ∧ (Fld Z h z0 y_s0 "message" y_s1 (.ref z4)) ∧ (Fld Z h z0 y_s0 "free" "[I" (.ref z5)) ∧ (Fld Z h z0 y_s0 "size" "I" (.int 2)) ∧ (Fld Z h z0 y_s0 "additions" "J" (.long ga)) ∧ (Arv Z h z1 z9 .double (16 : Int32) [(.double (Jvm.FP.l2d (x2.toInt64))), (.double (Jvm.FP.l2d (x3.toInt64))), (.double (Jvm.FP.l2d (x3.toInt64)))] (.double (Jvm.FP.l2d ((0 : Int32).toInt64)))) ∧ (Arv Z h z2 za .long (16 : Int32) [(.long c2), (.long c3), (.long c3)] (.long 0)) ∧ (Arv Z h z3 zb .int 16 [(.int s2), (.int s3), (.int s3)] (.int 0)) ∧ (own_AM Z h z4 z6 (.object y_s3)) ∧ (Ovr Z z6 y_s3) ∧ (own_AM Z h z5 zc .int)
theorem y5_0 : decode prog_48_method_8_code 0 = .ok (.aload_n 0, 1) := by decide +kernel
theorem y5_1 : decode prog_48_method_8_code 1 = .ok (.getfield 19, 3) := by decide +kernel
theorem y5_4 : decode prog_48_method_8_code 4 = .ok (.iconst 0, 1) := by decide +kernel
theorem y5_5 : decode prog_48_method_8_code 5 = .ok (.iaload, 1) := by decide +kernel
theorem y5_6 : decode prog_48_method_8_code 6 = .ok (.istore_n 1, 1) := by decide +kernel
theorem y5_7 : decode prog_48_method_8_code 7 = .ok (.aload_n 0, 1) := by decide +kernel
theorem y5_8 : decode prog_48_method_8_code 8 = .ok (.getfield 29, 3) := by decide +kernel
theorem y5_11 : decode prog_48_method_8_code 11 = .ok (.iload_n 1, 1) := by decide +kernel
theorem y5_12 : decode prog_48_method_8_code 12 = .ok (.aconst_null, 1) := by decide +kernel
theorem y5_13 : decode prog_48_method_8_code 13 = .ok (.aastore, 1) := by decide +kernel
theorem y5_14 : decode prog_48_method_8_code 14 = .ok (.aload_n 0, 1) := by decide +kernel
theorem y5_15 : decode prog_48_method_8_code 15 = .ok (.getfield 33, 3) := by decide +kernel
theorem y5_18 : decode prog_48_method_8_code 18 = .ok (.aload_n 0, 1) := by decide +kernel
theorem y5_19 : decode prog_48_method_8_code 19 = .ok (.getfield 19, 3) := by decide +kernel
theorem y5_22 : decode prog_48_method_8_code 22 = .ok (.arraylength, 1) := by decide +kernel
theorem y5_23 : decode prog_48_method_8_code 23 = .ok (.aload_n 0, 1) := by decide +kernel
theorem y5_24 : decode prog_48_method_8_code 24 = .ok (.getfield 40, 3) := by decide +kernel
theorem y5_27 : decode prog_48_method_8_code 27 = .ok (.isub, 1) := by decide +kernel
theorem y5_28 : decode prog_48_method_8_code 28 = .ok (.iload_n 1, 1) := by decide +kernel
theorem y5_29 : decode prog_48_method_8_code 29 = .ok (.iastore, 1) := by decide +kernel
theorem y5_30 : decode prog_48_method_8_code 30 = .ok (.aload_n 0, 1) := by decide +kernel
theorem y5_31 : decode prog_48_method_8_code 31 = .ok (.dup, 1) := by decide +kernel
theorem y5_32 : decode prog_48_method_8_code 32 = .ok (.getfield 40, 3) := by decide +kernel
theorem y5_35 : decode prog_48_method_8_code 35 = .ok (.iconst 1, 1) := by decide +kernel
theorem y5_36 : decode prog_48_method_8_code 36 = .ok (.isub, 1) := by decide +kernel
theorem y5_37 : decode prog_48_method_8_code 37 = .ok (.putfield 40, 3) := by decide +kernel
theorem y5_40 : decode prog_48_method_8_code 40 = .ok (.aload_n 0, 1) := by decide +kernel
theorem y5_41 : decode prog_48_method_8_code 41 = .ok (.getfield 9, 3) := by decide +kernel
theorem y5_44 : decode prog_48_method_8_code 44 = .ok (.aload_n 0, 1) := by decide +kernel
theorem y5_45 : decode prog_48_method_8_code 45 = .ok (.getfield 40, 3) := by decide +kernel
theorem y5_48 : decode prog_48_method_8_code 48 = .ok (.daload, 1) := by decide +kernel
theorem y5_49 : decode prog_48_method_8_code 49 = .ok (.dstore_n 2, 1) := by decide +kernel
theorem y5_50 : decode prog_48_method_8_code 50 = .ok (.aload_n 0, 1) := by decide +kernel
theorem y5_51 : decode prog_48_method_8_code 51 = .ok (.getfield 15, 3) := by decide +kernel
theorem y5_54 : decode prog_48_method_8_code 54 = .ok (.aload_n 0, 1) := by decide +kernel
theorem y5_55 : decode prog_48_method_8_code 55 = .ok (.getfield 40, 3) := by decide +kernel
theorem y5_58 : decode prog_48_method_8_code 58 = .ok (.laload, 1) := by decide +kernel
theorem y5_59 : decode prog_48_method_8_code 59 = .ok (.lstore 4, 2) := by decide +kernel
theorem y5_61 : decode prog_48_method_8_code 61 = .ok (.aload_n 0, 1) := by decide +kernel
theorem y5_62 : decode prog_48_method_8_code 62 = .ok (.getfield 19, 3) := by decide +kernel
theorem y5_65 : decode prog_48_method_8_code 65 = .ok (.aload_n 0, 1) := by decide +kernel
theorem y5_66 : decode prog_48_method_8_code 66 = .ok (.getfield 40, 3) := by decide +kernel
theorem y5_69 : decode prog_48_method_8_code 69 = .ok (.iaload, 1) := by decide +kernel
theorem y5_70 : decode prog_48_method_8_code 70 = .ok (.istore 6, 2) := by decide +kernel
theorem y5_72 : decode prog_48_method_8_code 72 = .ok (.iconst 0, 1) := by decide +kernel
theorem y5_73 : decode prog_48_method_8_code 73 = .ok (.istore 7, 2) := by decide +kernel
theorem y5_75 : decode prog_48_method_8_code 75 = .ok (.iconst 1, 1) := by decide +kernel
theorem y5_76 : decode prog_48_method_8_code 76 = .ok (.istore 8, 2) := by decide +kernel
theorem y5_78 : decode prog_48_method_8_code 78 = .ok (.iload 8, 2) := by decide +kernel
theorem y5_80 : decode prog_48_method_8_code 80 = .ok (.aload_n 0, 1) := by decide +kernel
theorem y5_81 : decode prog_48_method_8_code 81 = .ok (.getfield 40, 3) := by decide +kernel
theorem y5_84 : decode prog_48_method_8_code 84 = .ok (.if_icmp .ge 126, 3) := by decide +kernel
theorem y5_87 : decode prog_48_method_8_code 87 = .ok (.iload 8, 2) := by decide +kernel
theorem y5_89 : decode prog_48_method_8_code 89 = .ok (.iconst 4, 1) := by decide +kernel
theorem y5_90 : decode prog_48_method_8_code 90 = .ok (.iadd, 1) := by decide +kernel
theorem y5_91 : decode prog_48_method_8_code 91 = .ok (.aload_n 0, 1) := by decide +kernel
theorem y5_92 : decode prog_48_method_8_code 92 = .ok (.getfield 40, 3) := by decide +kernel
theorem y5_95 : decode prog_48_method_8_code 95 = .ok (.invokestatic 59, 3) := by decide +kernel
theorem y5_98 : decode prog_48_method_8_code 98 = .ok (.istore 9, 2) := by decide +kernel
theorem y5_100 : decode prog_48_method_8_code 100 = .ok (.iload 8, 2) := by decide +kernel
theorem y5_102 : decode prog_48_method_8_code 102 = .ok (.istore 10, 2) := by decide +kernel
theorem y5_104 : decode prog_48_method_8_code 104 = .ok (.iload 8, 2) := by decide +kernel
theorem y5_106 : decode prog_48_method_8_code 106 = .ok (.iconst 1, 1) := by decide +kernel
theorem y5_107 : decode prog_48_method_8_code 107 = .ok (.iadd, 1) := by decide +kernel
theorem y5_108 : decode prog_48_method_8_code 108 = .ok (.istore 11, 2) := by decide +kernel
theorem y5_110 : decode prog_48_method_8_code 110 = .ok (.iload 11, 2) := by decide +kernel
theorem y5_112 : decode prog_48_method_8_code 112 = .ok (.iload 9, 2) := by decide +kernel
theorem y5_114 : decode prog_48_method_8_code 114 = .ok (.if_icmp .ge 47, 3) := by decide +kernel
theorem y5_161 : decode prog_48_method_8_code 161 = .ok (.aload_n 0, 1) := by decide +kernel
theorem y5_162 : decode prog_48_method_8_code 162 = .ok (.getfield 9, 3) := by decide +kernel
theorem y5_165 : decode prog_48_method_8_code 165 = .ok (.iload 10, 2) := by decide +kernel
theorem y5_167 : decode prog_48_method_8_code 167 = .ok (.daload, 1) := by decide +kernel
theorem y5_168 : decode prog_48_method_8_code 168 = .ok (.aload_n 0, 1) := by decide +kernel
theorem y5_169 : decode prog_48_method_8_code 169 = .ok (.getfield 15, 3) := by decide +kernel
theorem y5_172 : decode prog_48_method_8_code 172 = .ok (.iload 10, 2) := by decide +kernel
theorem y5_174 : decode prog_48_method_8_code 174 = .ok (.laload, 1) := by decide +kernel
theorem y5_175 : decode prog_48_method_8_code 175 = .ok (.dload_n 2, 1) := by decide +kernel
theorem y5_176 : decode prog_48_method_8_code 176 = .ok (.lload 4, 2) := by decide +kernel
theorem y5_178 : decode prog_48_method_8_code 178 = .ok (.invokestatic 65, 3) := by decide +kernel
theorem y5_181 : decode prog_48_method_8_code 181 = .ok (.ifCond .ne 6, 3) := by decide +kernel
theorem y5_187 : decode prog_48_method_8_code 187 = .ok (.aload_n 0, 1) := by decide +kernel
theorem y5_188 : decode prog_48_method_8_code 188 = .ok (.iload 10, 2) := by decide +kernel
theorem y5_190 : decode prog_48_method_8_code 190 = .ok (.iload 7, 2) := by decide +kernel
theorem y5_192 : decode prog_48_method_8_code 192 = .ok (.invokevirtual 47, 3) := by decide +kernel
theorem y5_195 : decode prog_48_method_8_code 195 = .ok (.iload 10, 2) := by decide +kernel
theorem y5_197 : decode prog_48_method_8_code 197 = .ok (.istore 7, 2) := by decide +kernel
theorem y5_199 : decode prog_48_method_8_code 199 = .ok (.iload 7, 2) := by decide +kernel
theorem y5_201 : decode prog_48_method_8_code 201 = .ok (.iconst 4, 1) := by decide +kernel
theorem y5_202 : decode prog_48_method_8_code 202 = .ok (.imul, 1) := by decide +kernel
theorem y5_203 : decode prog_48_method_8_code 203 = .ok (.iconst 1, 1) := by decide +kernel
theorem y5_204 : decode prog_48_method_8_code 204 = .ok (.iadd, 1) := by decide +kernel
theorem y5_205 : decode prog_48_method_8_code 205 = .ok (.istore 8, 2) := by decide +kernel
theorem y5_207 : decode prog_48_method_8_code 207 = .ok (.goto (-129), 3) := by decide +kernel
theorem y5_210 : decode prog_48_method_8_code 210 = .ok (.aload_n 0, 1) := by decide +kernel
theorem y5_211 : decode prog_48_method_8_code 211 = .ok (.iload 7, 2) := by decide +kernel
theorem y5_213 : decode prog_48_method_8_code 213 = .ok (.dload_n 2, 1) := by decide +kernel
theorem y5_214 : decode prog_48_method_8_code 214 = .ok (.lload 4, 2) := by decide +kernel
theorem y5_216 : decode prog_48_method_8_code 216 = .ok (.iload 6, 2) := by decide +kernel
theorem y5_218 : decode prog_48_method_8_code 218 = .ok (.invokevirtual 55, 3) := by decide +kernel
theorem y5_221 : decode prog_48_method_8_code 221 = .ok (.return_, 1) := by decide +kernel
set_option maxRecDepth 65536 in
set_option maxHeartbeats 40000000 in
theorem rmR3y (l : Launch) (Z : State) (a0 : Array Value) (hw : ∀ d ∈ tables_1, d.before a0 Z = true) (ws : List Jvm.Cond) (h0 : Heap) (n0 : Nat) (A : Nat → Addr) (K : Nat → ClassId) (x1 : Int32) (x2 : Int32) (x3 : Int32) (c1 : Int64) (c2 : Int64) (c3 : Int64) (s1 : Int32) (s2 : Int32) (s3 : Int32) (z1z : Int32) (z20 : Int32) (z21 : Int32) (t1 : Int32) (t2 : Int32) (t3 : Int32) (ga : Int64)  (z0 : Addr) (z5 : Addr) (z6 : Addr) (z2 : Addr) (z18 : Addr) (z19 : Addr) (zb : Addr) (z1 : Addr) (zp : ClassId) (zq : ClassId) (zr : ClassId) (zl : ClassId) (zm : ClassId) (EN : own_St Z A K) (OL0 : Old Z n0 h0) (z22 : Fld Z h0 z0 y_s0 "slot" "[I" (.ref z2)) (z23 : Arv Z h0 z2 zr .int 16 [(.int s1), (.int s2), (.int s3)] (.int 0)) (z24 : Fld Z h0 z0 y_s0 "message" y_s1 (.ref zb)) (z25 : own_AM Z h0 zb zl (.object y_s3)) (z40 : Fld Z h0 z0 y_s0 "free" "[I" (.ref z1)) (z41 : Fld Z h0 z0 y_s0 "size" "I" (.int 3)) (z42 : own_AM Z h0 z1 zm .int) (z43 : Exa Z h0 z0 y_s0) (z44 : Fld Z h0 z0 y_s0 "at" "[D" (.ref z5)) (z45 : Arv Z h0 z5 zp .double (16 : Int32) [(.double (Jvm.FP.l2d (x1.toInt64))), (.double (Jvm.FP.l2d (x2.toInt64))), (.double (Jvm.FP.l2d (x3.toInt64)))] (.double (Jvm.FP.l2d ((0 : Int32).toInt64)))) (z46 : Fld Z h0 z0 y_s0 "added" "[J" (.ref z6)) (z47 : Arv Z h0 z6 zq .long (16 : Int32) [(.long c1), (.long c2), (.long c3)] (.long 0)) (z48 : Fld Z h0 z0 y_s0 "from" "[I" (.ref z18)) (z49 : Fld Z h0 z0 y_s0 "to" "[I" (.ref z19)) (z4a : Fld Z h0 z0 y_s0 "additions" "J" (.long ga)) (z4b : Ovr Z zl y_s3) (hs0 : ¬ (s1 < (0 : Int32))) (hs1 : s1 < (16 : Int32)) (hb_ : ¬ ((own_f_rmIB x2 x3 c2 c3) = (0 : Int32))) (zg : z0 ≠ zb) (z1a : z2 ≠ zb) (z26 : zb ≠ z1) (zh : z0 ≠ z1) (z1b : z5 ≠ zb) (z1c : z5 ≠ z1) (z3 : z0 ≠ z5) (z1d : z6 ≠ zb) (z1e : z6 ≠ z1) (z4 : z0 ≠ z6) (z1f : z2 ≠ z1) (z7 : z0 ≠ z2) (z27 : z5 ≠ z6) (z28 : z5 ≠ z2) (z29 : z6 ≠ z2) (z2a : n0 ≤ zb) (z2b : n0 ≤ z1) (z2c : n0 ≤ z0) (zv : n0 ≤ z5) (zw : n0 ≤ z6) (zx : n0 ≤ z2) :
    MetFree l own_m1 (head1 (Jvm.Cond.code own_m1 prog_48_method_8_code 12 none :: ws) (Room.mk 2 0 0 32)) (fun a U => a = #[(.ref z0)] ∧ Z.Warmed39 U.vm ∧ U.heap = h0) (fun _ _ _ _ _ => True) (fun _ U o U' => ∃ v L, o = .returned v ∧ Q_rmR3y Z A K x1 x2 x3 c1 c2 c3 s1 s2 s3 z1z z20 z21 t1 t2 t3 ga z0 z5 z6 z2 z18 z19 zb z1 zp zq zr zl zm h0 n0 v U'.heap L ∧ FrameEnd U o U' L (Room.mk 2 0 0 32).cells (Room.mk 2 0 0 32).slots) := by
  refine MetFree.of_bodySF (plainFor_of_name own_pn0) hisR ?_
  intro p e s m args below meth c s₁ Bd hml0 hP hK
  obtain ⟨rfl, hZ, hh⟩ := hP
  have hx := Bd.exec
  have hby := Bd.bytes
  have hml : c.maxLocals = 12 := hml0
  have hown : s.vm.findClass y_s0 = some m.cls := findClass_of_methodNamed Bd.named
  have hnm := (name_of_methodNamed Bd.named Bd.method).1
  have X0 : Stand p l e (Room.mk 2 0 0 32) s m #[(.ref z0)] below meth c s₁ [] 0 0 := Stand.of_body Bd
  have e0 : s₁.heap = h0 := by rw [← hh, Bd.state]; rfl
  have N0 := Fr.nil n0
  have pre0 : ∀ t, Steps p.tables e below (s₁.setTop (mkF m 0 #[.val (.ref z0), .unset, .unset, .unset, .unset, .unset, .unset, .unset, .unset, .unset, .unset, .unset] [])) t → Steps p.tables e below (s₁.setTop (entryFrame m #[(.ref z0)] 12)) t := fun t k => castTop (by first | (simp [entryFrame, mkF, argsToLocals, Value.category, maxLocals]; done) | rfl) k
  have KK0 : Keep h0 h0 [zb, z1, z0, z5, z6, z2] := Keep.refl _ _
  obtain ⟨z2d, zs, z2e, z4c⟩ := getF X0 hx hZ hown (host := "") (Or.inl (own_W hw 16 rfl)) Via.refl e0 z22 (g := (mkF m 1 #[.val (.ref z0), .unset, .unset, .unset, .unset, .unset, .unset, .unset, .unset, .unset, .unset, .unset] [(.ref z0)])) rfl rfl (hb hby y5_1)
  obtain ⟨z2f, z1g, z7g, z4d, z7h, z4e, z7i⟩ := (id z23)
  have z2g : ¬ ((0 : Int32) < 0 ∨ z2f.slots.size ≤ ((0 : Int32)).toNatClampNeg) := inb_of z4d ⟨by decide, by decide⟩
  have z4f : z2f.slots[((0 : Int32)).toNatClampNeg]? = some (.int s1) := Has.at z4e z2g rfl
  obtain ⟨z4g, z1h, z4h, z4i⟩ := getF zs hx hZ hown (host := "") (Or.inl (own_W hw 24 rfl)) Via.refl z2e z24 (g := (mkF m 8 #[.val (.ref z0), .val (.int s1), .unset, .unset, .unset, .unset, .unset, .unset, .unset, .unset, .unset, .unset] [(.ref z0)])) rfl rfl (hb hby y5_8)
  obtain ⟨vs356, dv356, z4j, z4k, z7j, z4l, z7k, z7l, z7m⟩ := (id z25)
  have z4m : ¬ (s1 < 0 ∨ z4j.slots.size ≤ (s1).toNatClampNeg) := inb_of z4l ⟨hs0, hs1⟩
  obtain ⟨z4n, z2h, z1i, z4o, z8, z4p⟩ := stR z1h hx hZ z4h z4k (j := s1) z4m rfl (Or.inl rfl) (g := (mkF m 13 #[.val (.ref z0), .val (.int s1), .unset, .unset, .unset, .unset, .unset, .unset, .unset, .unset, .unset, .unset] [.null, (.int s1), (.ref zb)])) rfl rfl (hb hby y5_13)
  have z4q := Fr.snoc z1i N0 z2a
  have z4r := OL0.wr z8 z2a
  have z4s := KK0.wr z8 (own_Ix 0 rfl)
  have z4t : own_AM Z z2h zb zl (.object y_s3) := own_AM.set z25 rfl z8
  have z2i := (z40.other z8 (Or.inl zg))
  obtain ⟨z4u, z2j, z4v, z4w⟩ := getF z1i hx hZ hown (host := "") (Or.inl (own_W hw 26 rfl)) Via.refl z4o z2i (g := (mkF m 15 #[.val (.ref z0), .val (.int s1), .unset, .unset, .unset, .unset, .unset, .unset, .unset, .unset, .unset, .unset] [(.ref z0)])) rfl rfl (hb hby y5_15)
  have z2k := (z22.other z8 (Or.inl zg))
  obtain ⟨z2l, z1j, z2m, z4x⟩ := getF z2j hx hZ hown (host := "") (Or.inl (own_W hw 16 rfl)) Via.refl z4v z2k (g := (mkF m 19 #[.val (.ref z0), .val (.int s1), .unset, .unset, .unset, .unset, .unset, .unset, .unset, .unset, .unset, .unset] [(.ref z0), (.ref z1)])) rfl rfl (hb hby y5_19)
  have z2n := (z23.other z8 z1a)
  obtain ⟨z7n, z2o, -, z4y, z4z, -, -⟩ := (id z2n)
  have z2p := (z41.other z8 (Or.inl zg))
  obtain ⟨z2q, z1k, z50, z51⟩ := getF z1j hx hZ hown (host := "") (Or.inl (own_W hw 37 rfl)) Via.refl z2m z2p (g := (mkF m 24 #[.val (.ref z0), .val (.int s1), .unset, .unset, .unset, .unset, .unset, .unset, .unset, .unset, .unset, .unset] [(.ref z0), (.int 16), (.ref z1)])) rfl rfl (hb hby y5_24)
  have z2r : own_AM Z z2h z1 zm .int := (z42.other z8 (Ne.symm z26))
  obtain ⟨vs367, dv367, z52, z53, z7o, z54, z7p, z7q, z7r⟩ := (id z2r)
  have z55 : ¬ ((13 : Int32) < 0 ∨ z52.slots.size ≤ ((13 : Int32)).toNatClampNeg) := inb_of z54 ⟨by decide, by decide⟩
  obtain ⟨z56, z57, zy, z58, z9, z59⟩ := stI z1k hx hZ z50 z53 (j := (13 : Int32)) z55 (g := (mkF m 29 #[.val (.ref z0), .val (.int s1), .unset, .unset, .unset, .unset, .unset, .unset, .unset, .unset, .unset, .unset] [(.int s1), (.int 13), (.ref z1)])) rfl rfl (hb hby y5_29)
  have z5a := Fr.snoc zy z4q z2b
  have z5b := z4r.wr z9 z2b
  have z5c := z4s.wr z9 (own_Ix 1 rfl)
  have z5d : own_AM Z z57 z1 zm .int := own_AM.set z2r rfl z9
  have z1l := (z2p.other z9 (Or.inl zh))
  obtain ⟨z2s, z1m, z5e, z5f⟩ := getF zy hx hZ hown (host := "") (Or.inl (own_W hw 37 rfl)) Via.refl z58 z1l (g := (mkF m 32 #[.val (.ref z0), .val (.int s1), .unset, .unset, .unset, .unset, .unset, .unset, .unset, .unset, .unset, .unset] [(.ref z0), (.ref z0)])) rfl rfl (hb hby y5_32)
  have z2t := ((z43.wr z8).wr z9)
  obtain ⟨z5g, zz, z1n, z5h, za, z5i⟩ := putF z1m hx hZ hown (host := "") (Or.inl (own_W hw 37 rfl)) Via.refl z5e z1l z2t (Or.inl (own_W hw 38 rfl)) (own_W hw 1 rfl) (ty := .int) (by decide) rfl rfl (g := (mkF m 37 #[.val (.ref z0), .val (.int s1), .unset, .unset, .unset, .unset, .unset, .unset, .unset, .unset, .unset, .unset] [(.int 2), (.ref z0)])) rfl rfl (hb hby y5_37)
  have z5j := Fr.snoc z1n z5a z2c
  have z10 := z5b.wr za z2c
  have z5k := z5c.wr za (own_Ix 2 rfl)
  have zn : Fld Z zz z0 y_s0 "size" "I" (.int 2) := z1l.same za
  have z11 := (((z44.other z8 (Or.inl zg)).other z9 (Or.inl zh)).other za (Or.inr (slot_ne (Or.inl (own_W hw 11 rfl)) (Or.inl (own_W hw 38 rfl)) (by decide) (t := (.array .double)) (t' := .int) (by decide) (by decide))))
  obtain ⟨z5l, z2u, z5m, z5n⟩ := getF z1n hx hZ hown (host := "") (Or.inl (own_W hw 10 rfl)) Via.refl z5h z11 (g := (mkF m 41 #[.val (.ref z0), .val (.int s1), .unset, .unset, .unset, .unset, .unset, .unset, .unset, .unset, .unset, .unset] [(.ref z0)])) rfl rfl (hb hby y5_41)
  obtain ⟨z2v, z12, z2w, z5o⟩ := getF z2u hx hZ hown (host := "") (Or.inl (own_W hw 37 rfl)) Via.refl z5m zn (g := (mkF m 45 #[.val (.ref z0), .val (.int s1), .unset, .unset, .unset, .unset, .unset, .unset, .unset, .unset, .unset, .unset] [(.ref z0), (.ref z5)])) rfl rfl (hb hby y5_45)
  have z1o := (((z45.other z8 z1b).other z9 z1c).other za (Ne.symm z3))
  obtain ⟨z2x, z1p, z7s, z5p, z7t, z5q, z7u⟩ := (id z1o)
  have z2y : ¬ ((2 : Int32) < 0 ∨ z2x.slots.size ≤ ((2 : Int32)).toNatClampNeg) := inb_of z5p ⟨by decide, by decide⟩
  have z5r : z2x.slots[((2 : Int32)).toNatClampNeg]? = some (.double (Jvm.FP.l2d (x3.toInt64))) := Has.at z5q z2y rfl
  have z13 := (((z46.other z8 (Or.inl zg)).other z9 (Or.inl zh)).other za (Or.inr (slot_ne (Or.inl (own_W hw 14 rfl)) (Or.inl (own_W hw 38 rfl)) (by decide) (t := (.array .long)) (t' := .int) (by decide) (by decide))))
  obtain ⟨z5s, z2z, z5t, z5u⟩ := getF z12 hx hZ hown (host := "") (Or.inl (own_W hw 13 rfl)) Via.refl z2w z13 (g := (mkF m 51 #[.val (.ref z0), .val (.int s1), .val (.double (Jvm.FP.l2d (x3.toInt64))), .second, .unset, .unset, .unset, .unset, .unset, .unset, .unset, .unset] [(.ref z0)])) rfl rfl (hb hby y5_51)
  obtain ⟨z30, z14, z31, z5v⟩ := getF z2z hx hZ hown (host := "") (Or.inl (own_W hw 37 rfl)) Via.refl z5t zn (g := (mkF m 55 #[.val (.ref z0), .val (.int s1), .val (.double (Jvm.FP.l2d (x3.toInt64))), .second, .unset, .unset, .unset, .unset, .unset, .unset, .unset, .unset] [(.ref z0), (.ref z6)])) rfl rfl (hb hby y5_55)
  have z1q := (((z47.other z8 z1d).other z9 z1e).other za (Ne.symm z4))
  obtain ⟨z32, z1r, z7v, z5w, z7w, z5x, z7x⟩ := (id z1q)
  have z33 : ¬ ((2 : Int32) < 0 ∨ z32.slots.size ≤ ((2 : Int32)).toNatClampNeg) := inb_of z5w ⟨by decide, by decide⟩
  have z5y : z32.slots[((2 : Int32)).toNatClampNeg]? = some (.long c3) := Has.at z5x z33 rfl
  have z1s := ((z2k.other z9 (Or.inl zh)).other za (Or.inr (slot_ne (Or.inl (own_W hw 17 rfl)) (Or.inl (own_W hw 38 rfl)) (by decide) (t := (.array .int)) (t' := .int) (by decide) (by decide))))
  obtain ⟨z5z, z34, z60, z61⟩ := getF z14 hx hZ hown (host := "") (Or.inl (own_W hw 16 rfl)) Via.refl z31 z1s (g := (mkF m 62 #[.val (.ref z0), .val (.int s1), .val (.double (Jvm.FP.l2d (x3.toInt64))), .second, .val (.long c3), .second, .unset, .unset, .unset, .unset, .unset, .unset] [(.ref z0)])) rfl rfl (hb hby y5_62)
  obtain ⟨z35, zi, z36, z62⟩ := getF z34 hx hZ hown (host := "") (Or.inl (own_W hw 37 rfl)) Via.refl z60 zn (g := (mkF m 66 #[.val (.ref z0), .val (.int s1), .val (.double (Jvm.FP.l2d (x3.toInt64))), .second, .val (.long c3), .second, .unset, .unset, .unset, .unset, .unset, .unset] [(.ref z0), (.ref z2)])) rfl rfl (hb hby y5_66)
  have z37 := ((z2n.other z9 z1f).other za (Ne.symm z7))
  obtain ⟨z38, z1t, z7y, z63, z7z, z64, z80⟩ := (id z37)
  have z39 : ¬ ((2 : Int32) < 0 ∨ z38.slots.size ≤ ((2 : Int32)).toNatClampNeg) := inb_of z63 ⟨by decide, by decide⟩
  have z65 : z38.slots[((2 : Int32)).toNatClampNeg]? = some (.int s3) := Has.at z64 z39 rfl
  obtain ⟨z1u, zo, z66, z67⟩ := getF zi hx hZ hown (host := "") (Or.inl (own_W hw 37 rfl)) Via.refl z36 zn (g := (mkF m 81 #[.val (.ref z0), .val (.int s1), .val (.double (Jvm.FP.l2d (x3.toInt64))), .second, .val (.long c3), .second, .val (.int s3), .val (.int 0), .val (.int 1), .unset, .unset, .unset] [(.ref z0), (.int 1)])) rfl rfl (hb hby y5_81)
  obtain ⟨z68, z69, z6a, z6b⟩ := getF zo hx hZ hown (host := "") (Or.inl (own_W hw 37 rfl)) Via.refl z66 zn (g := (mkF m 92 #[.val (.ref z0), .val (.int s1), .val (.double (Jvm.FP.l2d (x3.toInt64))), .second, .val (.long c3), .second, .val (.int s3), .val (.int 0), .val (.int 1), .unset, .unset, .unset] [(.ref z0), (.int 5)])) rfl rfl (hb hby y5_92)
  obtain ⟨_, _, ⟨z1v, L390, z81, n390⟩, -, zc, ⟨Lc390, z3a, l390, y390, z390⟩, z3b⟩ := Jvm.LawKit.callS z69 hx (y := own_m5) hown (mvT hZ (own_W hw 67 rfl)) (mvT hZ (own_W hw 40 rfl)) (mvT hZ (own_W hw 41 rfl)) (mvT hZ (own_W hw 42 rfl)) (by decide) (backOf (W := 0) (rm1 l Z a0 hw [] zz n0 A K EN z10) hZ (own_W hw 42 rfl) (own_W hw 41 rfl) (by decide) (by decide)) (g := (mkF m 95 #[.val (.ref z0), .val (.int s1), .val (.double (Jvm.FP.l2d (x3.toInt64))), .second, .val (.long c3), .second, .val (.int s3), .val (.int 0), .val (.int 1), .unset, .unset, .unset] [(.int 2), (.int 5)])) rfl (by rw [hml]; rfl) (argsL := [(.int 5), (.int 2)]) (rest := []) (lenOf own_pd2 rfl) rfl (by show 2 * 0 + _ ≤ _; exact Nat.le_of_eq rfl) (hb hby y5_95) (fun _ _ => ⟨rfl, z6a, (by decide : 0 + 0 ≤ _), (by decide : 0 + 0 ≤ _)⟩)
  dsimp only [Pt.U, Pt.locs, Pt.cells, Pt.slots] at zc l390 y390 z390 z3b z3a
  replace zc := own_sub zc l390 y390 z390
  obtain ⟨rfl, z6c, z6d⟩ := z3a
  have z6e := Fr.app z5j z6c
  obtain ⟨z3c, z15, z3d, z6f⟩ := getF zc hx hZ hown (host := "") (Or.inl (own_W hw 10 rfl)) Via.refl z6d z11 (g := (mkF m 162 #[.val (.ref z0), .val (.int s1), .val (.double (Jvm.FP.l2d (x3.toInt64))), .second, .val (.long c3), .second, .val (.int s3), .val (.int 0), .val (.int 1), .val (.int 2), .val (.int 1), .val (.int 2)] [(.ref z0)])) rfl rfl (hb hby y5_162)
  obtain ⟨z3e, z1w, z82, z6g, z83, z6h, z84⟩ := (id z1o)
  have z3f : ¬ ((1 : Int32) < 0 ∨ z3e.slots.size ≤ ((1 : Int32)).toNatClampNeg) := inb_of z6g ⟨by decide, by decide⟩
  have z6i : z3e.slots[((1 : Int32)).toNatClampNeg]? = some (.double (Jvm.FP.l2d (x2.toInt64))) := Has.at z6h z3f rfl
  obtain ⟨z3g, zt, z3h, z6j⟩ := getF z15 hx hZ hown (host := "") (Or.inl (own_W hw 13 rfl)) Via.refl z3d z13 (g := (mkF m 169 #[.val (.ref z0), .val (.int s1), .val (.double (Jvm.FP.l2d (x3.toInt64))), .second, .val (.long c3), .second, .val (.int s3), .val (.int 0), .val (.int 1), .val (.int 2), .val (.int 1), .val (.int 2)] [(.ref z0), (.double (Jvm.FP.l2d (x2.toInt64)))])) rfl rfl (hb hby y5_169)
  obtain ⟨z3i, z1x, z85, z6k, z86, z6l, z87⟩ := (id z1q)
  have z3j : ¬ ((1 : Int32) < 0 ∨ z3i.slots.size ≤ ((1 : Int32)).toNatClampNeg) := inb_of z6k ⟨by decide, by decide⟩
  have z6m : z3i.slots[((1 : Int32)).toNatClampNeg]? = some (.long c2) := Has.at z6l z3j rfl
  obtain ⟨_, _, ⟨z3k, L395, z88, n395⟩, -, zj, ⟨Lc395, z3l, l395, y395, z395⟩, z3m⟩ := Jvm.LawKit.callS zt hx (y := own_m6) hown (mvT hZ (own_W hw 68 rfl)) (mvT hZ (own_W hw 69 rfl)) (mvT hZ (own_W hw 2 rfl)) (mvT hZ (own_W hw 70 rfl)) (by decide) (backOf (W := 0) (rmIB l Z a0 hw [] zz n0 A K x2 x3 c2 c3 EN z10) hZ (own_W hw 70 rfl) (own_W hw 2 rfl) (by decide) (by decide)) (g := (mkF m 178 #[.val (.ref z0), .val (.int s1), .val (.double (Jvm.FP.l2d (x3.toInt64))), .second, .val (.long c3), .second, .val (.int s3), .val (.int 0), .val (.int 1), .val (.int 2), .val (.int 1), .val (.int 2)] [(.long c3), (.double (Jvm.FP.l2d (x3.toInt64))), (.long c2), (.double (Jvm.FP.l2d (x2.toInt64)))])) rfl (by rw [hml]; rfl) (argsL := [(.double (Jvm.FP.l2d (x2.toInt64))), (.long c2), (.double (Jvm.FP.l2d (x3.toInt64))), (.long c3)]) (rest := []) (lenOf own_pd3 rfl) rfl (by show 2 * 0 + _ ≤ _; exact Nat.le_of_eq rfl) (hb hby y5_178) (fun _ _ => ⟨rfl, z3h, (by decide : 0 + 0 ≤ _), (by decide : 0 + 0 ≤ _)⟩)
  dsimp only [Pt.U, Pt.locs, Pt.cells, Pt.slots] at zj l395 y395 z395 z3m z3l
  replace zj := own_sub zj l395 y395 z395
  obtain ⟨rfl, z6n, z3n⟩ := z3l
  have z6o := Fr.app z6e z6n
  have z1y := (z2t.wr za)
  obtain ⟨cq397, z6p, q397'⟩ := z1y.cell
  obtain ⟨_, _, ⟨z16, L397, z89, n397⟩, -, zd, ⟨Lc397, z3o, l397, y397, z397⟩, z3p⟩ := zj.privateBack hx (y := own_m4) hown (mvT hZ (own_W hw 86 rfl)) (mvT hZ (own_W hw 87 rfl)) (own_selpS (y := own_m4) (mvT hZ (own_W hw 35 rfl)) rfl (mvP (args := #[]) hZ (own_W hw 88 rfl)) (mvT hZ (own_W hw 87 rfl)) (by decide)) (Cond.privateMethod_at (mvP hZ (own_W hw 88 rfl) (args := #[]))) (mvT hZ (own_W hw 89 rfl)) (by decide) (backOf (W := 0) (rmM10 l Z a0 hw [] zz n0 A K x1 x2 x3 c1 c2 c3 s1 s2 s3 z0 z5 z6 z2 zp zq zr EN z10 z11 z1o z13 z1q z1s z37 z1y z3 z27 z4 z28 z29 zv zw zx) hZ (own_W hw 89 rfl) (own_W hw 2 rfl) (by decide) (by decide)) (g := (mkF m 192 #[.val (.ref z0), .val (.int s1), .val (.double (Jvm.FP.l2d (x3.toInt64))), .second, .val (.long c3), .second, .val (.int s3), .val (.int 0), .val (.int 1), .val (.int 2), .val (.int 1), .val (.int 2)] [(.int 0), (.int 1), (.ref z0)])) rfl (by rw [hml]; rfl) (Steps.refl _) (a := z0) (by rw [z3n]; exact z6p) q397' (argsL := [(.int 1), (.int 0)]) (rest := []) (lenOf own_pd1 rfl) rfl (by show 2 * 0 + _ ≤ _; exact Nat.le_of_eq rfl) (hb hby y5_192) (fun _ _ => ⟨rfl, z3n, (by decide : 0 + 0 ≤ _), (by decide : 0 + 0 ≤ _)⟩)
  dsimp only [Pt.U, Pt.locs, Pt.cells, Pt.slots] at zd l397 y397 z397 z3p z3o
  replace zd := own_sub zd l397 y397 z397
  obtain ⟨rfl, z6q, ze, z6r, z6s, z6t⟩ := z3o
  have z6u := Fr.app z6o z6q
  have z3q := z10.keep ze (allS zx (allS zw (allS zv all0)))
  have z6v := z5k.trans ze (allS (own_Ix 5 rfl) (allS (own_Ix 4 rfl) (allS (own_Ix 3 rfl) all0)))
  have z3r := (zn.keep ze (ninS z7 (ninS z4 (ninS z3 nin0))))
  obtain ⟨z3s, zk, z3t, z6w⟩ := getF zd hx hZ hown (host := "") (Or.inl (own_W hw 37 rfl)) Via.refl rfl z3r (g := (mkF m 81 #[.val (.ref z0), .val (.int s1), .val (.double (Jvm.FP.l2d (x3.toInt64))), .second, .val (.long c3), .second, .val (.int s3), .val (.int 1), .val (.int 5), .val (.int 2), .val (.int 1), .val (.int 2)] [(.ref z0), (.int 5)])) rfl rfl (hb hby y5_81)
  have z3u := (z11.keep ze (ninS z7 (ninS z4 (ninS z3 nin0))))
  have z3v := (z13.keep ze (ninS z7 (ninS z4 (ninS z3 nin0))))
  have z3w := (z1s.keep ze (ninS z7 (ninS z4 (ninS z3 nin0))))
  have z3x := (z1y.keep ze)
  obtain ⟨cq403, z6x, q403'⟩ := z3x.cell
  obtain ⟨_, _, ⟨z17, L403, z8a, n403⟩, -, zu, ⟨Lc403, z3y, l403, y403, z403⟩, z3z⟩ := zk.privateBack hx (y := own_m2) hown (mvT hZ (own_W hw 50 rfl)) (mvT hZ (own_W hw 51 rfl)) (own_selpS (y := own_m2) (mvT hZ (own_W hw 35 rfl)) rfl (mvP (args := #[]) hZ (own_W hw 52 rfl)) (mvT hZ (own_W hw 51 rfl)) (by decide)) (Cond.privateMethod_at (mvP hZ (own_W hw 52 rfl) (args := #[]))) (mvT hZ (own_W hw 53 rfl)) (by decide) (backOf (W := 0) (rmP1 l Z a0 hw [] z16.heap n0 A K x2 x2 x3 c2 c2 c3 s2 s2 s3 x3 c3 s3 z0 z5 z6 z2 zp zq zr EN z3q z3u z6r z3v z6s z3w z6t z3 z27 z4 z28 z29 zv zw zx) hZ (own_W hw 53 rfl) (own_W hw 2 rfl) (by decide) (by decide)) (g := (mkF m 218 #[.val (.ref z0), .val (.int s1), .val (.double (Jvm.FP.l2d (x3.toInt64))), .second, .val (.long c3), .second, .val (.int s3), .val (.int 1), .val (.int 5), .val (.int 2), .val (.int 1), .val (.int 2)] [(.int s3), (.long c3), (.double (Jvm.FP.l2d (x3.toInt64))), (.int 1), (.ref z0)])) rfl (by rw [hml]; rfl) (Steps.refl _) (a := z0) (by rw [z3t]; exact z6x) q403' (argsL := [(.int 1), (.double (Jvm.FP.l2d (x3.toInt64))), (.long c3), (.int s3)]) (rest := []) (lenOf own_pd0 rfl) rfl (by show 2 * 0 + _ ≤ _; exact Nat.le_of_eq rfl) (hb hby y5_218) (fun _ _ => ⟨rfl, z3t, (by decide : 0 + 0 ≤ _), (by decide : 0 + 0 ≤ _)⟩)
  dsimp only [Pt.U, Pt.locs, Pt.cells, Pt.slots] at zu l403 y403 z403 z3z z3y
  replace zu := own_sub zu l403 y403 z403
  obtain ⟨rfl, z6y, zf, z6z, z70, z71⟩ := z3y
  have z72 := Fr.app z6u z6y
  have z8b := z3q.keep zf (allS zv (allS zw (allS zx all0)))
  have z73 := z6v.trans zf (allS (own_Ix 3 rfl) (allS (own_Ix 4 rfl) (allS (own_Ix 5 rfl) all0)))
  have z74 := (z3x.keep zf)
  have z75 := (z3u.keep zf (ninS z3 (ninS z4 (ninS z7 nin0))))
  have z76 := (z3v.keep zf (ninS z3 (ninS z4 (ninS z7 nin0))))
  have z77 := (z3w.keep zf (ninS z3 (ninS z4 (ninS z7 nin0))))
  have z78 := (((((z48.other z8 (Or.inl zg)).other z9 (Or.inl zh)).other za (Or.inr (slot_ne (Or.inl (own_W hw 19 rfl)) (Or.inl (own_W hw 38 rfl)) (by decide) (t := (.array .int)) (t' := .int) (by decide) (by decide)))).keep ze (ninS z7 (ninS z4 (ninS z3 nin0)))).keep zf (ninS z3 (ninS z4 (ninS z7 nin0))))
  have z79 := (((((z49.other z8 (Or.inl zg)).other z9 (Or.inl zh)).other za (Or.inr (slot_ne (Or.inl (own_W hw 21 rfl)) (Or.inl (own_W hw 38 rfl)) (by decide) (t := (.array .int)) (t' := .int) (by decide) (by decide)))).keep ze (ninS z7 (ninS z4 (ninS z3 nin0)))).keep zf (ninS z3 (ninS z4 (ninS z7 nin0))))
  have z7a := (((((z24.other z8 (Or.inl zg)).other z9 (Or.inl zh)).other za (Or.inr (slot_ne (Or.inl (own_W hw 25 rfl)) (Or.inl (own_W hw 38 rfl)) (by decide) (t := (.array (.object y_s3))) (t' := .int) (by decide) (by decide)))).keep ze (ninS z7 (ninS z4 (ninS z3 nin0)))).keep zf (ninS z3 (ninS z4 (ninS z7 nin0))))
  have z7b := ((((z2i.other z9 (Or.inl zh)).other za (Or.inr (slot_ne (Or.inl (own_W hw 27 rfl)) (Or.inl (own_W hw 38 rfl)) (by decide) (t := (.array .int)) (t' := .int) (by decide) (by decide)))).keep ze (ninS z7 (ninS z4 (ninS z3 nin0)))).keep zf (ninS z3 (ninS z4 (ninS z7 nin0))))
  have z7c := (z3r.keep zf (ninS z3 (ninS z4 (ninS z7 nin0))))
  have z7d := (((((z4a.other z8 (Or.inl zg)).other z9 (Or.inl zh)).other za (Or.inr (slot_ne (Or.inl (own_W hw 49 rfl)) (Or.inl (own_W hw 38 rfl)) (by decide) (t := .long) (t' := .int) (by decide) (by decide)))).keep ze (ninS z7 (ninS z4 (ninS z3 nin0)))).keep zf (ninS z3 (ninS z4 (ninS z7 nin0))))
  have z7e : own_AM Z z17.heap zb zl (.object y_s3) := ((((z4t.other z9 z26).other za (Ne.symm zg)).keep ze (ninS (Ne.symm z1a) (ninS (Ne.symm z1d) (ninS (Ne.symm z1b) nin0)))).keep zf (ninS (Ne.symm z1b) (ninS (Ne.symm z1d) (ninS (Ne.symm z1a) nin0))))
  have z7f : own_AM Z z17.heap z1 zm .int := (((z5d.other za (Ne.symm zh)).keep ze (ninS (Ne.symm z1f) (ninS (Ne.symm z1e) (ninS (Ne.symm z1c) nin0)))).keep zf (ninS (Ne.symm z1c) (ninS (Ne.symm z1e) (ninS (Ne.symm z1f) nin0))))
  obtain ⟨fs, hr, hrun, hended, hW, hsame⟩ := zu.leave (v := none) (fun _ => rfl)
  refine ⟨_, _, pre0 _ ?_, hrun, hended, _, _, rfl, ?_, ⟨_, rfl⟩, hW, hsame.mono (by decide) (by decide)⟩
  · show Steps p.tables e below (s₁.setTop (mkF m 0 #[.val (.ref z0), .unset, .unset, .unset, .unset, .unset, .unset, .unset, .unset, .unset, .unset, .unset] [])) _
    refine XS.aloadN X0.here hx rfl (hb hby y5_0) rfl rfl ?_
    refine z4c _ ?_
    show Steps p.tables e below (z2d.setTop (mkF m 4 #[.val (.ref z0), .unset, .unset, .unset, .unset, .unset, .unset, .unset, .unset, .unset, .unset, .unset] [(.ref z2)])) _
    refine XS.iconst zs.here hx rfl (hb hby y5_4) ?_
    refine zs.iaload hx (j := (0 : Int32)) (v := (.int s1)) (by rw [z2e]; exact z1g.1) (State.isArrayOf_alike hZ.alike z1g.2.1) z1g.2.2 z2g z4f (g := (mkF m 5 #[.val (.ref z0), .unset, .unset, .unset, .unset, .unset, .unset, .unset, .unset, .unset, .unset, .unset] [(.int 0), (.ref z2)])) rfl rfl (hb hby y5_5) _ ?_
    show Steps p.tables e below (z2d.setTop (mkF m 6 #[.val (.ref z0), .unset, .unset, .unset, .unset, .unset, .unset, .unset, .unset, .unset, .unset, .unset] [(.int s1)])) _
    refine XS.istoreN zs.here hx rfl (hb hby y5_6) rfl (l' := #[.val (.ref z0), .val (.int s1), .unset, .unset, .unset, .unset, .unset, .unset, .unset, .unset, .unset, .unset]) rfl ?_
    refine XS.aloadN zs.here hx rfl (hb hby y5_7) rfl rfl ?_
    refine z4i _ ?_
    show Steps p.tables e below (z4g.setTop (mkF m 11 #[.val (.ref z0), .val (.int s1), .unset, .unset, .unset, .unset, .unset, .unset, .unset, .unset, .unset, .unset] [(.ref zb)])) _
    refine XS.iloadN z1h.here hx rfl (hb hby y5_11) rfl ?_
    refine XS.aconstNull z1h.here hx rfl (hb hby y5_12) ?_
    refine z4p _ ?_
    show Steps p.tables e below (z4n.setTop (mkF m 14 #[.val (.ref z0), .val (.int s1), .unset, .unset, .unset, .unset, .unset, .unset, .unset, .unset, .unset, .unset] [])) _
    refine XS.aloadN z1i.here hx rfl (hb hby y5_14) rfl rfl ?_
    refine z4w _ ?_
    show Steps p.tables e below (z4u.setTop (mkF m 18 #[.val (.ref z0), .val (.int s1), .unset, .unset, .unset, .unset, .unset, .unset, .unset, .unset, .unset, .unset] [(.ref z1)])) _
    refine XS.aloadN z2j.here hx rfl (hb hby y5_18) rfl rfl ?_
    refine z4x _ ?_
    show Steps p.tables e below (z2l.setTop (mkF m 22 #[.val (.ref z0), .val (.int s1), .unset, .unset, .unset, .unset, .unset, .unset, .unset, .unset, .unset, .unset] [(.ref z2), (.ref z1)])) _
    refine z1j.arraylength hx (by rw [z2m]; exact z2o.1) (State.isArrayOf_alike hZ.alike z2o.2.1) (g := (mkF m 22 #[.val (.ref z0), .val (.int s1), .unset, .unset, .unset, .unset, .unset, .unset, .unset, .unset, .unset, .unset] [(.ref z2), (.ref z1)])) rfl rfl (hb hby y5_22) _ ?_
    rw [len_of z4y z4z]
    show Steps p.tables e below (z2l.setTop (mkF m 23 #[.val (.ref z0), .val (.int s1), .unset, .unset, .unset, .unset, .unset, .unset, .unset, .unset, .unset, .unset] [(.int 16), (.ref z1)])) _
    refine XS.aloadN z1j.here hx rfl (hb hby y5_23) rfl rfl ?_
    refine z51 _ ?_
    show Steps p.tables e below (z2q.setTop (mkF m 27 #[.val (.ref z0), .val (.int s1), .unset, .unset, .unset, .unset, .unset, .unset, .unset, .unset, .unset, .unset] [(.int 3), (.int 16), (.ref z1)])) _
    refine XS.isub z1k.here hx rfl (hb hby y5_27) rfl ?_
    show Steps p.tables e below (z2q.setTop (mkF m 28 #[.val (.ref z0), .val (.int s1), .unset, .unset, .unset, .unset, .unset, .unset, .unset, .unset, .unset, .unset] [(.int 13), (.ref z1)])) _
    refine XS.iloadN z1k.here hx rfl (hb hby y5_28) rfl ?_
    refine z59 _ ?_
    show Steps p.tables e below (z56.setTop (mkF m 30 #[.val (.ref z0), .val (.int s1), .unset, .unset, .unset, .unset, .unset, .unset, .unset, .unset, .unset, .unset] [])) _
    refine XS.aloadN zy.here hx rfl (hb hby y5_30) rfl rfl ?_
    refine XS.dup zy.here hx rfl (hb hby y5_31) rfl rfl ?_
    refine z5f _ ?_
    show Steps p.tables e below (z2s.setTop (mkF m 35 #[.val (.ref z0), .val (.int s1), .unset, .unset, .unset, .unset, .unset, .unset, .unset, .unset, .unset, .unset] [(.int 3), (.ref z0)])) _
    refine XS.iconst z1m.here hx rfl (hb hby y5_35) ?_
    refine XS.isub z1m.here hx rfl (hb hby y5_36) rfl ?_
    show Steps p.tables e below (z2s.setTop (mkF m 37 #[.val (.ref z0), .val (.int s1), .unset, .unset, .unset, .unset, .unset, .unset, .unset, .unset, .unset, .unset] [(.int 2), (.ref z0)])) _
    refine z5i _ ?_
    show Steps p.tables e below (z5g.setTop (mkF m 40 #[.val (.ref z0), .val (.int s1), .unset, .unset, .unset, .unset, .unset, .unset, .unset, .unset, .unset, .unset] [])) _
    refine XS.aloadN z1n.here hx rfl (hb hby y5_40) rfl rfl ?_
    refine z5n _ ?_
    show Steps p.tables e below (z5l.setTop (mkF m 44 #[.val (.ref z0), .val (.int s1), .unset, .unset, .unset, .unset, .unset, .unset, .unset, .unset, .unset, .unset] [(.ref z5)])) _
    refine XS.aloadN z2u.here hx rfl (hb hby y5_44) rfl rfl ?_
    refine z5o _ ?_
    show Steps p.tables e below (z2v.setTop (mkF m 48 #[.val (.ref z0), .val (.int s1), .unset, .unset, .unset, .unset, .unset, .unset, .unset, .unset, .unset, .unset] [(.int 2), (.ref z5)])) _
    refine z12.daload hx (j := (2 : Int32)) (v := (.double (Jvm.FP.l2d (x3.toInt64)))) (by rw [z2w]; exact z1p.1) (State.isArrayOf_alike hZ.alike z1p.2.1) z1p.2.2 z2y z5r (g := (mkF m 48 #[.val (.ref z0), .val (.int s1), .unset, .unset, .unset, .unset, .unset, .unset, .unset, .unset, .unset, .unset] [(.int 2), (.ref z5)])) rfl rfl (hb hby y5_48) _ ?_
    show Steps p.tables e below (z2v.setTop (mkF m 49 #[.val (.ref z0), .val (.int s1), .unset, .unset, .unset, .unset, .unset, .unset, .unset, .unset, .unset, .unset] [(.double (Jvm.FP.l2d (x3.toInt64)))])) _
    refine XS.dstoreN z12.here hx rfl (hb hby y5_49) rfl (l' := #[.val (.ref z0), .val (.int s1), .val (.double (Jvm.FP.l2d (x3.toInt64))), .second, .unset, .unset, .unset, .unset, .unset, .unset, .unset, .unset]) rfl ?_
    refine XS.aloadN z12.here hx rfl (hb hby y5_50) rfl rfl ?_
    refine z5u _ ?_
    show Steps p.tables e below (z5s.setTop (mkF m 54 #[.val (.ref z0), .val (.int s1), .val (.double (Jvm.FP.l2d (x3.toInt64))), .second, .unset, .unset, .unset, .unset, .unset, .unset, .unset, .unset] [(.ref z6)])) _
    refine XS.aloadN z2z.here hx rfl (hb hby y5_54) rfl rfl ?_
    refine z5v _ ?_
    show Steps p.tables e below (z30.setTop (mkF m 58 #[.val (.ref z0), .val (.int s1), .val (.double (Jvm.FP.l2d (x3.toInt64))), .second, .unset, .unset, .unset, .unset, .unset, .unset, .unset, .unset] [(.int 2), (.ref z6)])) _
    refine z14.laload hx (j := (2 : Int32)) (v := (.long c3)) (by rw [z31]; exact z1r.1) (State.isArrayOf_alike hZ.alike z1r.2.1) z1r.2.2 z33 z5y (g := (mkF m 58 #[.val (.ref z0), .val (.int s1), .val (.double (Jvm.FP.l2d (x3.toInt64))), .second, .unset, .unset, .unset, .unset, .unset, .unset, .unset, .unset] [(.int 2), (.ref z6)])) rfl rfl (hb hby y5_58) _ ?_
    show Steps p.tables e below (z30.setTop (mkF m 59 #[.val (.ref z0), .val (.int s1), .val (.double (Jvm.FP.l2d (x3.toInt64))), .second, .unset, .unset, .unset, .unset, .unset, .unset, .unset, .unset] [(.long c3)])) _
    refine XS.lstore z14.here hx rfl (hb hby y5_59) rfl (l' := #[.val (.ref z0), .val (.int s1), .val (.double (Jvm.FP.l2d (x3.toInt64))), .second, .val (.long c3), .second, .unset, .unset, .unset, .unset, .unset, .unset]) rfl ?_
    refine XS.aloadN z14.here hx rfl (hb hby y5_61) rfl rfl ?_
    refine z61 _ ?_
    show Steps p.tables e below (z5z.setTop (mkF m 65 #[.val (.ref z0), .val (.int s1), .val (.double (Jvm.FP.l2d (x3.toInt64))), .second, .val (.long c3), .second, .unset, .unset, .unset, .unset, .unset, .unset] [(.ref z2)])) _
    refine XS.aloadN z34.here hx rfl (hb hby y5_65) rfl rfl ?_
    refine z62 _ ?_
    show Steps p.tables e below (z35.setTop (mkF m 69 #[.val (.ref z0), .val (.int s1), .val (.double (Jvm.FP.l2d (x3.toInt64))), .second, .val (.long c3), .second, .unset, .unset, .unset, .unset, .unset, .unset] [(.int 2), (.ref z2)])) _
    refine zi.iaload hx (j := (2 : Int32)) (v := (.int s3)) (by rw [z36]; exact z1t.1) (State.isArrayOf_alike hZ.alike z1t.2.1) z1t.2.2 z39 z65 (g := (mkF m 69 #[.val (.ref z0), .val (.int s1), .val (.double (Jvm.FP.l2d (x3.toInt64))), .second, .val (.long c3), .second, .unset, .unset, .unset, .unset, .unset, .unset] [(.int 2), (.ref z2)])) rfl rfl (hb hby y5_69) _ ?_
    show Steps p.tables e below (z35.setTop (mkF m 70 #[.val (.ref z0), .val (.int s1), .val (.double (Jvm.FP.l2d (x3.toInt64))), .second, .val (.long c3), .second, .unset, .unset, .unset, .unset, .unset, .unset] [(.int s3)])) _
    refine XS.istore zi.here hx rfl (hb hby y5_70) rfl (l' := #[.val (.ref z0), .val (.int s1), .val (.double (Jvm.FP.l2d (x3.toInt64))), .second, .val (.long c3), .second, .val (.int s3), .unset, .unset, .unset, .unset, .unset]) rfl ?_
    refine XS.iconst zi.here hx rfl (hb hby y5_72) ?_
    refine XS.istore zi.here hx rfl (hb hby y5_73) rfl (l' := #[.val (.ref z0), .val (.int s1), .val (.double (Jvm.FP.l2d (x3.toInt64))), .second, .val (.long c3), .second, .val (.int s3), .val (.int 0), .unset, .unset, .unset, .unset]) rfl ?_
    refine XS.iconst zi.here hx rfl (hb hby y5_75) ?_
    refine XS.istore zi.here hx rfl (hb hby y5_76) rfl (l' := #[.val (.ref z0), .val (.int s1), .val (.double (Jvm.FP.l2d (x3.toInt64))), .second, .val (.long c3), .second, .val (.int s3), .val (.int 0), .val (.int 1), .unset, .unset, .unset]) rfl ?_
    refine XS.iload zi.here hx rfl (hb hby y5_78) rfl ?_
    refine XS.aloadN zi.here hx rfl (hb hby y5_80) rfl rfl ?_
    refine z67 _ ?_
    show Steps p.tables e below (z1u.setTop (mkF m 84 #[.val (.ref z0), .val (.int s1), .val (.double (Jvm.FP.l2d (x3.toInt64))), .second, .val (.long c3), .second, .val (.int s3), .val (.int 0), .val (.int 1), .unset, .unset, .unset] [(.int 2), (.int 1)])) _
    refine XS.icmpNo zo.here hx rfl (hb hby y5_84) rfl (tlt (by decide : (1 : Int32) < (2 : Int32))).2.1 ?_
    show Steps p.tables e below (z1u.setTop (mkF m 87 #[.val (.ref z0), .val (.int s1), .val (.double (Jvm.FP.l2d (x3.toInt64))), .second, .val (.long c3), .second, .val (.int s3), .val (.int 0), .val (.int 1), .unset, .unset, .unset] [])) _
    refine XS.iload zo.here hx rfl (hb hby y5_87) rfl ?_
    refine XS.iconst zo.here hx rfl (hb hby y5_89) ?_
    refine XS.iadd zo.here hx rfl (hb hby y5_90) rfl ?_
    show Steps p.tables e below (z1u.setTop (mkF m 91 #[.val (.ref z0), .val (.int s1), .val (.double (Jvm.FP.l2d (x3.toInt64))), .second, .val (.long c3), .second, .val (.int s3), .val (.int 0), .val (.int 1), .unset, .unset, .unset] [(.int 5)])) _
    refine XS.aloadN zo.here hx rfl (hb hby y5_91) rfl rfl ?_
    refine z6b _ ?_
    show Steps p.tables e below (z68.setTop (mkF m 95 #[.val (.ref z0), .val (.int s1), .val (.double (Jvm.FP.l2d (x3.toInt64))), .second, .val (.long c3), .second, .val (.int s3), .val (.int 0), .val (.int 1), .unset, .unset, .unset] [(.int 2), (.int 5)])) _
    refine z3b _ ?_
    show Steps p.tables e below (z1v.setTop (mkF m 98 #[.val (.ref z0), .val (.int s1), .val (.double (Jvm.FP.l2d (x3.toInt64))), .second, .val (.long c3), .second, .val (.int s3), .val (.int 0), .val (.int 1), .unset, .unset, .unset] [(.int 2)])) _
    refine XS.istore zc.here hx rfl (hb hby y5_98) rfl (l' := #[.val (.ref z0), .val (.int s1), .val (.double (Jvm.FP.l2d (x3.toInt64))), .second, .val (.long c3), .second, .val (.int s3), .val (.int 0), .val (.int 1), .val (.int 2), .unset, .unset]) rfl ?_
    refine XS.iload zc.here hx rfl (hb hby y5_100) rfl ?_
    refine XS.istore zc.here hx rfl (hb hby y5_102) rfl (l' := #[.val (.ref z0), .val (.int s1), .val (.double (Jvm.FP.l2d (x3.toInt64))), .second, .val (.long c3), .second, .val (.int s3), .val (.int 0), .val (.int 1), .val (.int 2), .val (.int 1), .unset]) rfl ?_
    refine XS.iload zc.here hx rfl (hb hby y5_104) rfl ?_
    refine XS.iconst zc.here hx rfl (hb hby y5_106) ?_
    refine XS.iadd zc.here hx rfl (hb hby y5_107) rfl ?_
    show Steps p.tables e below (z1v.setTop (mkF m 108 #[.val (.ref z0), .val (.int s1), .val (.double (Jvm.FP.l2d (x3.toInt64))), .second, .val (.long c3), .second, .val (.int s3), .val (.int 0), .val (.int 1), .val (.int 2), .val (.int 1), .unset] [(.int 2)])) _
    refine XS.istore zc.here hx rfl (hb hby y5_108) rfl (l' := #[.val (.ref z0), .val (.int s1), .val (.double (Jvm.FP.l2d (x3.toInt64))), .second, .val (.long c3), .second, .val (.int s3), .val (.int 0), .val (.int 1), .val (.int 2), .val (.int 1), .val (.int 2)]) rfl ?_
    refine XS.iload zc.here hx rfl (hb hby y5_110) rfl ?_
    refine XS.iload zc.here hx rfl (hb hby y5_112) rfl ?_
    refine XS.icmpYes zc.here hx rfl (pc0 := 114) (pc' := 161) rfl (hb hby y5_114) rfl (flt (by decide : ¬ ((2 : Int32) < (2 : Int32)))).2.1 (by decide) (by decide) ?_
    show Steps p.tables e below (z1v.setTop (mkF m 161 #[.val (.ref z0), .val (.int s1), .val (.double (Jvm.FP.l2d (x3.toInt64))), .second, .val (.long c3), .second, .val (.int s3), .val (.int 0), .val (.int 1), .val (.int 2), .val (.int 1), .val (.int 2)] [])) _
    refine XS.aloadN zc.here hx rfl (hb hby y5_161) rfl rfl ?_
    refine z6f _ ?_
    show Steps p.tables e below (z3c.setTop (mkF m 165 #[.val (.ref z0), .val (.int s1), .val (.double (Jvm.FP.l2d (x3.toInt64))), .second, .val (.long c3), .second, .val (.int s3), .val (.int 0), .val (.int 1), .val (.int 2), .val (.int 1), .val (.int 2)] [(.ref z5)])) _
    refine XS.iload z15.here hx rfl (hb hby y5_165) rfl ?_
    refine z15.daload hx (j := (1 : Int32)) (v := (.double (Jvm.FP.l2d (x2.toInt64)))) (by rw [z3d]; exact z1w.1) (State.isArrayOf_alike hZ.alike z1w.2.1) z1w.2.2 z3f z6i (g := (mkF m 167 #[.val (.ref z0), .val (.int s1), .val (.double (Jvm.FP.l2d (x3.toInt64))), .second, .val (.long c3), .second, .val (.int s3), .val (.int 0), .val (.int 1), .val (.int 2), .val (.int 1), .val (.int 2)] [(.int 1), (.ref z5)])) rfl rfl (hb hby y5_167) _ ?_
    show Steps p.tables e below (z3c.setTop (mkF m 168 #[.val (.ref z0), .val (.int s1), .val (.double (Jvm.FP.l2d (x3.toInt64))), .second, .val (.long c3), .second, .val (.int s3), .val (.int 0), .val (.int 1), .val (.int 2), .val (.int 1), .val (.int 2)] [(.double (Jvm.FP.l2d (x2.toInt64)))])) _
    refine XS.aloadN z15.here hx rfl (hb hby y5_168) rfl rfl ?_
    refine z6j _ ?_
    show Steps p.tables e below (z3g.setTop (mkF m 172 #[.val (.ref z0), .val (.int s1), .val (.double (Jvm.FP.l2d (x3.toInt64))), .second, .val (.long c3), .second, .val (.int s3), .val (.int 0), .val (.int 1), .val (.int 2), .val (.int 1), .val (.int 2)] [(.ref z6), (.double (Jvm.FP.l2d (x2.toInt64)))])) _
    refine XS.iload zt.here hx rfl (hb hby y5_172) rfl ?_
    refine zt.laload hx (j := (1 : Int32)) (v := (.long c2)) (by rw [z3h]; exact z1x.1) (State.isArrayOf_alike hZ.alike z1x.2.1) z1x.2.2 z3j z6m (g := (mkF m 174 #[.val (.ref z0), .val (.int s1), .val (.double (Jvm.FP.l2d (x3.toInt64))), .second, .val (.long c3), .second, .val (.int s3), .val (.int 0), .val (.int 1), .val (.int 2), .val (.int 1), .val (.int 2)] [(.int 1), (.ref z6), (.double (Jvm.FP.l2d (x2.toInt64)))])) rfl rfl (hb hby y5_174) _ ?_
    show Steps p.tables e below (z3g.setTop (mkF m 175 #[.val (.ref z0), .val (.int s1), .val (.double (Jvm.FP.l2d (x3.toInt64))), .second, .val (.long c3), .second, .val (.int s3), .val (.int 0), .val (.int 1), .val (.int 2), .val (.int 1), .val (.int 2)] [(.long c2), (.double (Jvm.FP.l2d (x2.toInt64)))])) _
    refine XS.dloadN zt.here hx rfl (hb hby y5_175) rfl ?_
    refine XS.lload zt.here hx rfl (hb hby y5_176) rfl ?_
    refine z3m _ ?_
    show Steps p.tables e below (z3k.setTop (mkF m 181 #[.val (.ref z0), .val (.int s1), .val (.double (Jvm.FP.l2d (x3.toInt64))), .second, .val (.long c3), .second, .val (.int s3), .val (.int 0), .val (.int 1), .val (.int 2), .val (.int 1), .val (.int 2)] [(.int (own_f_rmIB x2 x3 c2 c3))])) _
    refine XS.ifYes zj.here hx rfl (pc0 := 181) (pc' := 187) rfl (hb hby y5_181) rfl ((if0 _ _).trans (feq hb_).2) (by decide) (by decide) ?_
    show Steps p.tables e below (z3k.setTop (mkF m 187 #[.val (.ref z0), .val (.int s1), .val (.double (Jvm.FP.l2d (x3.toInt64))), .second, .val (.long c3), .second, .val (.int s3), .val (.int 0), .val (.int 1), .val (.int 2), .val (.int 1), .val (.int 2)] [])) _
    refine XS.aloadN zj.here hx rfl (hb hby y5_187) rfl rfl ?_
    refine XS.iload zj.here hx rfl (hb hby y5_188) rfl ?_
    refine XS.iload zj.here hx rfl (hb hby y5_190) rfl ?_
    refine z3p.trans ?_
    show Steps p.tables e below (z16.setTop (mkF m 195 #[.val (.ref z0), .val (.int s1), .val (.double (Jvm.FP.l2d (x3.toInt64))), .second, .val (.long c3), .second, .val (.int s3), .val (.int 0), .val (.int 1), .val (.int 2), .val (.int 1), .val (.int 2)] [])) _
    refine XS.iload zd.here hx rfl (hb hby y5_195) rfl ?_
    refine XS.istore zd.here hx rfl (hb hby y5_197) rfl (l' := #[.val (.ref z0), .val (.int s1), .val (.double (Jvm.FP.l2d (x3.toInt64))), .second, .val (.long c3), .second, .val (.int s3), .val (.int 1), .val (.int 1), .val (.int 2), .val (.int 1), .val (.int 2)]) rfl ?_
    refine XS.iload zd.here hx rfl (hb hby y5_199) rfl ?_
    refine XS.iconst zd.here hx rfl (hb hby y5_201) ?_
    refine XS.imul zd.here hx rfl (hb hby y5_202) rfl ?_
    show Steps p.tables e below (z16.setTop (mkF m 203 #[.val (.ref z0), .val (.int s1), .val (.double (Jvm.FP.l2d (x3.toInt64))), .second, .val (.long c3), .second, .val (.int s3), .val (.int 1), .val (.int 1), .val (.int 2), .val (.int 1), .val (.int 2)] [(.int 4)])) _
    refine XS.iconst zd.here hx rfl (hb hby y5_203) ?_
    refine XS.iadd zd.here hx rfl (hb hby y5_204) rfl ?_
    show Steps p.tables e below (z16.setTop (mkF m 205 #[.val (.ref z0), .val (.int s1), .val (.double (Jvm.FP.l2d (x3.toInt64))), .second, .val (.long c3), .second, .val (.int s3), .val (.int 1), .val (.int 1), .val (.int 2), .val (.int 1), .val (.int 2)] [(.int 5)])) _
    refine XS.istore zd.here hx rfl (hb hby y5_205) rfl (l' := #[.val (.ref z0), .val (.int s1), .val (.double (Jvm.FP.l2d (x3.toInt64))), .second, .val (.long c3), .second, .val (.int s3), .val (.int 1), .val (.int 5), .val (.int 2), .val (.int 1), .val (.int 2)]) rfl ?_
    refine XS.goto zd.here hx rfl (pc0 := 207) (pc' := 78) rfl (hb hby y5_207) (by decide) (by decide) ?_
    refine XS.iload zd.here hx rfl (hb hby y5_78) rfl ?_
    refine XS.aloadN zd.here hx rfl (hb hby y5_80) rfl rfl ?_
    refine z6w _ ?_
    show Steps p.tables e below (z3s.setTop (mkF m 84 #[.val (.ref z0), .val (.int s1), .val (.double (Jvm.FP.l2d (x3.toInt64))), .second, .val (.long c3), .second, .val (.int s3), .val (.int 1), .val (.int 5), .val (.int 2), .val (.int 1), .val (.int 2)] [(.int 2), (.int 5)])) _
    refine XS.icmpYes zk.here hx rfl (pc0 := 84) (pc' := 210) rfl (hb hby y5_84) rfl (flt (by decide : ¬ ((5 : Int32) < (2 : Int32)))).2.1 (by decide) (by decide) ?_
    show Steps p.tables e below (z3s.setTop (mkF m 210 #[.val (.ref z0), .val (.int s1), .val (.double (Jvm.FP.l2d (x3.toInt64))), .second, .val (.long c3), .second, .val (.int s3), .val (.int 1), .val (.int 5), .val (.int 2), .val (.int 1), .val (.int 2)] [])) _
    refine XS.aloadN zk.here hx rfl (hb hby y5_210) rfl rfl ?_
    refine XS.iload zk.here hx rfl (hb hby y5_211) rfl ?_
    refine XS.dloadN zk.here hx rfl (hb hby y5_213) rfl ?_
    refine XS.lload zk.here hx rfl (hb hby y5_214) rfl ?_
    refine XS.iload zk.here hx rfl (hb hby y5_216) rfl ?_
    refine z3z.trans ?_
    show Steps p.tables e below (z17.setTop (mkF m 221 #[.val (.ref z0), .val (.int s1), .val (.double (Jvm.FP.l2d (x3.toInt64))), .second, .val (.long c3), .second, .val (.int s3), .val (.int 1), .val (.int 5), .val (.int 2), .val (.int 1), .val (.int 2)] [])) _
    exact zu.returnOut hx Bd.returns (hb hby y5_221) hr
  · show Q_rmR3y Z A K x1 x2 x3 c1 c2 c3 s1 s2 s3 z1z z20 z21 t1 t2 t3 ga z0 z5 z6 z2 z18 z19 zb z1 zp zq zr zl zm h0 n0 _ z17.heap _
    exact ⟨rfl, z72, z73, z74, z75, z76, z77, z78, z79, z7a, z7b, z7c, z7d, z6z, z70, z71, z7e, z4b, z7f⟩
def Q_rmR3n (Z : State) (A : Nat → Addr) (K : Nat → ClassId) (x1 : Int32) (x2 : Int32) (x3 : Int32) (c1 : Int64) (c2 : Int64) (c3 : Int64) (s1 : Int32) (s2 : Int32) (s3 : Int32) (zd : Int32) (ze : Int32) (zf : Int32) (t1 : Int32) (t2 : Int32) (t3 : Int32) (ga : Int64) (z0 : Addr) (z1 : Addr) (z2 : Addr) (z3 : Addr) (z7 : Addr) (z8 : Addr) (z4 : Addr) (z5 : Addr) (z9 : ClassId) (za : ClassId) (zb : ClassId) (z6 : ClassId) (zc : ClassId) (h0 : Heap) (n0 : Nat) (v : Option Value) (h : Heap) (L : List Loc) : Prop := v = none ∧ Fr n0 L ∧ Keep h0 h [z4, z5, z0, z3, z2, z1] ∧ (Exa Z h z0 y_s0) ∧ (Fld Z h z0 y_s0 "at" "[D" (.ref z1)) ∧ (Fld Z h z0 y_s0 "added" "[J" (.ref z2)) ∧ (Fld Z h z0 y_s0 "slot" "[I" (.ref z3)) ∧ (Fld Z h z0 y_s0 "from" "[I" (.ref z7)) ∧ (Fld Z h z0 y_s0 "to" "[I" (.ref z8)) ∧ (Fld Z h z0 y_s0 "message" y_s1 (.ref z4)) ∧ (Fld Z h z0 y_s0 "free" "[I" (.ref z5)) ∧ (Fld Z h z0 y_s0 "size" "I" (.int 2)) ∧ (Fld Z h z0 y_s0 "additions" "J" (.long ga)) ∧ (Arv Z h z1 z9 .double (16 : Int32) [(.double (Jvm.FP.l2d (x3.toInt64))), (.double (Jvm.FP.l2d (x2.toInt64))), (.double (Jvm.FP.l2d (x3.toInt64)))] (.double (Jvm.FP.l2d ((0 : Int32).toInt64)))) ∧ (Arv Z h z2 za .long (16 : Int32) [(.long c3), (.long c2), (.long c3)] (.long 0)) ∧ (Arv Z h z3 zb .int 16 [(.int s3), (.int s2), (.int s3)] (.int 0)) ∧ (own_AM Z h z4 z6 (.object y_s3)) ∧ (Ovr Z z6 y_s3) ∧ (own_AM Z h z5 zc .int)
theorem y5_184 : decode prog_48_method_8_code 184 = .ok (.goto 26, 3) := by decide +kernel
set_option maxRecDepth 65536 in
set_option maxHeartbeats 40000000 in
theorem rmR3n (l : Launch) (Z : State) (a0 : Array Value) (hw : ∀ d ∈ tables_1, d.before a0 Z = true) (ws : List Jvm.Cond) (h0 : Heap) (n0 : Nat) (A : Nat → Addr) (K : Nat → ClassId) (x1 : Int32) (x2 : Int32) (x3 : Int32) (c1 : Int64) (c2 : Int64) (c3 : Int64) (s1 : Int32) (s2 : Int32) (s3 : Int32) (z1l : Int32) (z1m : Int32) (z1n : Int32) (t1 : Int32) (t2 : Int32) (t3 : Int32) (ga : Int64)  (z0 : Addr) (z3 : Addr) (z4 : Addr) (z2 : Addr) (z11 : Addr) (z12 : Addr) (z8 : Addr) (z1 : Addr) (zp : ClassId) (zq : ClassId) (zr : ClassId) (zi : ClassId) (zj : ClassId) (EN : own_St Z A K) (OL0 : Old Z n0 h0) (z1o : Fld Z h0 z0 y_s0 "slot" "[I" (.ref z2)) (z1p : Arv Z h0 z2 zr .int 16 [(.int s1), (.int s2), (.int s3)] (.int 0)) (z1q : Fld Z h0 z0 y_s0 "message" y_s1 (.ref z8)) (z1r : own_AM Z h0 z8 zi (.object y_s3)) (z3j : Fld Z h0 z0 y_s0 "free" "[I" (.ref z1)) (z3k : Fld Z h0 z0 y_s0 "size" "I" (.int 3)) (z3l : own_AM Z h0 z1 zj .int) (z3m : Exa Z h0 z0 y_s0) (z3n : Fld Z h0 z0 y_s0 "at" "[D" (.ref z3)) (z3o : Arv Z h0 z3 zp .double (16 : Int32) [(.double (Jvm.FP.l2d (x1.toInt64))), (.double (Jvm.FP.l2d (x2.toInt64))), (.double (Jvm.FP.l2d (x3.toInt64)))] (.double (Jvm.FP.l2d ((0 : Int32).toInt64)))) (z3p : Fld Z h0 z0 y_s0 "added" "[J" (.ref z4)) (z3q : Arv Z h0 z4 zq .long (16 : Int32) [(.long c1), (.long c2), (.long c3)] (.long 0)) (z3r : Fld Z h0 z0 y_s0 "from" "[I" (.ref z11)) (z3s : Fld Z h0 z0 y_s0 "to" "[I" (.ref z12)) (z3t : Fld Z h0 z0 y_s0 "additions" "J" (.long ga)) (z3u : Ovr Z zi y_s3) (hs0 : ¬ (s1 < (0 : Int32))) (hs1 : s1 < (16 : Int32)) (hb_ : (own_f_rmIB x2 x3 c2 c3) = (0 : Int32)) (ze : z0 ≠ z8) (z1s : z2 ≠ z8) (z1t : z8 ≠ z1) (zf : z0 ≠ z1) (z1u : z3 ≠ z8) (z1v : z3 ≠ z1) (zb : z0 ≠ z3) (z1w : z4 ≠ z8) (z1x : z4 ≠ z1) (zc : z0 ≠ z4) (z1y : z2 ≠ z1) (zg : z0 ≠ z2) (z3v : z3 ≠ z4) (z3w : z3 ≠ z2) (z3x : z4 ≠ z2) (z1z : n0 ≤ z8) (z20 : n0 ≤ z1) (z21 : n0 ≤ z0) (z22 : n0 ≤ z3) (z23 : n0 ≤ z4) (z24 : n0 ≤ z2) :
    MetFree l own_m1 (head1 (Jvm.Cond.code own_m1 prog_48_method_8_code 12 none :: ws) (Room.mk 2 0 0 32)) (fun a U => a = #[(.ref z0)] ∧ Z.Warmed39 U.vm ∧ U.heap = h0) (fun _ _ _ _ _ => True) (fun _ U o U' => ∃ v L, o = .returned v ∧ Q_rmR3n Z A K x1 x2 x3 c1 c2 c3 s1 s2 s3 z1l z1m z1n t1 t2 t3 ga z0 z3 z4 z2 z11 z12 z8 z1 zp zq zr zi zj h0 n0 v U'.heap L ∧ FrameEnd U o U' L (Room.mk 2 0 0 32).cells (Room.mk 2 0 0 32).slots) := by
  refine MetFree.of_bodySF (plainFor_of_name own_pn0) hisR ?_
  intro p e s m args below meth c s₁ Bd hml0 hP hK
  obtain ⟨rfl, hZ, hh⟩ := hP
  have hx := Bd.exec
  have hby := Bd.bytes
  have hml : c.maxLocals = 12 := hml0
  have hown : s.vm.findClass y_s0 = some m.cls := findClass_of_methodNamed Bd.named
  have hnm := (name_of_methodNamed Bd.named Bd.method).1
  have X0 : Stand p l e (Room.mk 2 0 0 32) s m #[(.ref z0)] below meth c s₁ [] 0 0 := Stand.of_body Bd
  have e0 : s₁.heap = h0 := by rw [← hh, Bd.state]; rfl
  have N0 := Fr.nil n0
  have pre0 : ∀ t, Steps p.tables e below (s₁.setTop (mkF m 0 #[.val (.ref z0), .unset, .unset, .unset, .unset, .unset, .unset, .unset, .unset, .unset, .unset, .unset] [])) t → Steps p.tables e below (s₁.setTop (entryFrame m #[(.ref z0)] 12)) t := fun t k => castTop (by first | (simp [entryFrame, mkF, argsToLocals, Value.category, maxLocals]; done) | rfl) k
  have KK0 : Keep h0 h0 [z8, z1, z0, z2, z4, z3] := Keep.refl _ _
  obtain ⟨z25, zm, z26, z3y⟩ := getF X0 hx hZ hown (host := "") (Or.inl (own_W hw 16 rfl)) Via.refl e0 z1o (g := (mkF m 1 #[.val (.ref z0), .unset, .unset, .unset, .unset, .unset, .unset, .unset, .unset, .unset, .unset, .unset] [(.ref z0)])) rfl rfl (hb hby y5_1)
  obtain ⟨z27, z13, z6u, z3z, z6v, z40, z6w⟩ := (id z1p)
  have z28 : ¬ ((0 : Int32) < 0 ∨ z27.slots.size ≤ ((0 : Int32)).toNatClampNeg) := inb_of z3z ⟨by decide, by decide⟩
  have z41 : z27.slots[((0 : Int32)).toNatClampNeg]? = some (.int s1) := Has.at z40 z28 rfl
  obtain ⟨z42, z14, z43, z44⟩ := getF zm hx hZ hown (host := "") (Or.inl (own_W hw 24 rfl)) Via.refl z26 z1q (g := (mkF m 8 #[.val (.ref z0), .val (.int s1), .unset, .unset, .unset, .unset, .unset, .unset, .unset, .unset, .unset, .unset] [(.ref z0)])) rfl rfl (hb hby y5_8)
  obtain ⟨vs420, dv420, z45, z46, z6x, z47, z6y, z6z, z70⟩ := (id z1r)
  have z48 : ¬ (s1 < 0 ∨ z45.slots.size ≤ (s1).toNatClampNeg) := inb_of z47 ⟨hs0, hs1⟩
  obtain ⟨z49, z29, z15, z4a, z5, z4b⟩ := stR z14 hx hZ z43 z46 (j := s1) z48 rfl (Or.inl rfl) (g := (mkF m 13 #[.val (.ref z0), .val (.int s1), .unset, .unset, .unset, .unset, .unset, .unset, .unset, .unset, .unset, .unset] [.null, (.int s1), (.ref z8)])) rfl rfl (hb hby y5_13)
  have z4c := Fr.snoc z15 N0 z1z
  have z4d := OL0.wr z5 z1z
  have z4e := KK0.wr z5 (own_Ix 0 rfl)
  have z4f : own_AM Z z29 z8 zi (.object y_s3) := own_AM.set z1r rfl z5
  have z2a := (z3j.other z5 (Or.inl ze))
  obtain ⟨z4g, z2b, z4h, z4i⟩ := getF z15 hx hZ hown (host := "") (Or.inl (own_W hw 26 rfl)) Via.refl z4a z2a (g := (mkF m 15 #[.val (.ref z0), .val (.int s1), .unset, .unset, .unset, .unset, .unset, .unset, .unset, .unset, .unset, .unset] [(.ref z0)])) rfl rfl (hb hby y5_15)
  have z2c := (z1o.other z5 (Or.inl ze))
  obtain ⟨z2d, z16, z2e, z4j⟩ := getF z2b hx hZ hown (host := "") (Or.inl (own_W hw 16 rfl)) Via.refl z4h z2c (g := (mkF m 19 #[.val (.ref z0), .val (.int s1), .unset, .unset, .unset, .unset, .unset, .unset, .unset, .unset, .unset, .unset] [(.ref z0), (.ref z1)])) rfl rfl (hb hby y5_19)
  have z2f := (z1p.other z5 z1s)
  obtain ⟨z71, z2g, -, z4k, z4l, -, -⟩ := (id z2f)
  have z2h := (z3k.other z5 (Or.inl ze))
  obtain ⟨z2i, z17, z4m, z4n⟩ := getF z16 hx hZ hown (host := "") (Or.inl (own_W hw 37 rfl)) Via.refl z2e z2h (g := (mkF m 24 #[.val (.ref z0), .val (.int s1), .unset, .unset, .unset, .unset, .unset, .unset, .unset, .unset, .unset, .unset] [(.ref z0), (.int 16), (.ref z1)])) rfl rfl (hb hby y5_24)
  have z2j : own_AM Z z29 z1 zj .int := (z3l.other z5 (Ne.symm z1t))
  obtain ⟨vs431, dv431, z4o, z4p, z72, z4q, z73, z74, z75⟩ := (id z2j)
  have z4r : ¬ ((13 : Int32) < 0 ∨ z4o.slots.size ≤ ((13 : Int32)).toNatClampNeg) := inb_of z4q ⟨by decide, by decide⟩
  obtain ⟨z4s, z4t, zs, z4u, z6, z4v⟩ := stI z17 hx hZ z4m z4p (j := (13 : Int32)) z4r (g := (mkF m 29 #[.val (.ref z0), .val (.int s1), .unset, .unset, .unset, .unset, .unset, .unset, .unset, .unset, .unset, .unset] [(.int s1), (.int 13), (.ref z1)])) rfl rfl (hb hby y5_29)
  have z4w := Fr.snoc zs z4c z20
  have z4x := z4d.wr z6 z20
  have z4y := z4e.wr z6 (own_Ix 1 rfl)
  have z4z : own_AM Z z4t z1 zj .int := own_AM.set z2j rfl z6
  have z18 := (z2h.other z6 (Or.inl zf))
  obtain ⟨z2k, z19, z50, z51⟩ := getF zs hx hZ hown (host := "") (Or.inl (own_W hw 37 rfl)) Via.refl z4u z18 (g := (mkF m 32 #[.val (.ref z0), .val (.int s1), .unset, .unset, .unset, .unset, .unset, .unset, .unset, .unset, .unset, .unset] [(.ref z0), (.ref z0)])) rfl rfl (hb hby y5_32)
  have z2l := ((z3m.wr z5).wr z6)
  obtain ⟨z52, zt, z1a, z53, z7, z54⟩ := putF z19 hx hZ hown (host := "") (Or.inl (own_W hw 37 rfl)) Via.refl z50 z18 z2l (Or.inl (own_W hw 38 rfl)) (own_W hw 1 rfl) (ty := .int) (by decide) rfl rfl (g := (mkF m 37 #[.val (.ref z0), .val (.int s1), .unset, .unset, .unset, .unset, .unset, .unset, .unset, .unset, .unset, .unset] [(.int 2), (.ref z0)])) rfl rfl (hb hby y5_37)
  have z55 := Fr.snoc z1a z4w z21
  have zu := z4x.wr z7 z21
  have z56 := z4y.wr z7 (own_Ix 2 rfl)
  have zk : Fld Z zt z0 y_s0 "size" "I" (.int 2) := z18.same z7
  have zv := (((z3n.other z5 (Or.inl ze)).other z6 (Or.inl zf)).other z7 (Or.inr (slot_ne (Or.inl (own_W hw 11 rfl)) (Or.inl (own_W hw 38 rfl)) (by decide) (t := (.array .double)) (t' := .int) (by decide) (by decide))))
  obtain ⟨z57, z2m, z58, z59⟩ := getF z1a hx hZ hown (host := "") (Or.inl (own_W hw 10 rfl)) Via.refl z53 zv (g := (mkF m 41 #[.val (.ref z0), .val (.int s1), .unset, .unset, .unset, .unset, .unset, .unset, .unset, .unset, .unset, .unset] [(.ref z0)])) rfl rfl (hb hby y5_41)
  obtain ⟨z2n, zw, z2o, z5a⟩ := getF z2m hx hZ hown (host := "") (Or.inl (own_W hw 37 rfl)) Via.refl z58 zk (g := (mkF m 45 #[.val (.ref z0), .val (.int s1), .unset, .unset, .unset, .unset, .unset, .unset, .unset, .unset, .unset, .unset] [(.ref z0), (.ref z3)])) rfl rfl (hb hby y5_45)
  have z1b := (((z3o.other z5 z1u).other z6 z1v).other z7 (Ne.symm zb))
  obtain ⟨z2p, z1c, z76, z5b, z77, z5c, z78⟩ := (id z1b)
  have z2q : ¬ ((2 : Int32) < 0 ∨ z2p.slots.size ≤ ((2 : Int32)).toNatClampNeg) := inb_of z5b ⟨by decide, by decide⟩
  have z5d : z2p.slots[((2 : Int32)).toNatClampNeg]? = some (.double (Jvm.FP.l2d (x3.toInt64))) := Has.at z5c z2q rfl
  have zx := (((z3p.other z5 (Or.inl ze)).other z6 (Or.inl zf)).other z7 (Or.inr (slot_ne (Or.inl (own_W hw 14 rfl)) (Or.inl (own_W hw 38 rfl)) (by decide) (t := (.array .long)) (t' := .int) (by decide) (by decide))))
  obtain ⟨z5e, z2r, z5f, z5g⟩ := getF zw hx hZ hown (host := "") (Or.inl (own_W hw 13 rfl)) Via.refl z2o zx (g := (mkF m 51 #[.val (.ref z0), .val (.int s1), .val (.double (Jvm.FP.l2d (x3.toInt64))), .second, .unset, .unset, .unset, .unset, .unset, .unset, .unset, .unset] [(.ref z0)])) rfl rfl (hb hby y5_51)
  obtain ⟨z2s, zy, z2t, z5h⟩ := getF z2r hx hZ hown (host := "") (Or.inl (own_W hw 37 rfl)) Via.refl z5f zk (g := (mkF m 55 #[.val (.ref z0), .val (.int s1), .val (.double (Jvm.FP.l2d (x3.toInt64))), .second, .unset, .unset, .unset, .unset, .unset, .unset, .unset, .unset] [(.ref z0), (.ref z4)])) rfl rfl (hb hby y5_55)
  have z1d := (((z3q.other z5 z1w).other z6 z1x).other z7 (Ne.symm zc))
  obtain ⟨z2u, z1e, z79, z5i, z7a, z5j, z7b⟩ := (id z1d)
  have z2v : ¬ ((2 : Int32) < 0 ∨ z2u.slots.size ≤ ((2 : Int32)).toNatClampNeg) := inb_of z5i ⟨by decide, by decide⟩
  have z5k : z2u.slots[((2 : Int32)).toNatClampNeg]? = some (.long c3) := Has.at z5j z2v rfl
  have z1f := ((z2c.other z6 (Or.inl zf)).other z7 (Or.inr (slot_ne (Or.inl (own_W hw 17 rfl)) (Or.inl (own_W hw 38 rfl)) (by decide) (t := (.array .int)) (t' := .int) (by decide) (by decide))))
  obtain ⟨z5l, z2w, z5m, z5n⟩ := getF zy hx hZ hown (host := "") (Or.inl (own_W hw 16 rfl)) Via.refl z2t z1f (g := (mkF m 62 #[.val (.ref z0), .val (.int s1), .val (.double (Jvm.FP.l2d (x3.toInt64))), .second, .val (.long c3), .second, .unset, .unset, .unset, .unset, .unset, .unset] [(.ref z0)])) rfl rfl (hb hby y5_62)
  obtain ⟨z2x, zh, z2y, z5o⟩ := getF z2w hx hZ hown (host := "") (Or.inl (own_W hw 37 rfl)) Via.refl z5m zk (g := (mkF m 66 #[.val (.ref z0), .val (.int s1), .val (.double (Jvm.FP.l2d (x3.toInt64))), .second, .val (.long c3), .second, .unset, .unset, .unset, .unset, .unset, .unset] [(.ref z0), (.ref z2)])) rfl rfl (hb hby y5_66)
  have z2z := ((z2f.other z6 z1y).other z7 (Ne.symm zg))
  obtain ⟨z30, z1g, z7c, z5p, z7d, z5q, z7e⟩ := (id z2z)
  have z31 : ¬ ((2 : Int32) < 0 ∨ z30.slots.size ≤ ((2 : Int32)).toNatClampNeg) := inb_of z5p ⟨by decide, by decide⟩
  have z5r : z30.slots[((2 : Int32)).toNatClampNeg]? = some (.int s3) := Has.at z5q z31 rfl
  obtain ⟨z1h, zl, z5s, z5t⟩ := getF zh hx hZ hown (host := "") (Or.inl (own_W hw 37 rfl)) Via.refl z2y zk (g := (mkF m 81 #[.val (.ref z0), .val (.int s1), .val (.double (Jvm.FP.l2d (x3.toInt64))), .second, .val (.long c3), .second, .val (.int s3), .val (.int 0), .val (.int 1), .unset, .unset, .unset] [(.ref z0), (.int 1)])) rfl rfl (hb hby y5_81)
  obtain ⟨z5u, z5v, z5w, z5x⟩ := getF zl hx hZ hown (host := "") (Or.inl (own_W hw 37 rfl)) Via.refl z5s zk (g := (mkF m 92 #[.val (.ref z0), .val (.int s1), .val (.double (Jvm.FP.l2d (x3.toInt64))), .second, .val (.long c3), .second, .val (.int s3), .val (.int 0), .val (.int 1), .unset, .unset, .unset] [(.ref z0), (.int 5)])) rfl rfl (hb hby y5_92)
  obtain ⟨_, _, ⟨z1i, L454, z7f, n454⟩, -, z9, ⟨Lc454, z32, l454, y454, z454⟩, z33⟩ := Jvm.LawKit.callS z5v hx (y := own_m5) hown (mvT hZ (own_W hw 67 rfl)) (mvT hZ (own_W hw 40 rfl)) (mvT hZ (own_W hw 41 rfl)) (mvT hZ (own_W hw 42 rfl)) (by decide) (backOf (W := 0) (rm1 l Z a0 hw [] zt n0 A K EN zu) hZ (own_W hw 42 rfl) (own_W hw 41 rfl) (by decide) (by decide)) (g := (mkF m 95 #[.val (.ref z0), .val (.int s1), .val (.double (Jvm.FP.l2d (x3.toInt64))), .second, .val (.long c3), .second, .val (.int s3), .val (.int 0), .val (.int 1), .unset, .unset, .unset] [(.int 2), (.int 5)])) rfl (by rw [hml]; rfl) (argsL := [(.int 5), (.int 2)]) (rest := []) (lenOf own_pd2 rfl) rfl (by show 2 * 0 + _ ≤ _; exact Nat.le_of_eq rfl) (hb hby y5_95) (fun _ _ => ⟨rfl, z5w, (by decide : 0 + 0 ≤ _), (by decide : 0 + 0 ≤ _)⟩)
  dsimp only [Pt.U, Pt.locs, Pt.cells, Pt.slots] at z9 l454 y454 z454 z33 z32
  replace z9 := own_sub z9 l454 y454 z454
  obtain ⟨rfl, z5y, z5z⟩ := z32
  have z60 := Fr.app z55 z5y
  obtain ⟨z34, zz, z35, z61⟩ := getF z9 hx hZ hown (host := "") (Or.inl (own_W hw 10 rfl)) Via.refl z5z zv (g := (mkF m 162 #[.val (.ref z0), .val (.int s1), .val (.double (Jvm.FP.l2d (x3.toInt64))), .second, .val (.long c3), .second, .val (.int s3), .val (.int 0), .val (.int 1), .val (.int 2), .val (.int 1), .val (.int 2)] [(.ref z0)])) rfl rfl (hb hby y5_162)
  obtain ⟨z36, z1j, z7g, z62, z7h, z63, z7i⟩ := (id z1b)
  have z37 : ¬ ((1 : Int32) < 0 ∨ z36.slots.size ≤ ((1 : Int32)).toNatClampNeg) := inb_of z62 ⟨by decide, by decide⟩
  have z64 : z36.slots[((1 : Int32)).toNatClampNeg]? = some (.double (Jvm.FP.l2d (x2.toInt64))) := Has.at z63 z37 rfl
  obtain ⟨z38, zn, z39, z65⟩ := getF zz hx hZ hown (host := "") (Or.inl (own_W hw 13 rfl)) Via.refl z35 zx (g := (mkF m 169 #[.val (.ref z0), .val (.int s1), .val (.double (Jvm.FP.l2d (x3.toInt64))), .second, .val (.long c3), .second, .val (.int s3), .val (.int 0), .val (.int 1), .val (.int 2), .val (.int 1), .val (.int 2)] [(.ref z0), (.double (Jvm.FP.l2d (x2.toInt64)))])) rfl rfl (hb hby y5_169)
  obtain ⟨z3a, z1k, z7j, z66, z7k, z67, z7l⟩ := (id z1d)
  have z3b : ¬ ((1 : Int32) < 0 ∨ z3a.slots.size ≤ ((1 : Int32)).toNatClampNeg) := inb_of z66 ⟨by decide, by decide⟩
  have z68 : z3a.slots[((1 : Int32)).toNatClampNeg]? = some (.long c2) := Has.at z67 z3b rfl
  obtain ⟨_, _, ⟨z3c, L459, z7m, n459⟩, -, zd, ⟨Lc459, z3d, l459, y459, z459⟩, z3e⟩ := Jvm.LawKit.callS zn hx (y := own_m6) hown (mvT hZ (own_W hw 68 rfl)) (mvT hZ (own_W hw 69 rfl)) (mvT hZ (own_W hw 2 rfl)) (mvT hZ (own_W hw 70 rfl)) (by decide) (backOf (W := 0) (rmIB l Z a0 hw [] zt n0 A K x2 x3 c2 c3 EN zu) hZ (own_W hw 70 rfl) (own_W hw 2 rfl) (by decide) (by decide)) (g := (mkF m 178 #[.val (.ref z0), .val (.int s1), .val (.double (Jvm.FP.l2d (x3.toInt64))), .second, .val (.long c3), .second, .val (.int s3), .val (.int 0), .val (.int 1), .val (.int 2), .val (.int 1), .val (.int 2)] [(.long c3), (.double (Jvm.FP.l2d (x3.toInt64))), (.long c2), (.double (Jvm.FP.l2d (x2.toInt64)))])) rfl (by rw [hml]; rfl) (argsL := [(.double (Jvm.FP.l2d (x2.toInt64))), (.long c2), (.double (Jvm.FP.l2d (x3.toInt64))), (.long c3)]) (rest := []) (lenOf own_pd3 rfl) rfl (by show 2 * 0 + _ ≤ _; exact Nat.le_of_eq rfl) (hb hby y5_178) (fun _ _ => ⟨rfl, z39, (by decide : 0 + 0 ≤ _), (by decide : 0 + 0 ≤ _)⟩)
  dsimp only [Pt.U, Pt.locs, Pt.cells, Pt.slots] at zd l459 y459 z459 z3e z3d
  replace zd := own_sub zd l459 y459 z459
  obtain ⟨rfl, z69, z3f⟩ := z3d
  have z6a := Fr.app z60 z69
  have z3g := (z2l.wr z7)
  obtain ⟨cq460, z6b, q460'⟩ := z3g.cell
  obtain ⟨_, _, ⟨z10, L460, z7n, n460⟩, -, zo, ⟨Lc460, z3h, l460, y460, z460⟩, z3i⟩ := zd.privateBack hx (y := own_m2) hown (mvT hZ (own_W hw 50 rfl)) (mvT hZ (own_W hw 51 rfl)) (own_selpS (y := own_m2) (mvT hZ (own_W hw 35 rfl)) rfl (mvP (args := #[]) hZ (own_W hw 52 rfl)) (mvT hZ (own_W hw 51 rfl)) (by decide)) (Cond.privateMethod_at (mvP hZ (own_W hw 52 rfl) (args := #[]))) (mvT hZ (own_W hw 53 rfl)) (by decide) (backOf (W := 0) (rmP0 l Z a0 hw [] zt n0 A K x1 x2 x3 c1 c2 c3 s1 s2 s3 x3 c3 s3 z0 z3 z4 z2 zp zq zr EN zu zv z1b zx z1d z1f z2z zb z3v zc z3w z3x z22 z23 z24) hZ (own_W hw 53 rfl) (own_W hw 2 rfl) (by decide) (by decide)) (g := (mkF m 218 #[.val (.ref z0), .val (.int s1), .val (.double (Jvm.FP.l2d (x3.toInt64))), .second, .val (.long c3), .second, .val (.int s3), .val (.int 0), .val (.int 1), .val (.int 2), .val (.int 1), .val (.int 2)] [(.int s3), (.long c3), (.double (Jvm.FP.l2d (x3.toInt64))), (.int 0), (.ref z0)])) rfl (by rw [hml]; rfl) (Steps.refl _) (a := z0) (by rw [z3f]; exact z6b) q460' (argsL := [(.int 0), (.double (Jvm.FP.l2d (x3.toInt64))), (.long c3), (.int s3)]) (rest := []) (lenOf own_pd0 rfl) rfl (by show 2 * 0 + _ ≤ _; exact Nat.le_of_eq rfl) (hb hby y5_218) (fun _ _ => ⟨rfl, z3f, (by decide : 0 + 0 ≤ _), (by decide : 0 + 0 ≤ _)⟩)
  dsimp only [Pt.U, Pt.locs, Pt.cells, Pt.slots] at zo l460 y460 z460 z3i z3h
  replace zo := own_sub zo l460 y460 z460
  obtain ⟨rfl, z6c, za, z6d, z6e, z6f⟩ := z3h
  have z6g := Fr.app z6a z6c
  have z7o := zu.keep za (allS z22 (allS z23 (allS z24 all0)))
  have z6h := z56.trans za (allS (own_Ix 5 rfl) (allS (own_Ix 4 rfl) (allS (own_Ix 3 rfl) all0)))
  have z6i := (z3g.keep za)
  have z6j := (zv.keep za (ninS zb (ninS zc (ninS zg nin0))))
  have z6k := (zx.keep za (ninS zb (ninS zc (ninS zg nin0))))
  have z6l := (z1f.keep za (ninS zb (ninS zc (ninS zg nin0))))
  have z6m := ((((z3r.other z5 (Or.inl ze)).other z6 (Or.inl zf)).other z7 (Or.inr (slot_ne (Or.inl (own_W hw 19 rfl)) (Or.inl (own_W hw 38 rfl)) (by decide) (t := (.array .int)) (t' := .int) (by decide) (by decide)))).keep za (ninS zb (ninS zc (ninS zg nin0))))
  have z6n := ((((z3s.other z5 (Or.inl ze)).other z6 (Or.inl zf)).other z7 (Or.inr (slot_ne (Or.inl (own_W hw 21 rfl)) (Or.inl (own_W hw 38 rfl)) (by decide) (t := (.array .int)) (t' := .int) (by decide) (by decide)))).keep za (ninS zb (ninS zc (ninS zg nin0))))
  have z6o := ((((z1q.other z5 (Or.inl ze)).other z6 (Or.inl zf)).other z7 (Or.inr (slot_ne (Or.inl (own_W hw 25 rfl)) (Or.inl (own_W hw 38 rfl)) (by decide) (t := (.array (.object y_s3))) (t' := .int) (by decide) (by decide)))).keep za (ninS zb (ninS zc (ninS zg nin0))))
  have z6p := (((z2a.other z6 (Or.inl zf)).other z7 (Or.inr (slot_ne (Or.inl (own_W hw 27 rfl)) (Or.inl (own_W hw 38 rfl)) (by decide) (t := (.array .int)) (t' := .int) (by decide) (by decide)))).keep za (ninS zb (ninS zc (ninS zg nin0))))
  have z6q := (zk.keep za (ninS zb (ninS zc (ninS zg nin0))))
  have z6r := ((((z3t.other z5 (Or.inl ze)).other z6 (Or.inl zf)).other z7 (Or.inr (slot_ne (Or.inl (own_W hw 49 rfl)) (Or.inl (own_W hw 38 rfl)) (by decide) (t := .long) (t' := .int) (by decide) (by decide)))).keep za (ninS zb (ninS zc (ninS zg nin0))))
  have z6s : own_AM Z z10.heap z8 zi (.object y_s3) := (((z4f.other z6 z1t).other z7 (Ne.symm ze)).keep za (ninS (Ne.symm z1u) (ninS (Ne.symm z1w) (ninS (Ne.symm z1s) nin0))))
  have z6t : own_AM Z z10.heap z1 zj .int := ((z4z.other z7 (Ne.symm zf)).keep za (ninS (Ne.symm z1v) (ninS (Ne.symm z1x) (ninS (Ne.symm z1y) nin0))))
  obtain ⟨fs, hr, hrun, hended, hW, hsame⟩ := zo.leave (v := none) (fun _ => rfl)
  refine ⟨_, _, pre0 _ ?_, hrun, hended, _, _, rfl, ?_, ⟨_, rfl⟩, hW, hsame.mono (by decide) (by decide)⟩
  · show Steps p.tables e below (s₁.setTop (mkF m 0 #[.val (.ref z0), .unset, .unset, .unset, .unset, .unset, .unset, .unset, .unset, .unset, .unset, .unset] [])) _
    refine XS.aloadN X0.here hx rfl (hb hby y5_0) rfl rfl ?_
    refine z3y _ ?_
    show Steps p.tables e below (z25.setTop (mkF m 4 #[.val (.ref z0), .unset, .unset, .unset, .unset, .unset, .unset, .unset, .unset, .unset, .unset, .unset] [(.ref z2)])) _
    refine XS.iconst zm.here hx rfl (hb hby y5_4) ?_
    refine zm.iaload hx (j := (0 : Int32)) (v := (.int s1)) (by rw [z26]; exact z13.1) (State.isArrayOf_alike hZ.alike z13.2.1) z13.2.2 z28 z41 (g := (mkF m 5 #[.val (.ref z0), .unset, .unset, .unset, .unset, .unset, .unset, .unset, .unset, .unset, .unset, .unset] [(.int 0), (.ref z2)])) rfl rfl (hb hby y5_5) _ ?_
    show Steps p.tables e below (z25.setTop (mkF m 6 #[.val (.ref z0), .unset, .unset, .unset, .unset, .unset, .unset, .unset, .unset, .unset, .unset, .unset] [(.int s1)])) _
    refine XS.istoreN zm.here hx rfl (hb hby y5_6) rfl (l' := #[.val (.ref z0), .val (.int s1), .unset, .unset, .unset, .unset, .unset, .unset, .unset, .unset, .unset, .unset]) rfl ?_
    refine XS.aloadN zm.here hx rfl (hb hby y5_7) rfl rfl ?_
    refine z44 _ ?_
    show Steps p.tables e below (z42.setTop (mkF m 11 #[.val (.ref z0), .val (.int s1), .unset, .unset, .unset, .unset, .unset, .unset, .unset, .unset, .unset, .unset] [(.ref z8)])) _
    refine XS.iloadN z14.here hx rfl (hb hby y5_11) rfl ?_
    refine XS.aconstNull z14.here hx rfl (hb hby y5_12) ?_
    refine z4b _ ?_
    show Steps p.tables e below (z49.setTop (mkF m 14 #[.val (.ref z0), .val (.int s1), .unset, .unset, .unset, .unset, .unset, .unset, .unset, .unset, .unset, .unset] [])) _
    refine XS.aloadN z15.here hx rfl (hb hby y5_14) rfl rfl ?_
    refine z4i _ ?_
    show Steps p.tables e below (z4g.setTop (mkF m 18 #[.val (.ref z0), .val (.int s1), .unset, .unset, .unset, .unset, .unset, .unset, .unset, .unset, .unset, .unset] [(.ref z1)])) _
    refine XS.aloadN z2b.here hx rfl (hb hby y5_18) rfl rfl ?_
    refine z4j _ ?_
    show Steps p.tables e below (z2d.setTop (mkF m 22 #[.val (.ref z0), .val (.int s1), .unset, .unset, .unset, .unset, .unset, .unset, .unset, .unset, .unset, .unset] [(.ref z2), (.ref z1)])) _
    refine z16.arraylength hx (by rw [z2e]; exact z2g.1) (State.isArrayOf_alike hZ.alike z2g.2.1) (g := (mkF m 22 #[.val (.ref z0), .val (.int s1), .unset, .unset, .unset, .unset, .unset, .unset, .unset, .unset, .unset, .unset] [(.ref z2), (.ref z1)])) rfl rfl (hb hby y5_22) _ ?_
    rw [len_of z4k z4l]
    show Steps p.tables e below (z2d.setTop (mkF m 23 #[.val (.ref z0), .val (.int s1), .unset, .unset, .unset, .unset, .unset, .unset, .unset, .unset, .unset, .unset] [(.int 16), (.ref z1)])) _
    refine XS.aloadN z16.here hx rfl (hb hby y5_23) rfl rfl ?_
    refine z4n _ ?_
    show Steps p.tables e below (z2i.setTop (mkF m 27 #[.val (.ref z0), .val (.int s1), .unset, .unset, .unset, .unset, .unset, .unset, .unset, .unset, .unset, .unset] [(.int 3), (.int 16), (.ref z1)])) _
    refine XS.isub z17.here hx rfl (hb hby y5_27) rfl ?_
    show Steps p.tables e below (z2i.setTop (mkF m 28 #[.val (.ref z0), .val (.int s1), .unset, .unset, .unset, .unset, .unset, .unset, .unset, .unset, .unset, .unset] [(.int 13), (.ref z1)])) _
    refine XS.iloadN z17.here hx rfl (hb hby y5_28) rfl ?_
    refine z4v _ ?_
    show Steps p.tables e below (z4s.setTop (mkF m 30 #[.val (.ref z0), .val (.int s1), .unset, .unset, .unset, .unset, .unset, .unset, .unset, .unset, .unset, .unset] [])) _
    refine XS.aloadN zs.here hx rfl (hb hby y5_30) rfl rfl ?_
    refine XS.dup zs.here hx rfl (hb hby y5_31) rfl rfl ?_
    refine z51 _ ?_
    show Steps p.tables e below (z2k.setTop (mkF m 35 #[.val (.ref z0), .val (.int s1), .unset, .unset, .unset, .unset, .unset, .unset, .unset, .unset, .unset, .unset] [(.int 3), (.ref z0)])) _
    refine XS.iconst z19.here hx rfl (hb hby y5_35) ?_
    refine XS.isub z19.here hx rfl (hb hby y5_36) rfl ?_
    show Steps p.tables e below (z2k.setTop (mkF m 37 #[.val (.ref z0), .val (.int s1), .unset, .unset, .unset, .unset, .unset, .unset, .unset, .unset, .unset, .unset] [(.int 2), (.ref z0)])) _
    refine z54 _ ?_
    show Steps p.tables e below (z52.setTop (mkF m 40 #[.val (.ref z0), .val (.int s1), .unset, .unset, .unset, .unset, .unset, .unset, .unset, .unset, .unset, .unset] [])) _
    refine XS.aloadN z1a.here hx rfl (hb hby y5_40) rfl rfl ?_
    refine z59 _ ?_
    show Steps p.tables e below (z57.setTop (mkF m 44 #[.val (.ref z0), .val (.int s1), .unset, .unset, .unset, .unset, .unset, .unset, .unset, .unset, .unset, .unset] [(.ref z3)])) _
    refine XS.aloadN z2m.here hx rfl (hb hby y5_44) rfl rfl ?_
    refine z5a _ ?_
    show Steps p.tables e below (z2n.setTop (mkF m 48 #[.val (.ref z0), .val (.int s1), .unset, .unset, .unset, .unset, .unset, .unset, .unset, .unset, .unset, .unset] [(.int 2), (.ref z3)])) _
    refine zw.daload hx (j := (2 : Int32)) (v := (.double (Jvm.FP.l2d (x3.toInt64)))) (by rw [z2o]; exact z1c.1) (State.isArrayOf_alike hZ.alike z1c.2.1) z1c.2.2 z2q z5d (g := (mkF m 48 #[.val (.ref z0), .val (.int s1), .unset, .unset, .unset, .unset, .unset, .unset, .unset, .unset, .unset, .unset] [(.int 2), (.ref z3)])) rfl rfl (hb hby y5_48) _ ?_
    show Steps p.tables e below (z2n.setTop (mkF m 49 #[.val (.ref z0), .val (.int s1), .unset, .unset, .unset, .unset, .unset, .unset, .unset, .unset, .unset, .unset] [(.double (Jvm.FP.l2d (x3.toInt64)))])) _
    refine XS.dstoreN zw.here hx rfl (hb hby y5_49) rfl (l' := #[.val (.ref z0), .val (.int s1), .val (.double (Jvm.FP.l2d (x3.toInt64))), .second, .unset, .unset, .unset, .unset, .unset, .unset, .unset, .unset]) rfl ?_
    refine XS.aloadN zw.here hx rfl (hb hby y5_50) rfl rfl ?_
    refine z5g _ ?_
    show Steps p.tables e below (z5e.setTop (mkF m 54 #[.val (.ref z0), .val (.int s1), .val (.double (Jvm.FP.l2d (x3.toInt64))), .second, .unset, .unset, .unset, .unset, .unset, .unset, .unset, .unset] [(.ref z4)])) _
    refine XS.aloadN z2r.here hx rfl (hb hby y5_54) rfl rfl ?_
    refine z5h _ ?_
    show Steps p.tables e below (z2s.setTop (mkF m 58 #[.val (.ref z0), .val (.int s1), .val (.double (Jvm.FP.l2d (x3.toInt64))), .second, .unset, .unset, .unset, .unset, .unset, .unset, .unset, .unset] [(.int 2), (.ref z4)])) _
    refine zy.laload hx (j := (2 : Int32)) (v := (.long c3)) (by rw [z2t]; exact z1e.1) (State.isArrayOf_alike hZ.alike z1e.2.1) z1e.2.2 z2v z5k (g := (mkF m 58 #[.val (.ref z0), .val (.int s1), .val (.double (Jvm.FP.l2d (x3.toInt64))), .second, .unset, .unset, .unset, .unset, .unset, .unset, .unset, .unset] [(.int 2), (.ref z4)])) rfl rfl (hb hby y5_58) _ ?_
    show Steps p.tables e below (z2s.setTop (mkF m 59 #[.val (.ref z0), .val (.int s1), .val (.double (Jvm.FP.l2d (x3.toInt64))), .second, .unset, .unset, .unset, .unset, .unset, .unset, .unset, .unset] [(.long c3)])) _
    refine XS.lstore zy.here hx rfl (hb hby y5_59) rfl (l' := #[.val (.ref z0), .val (.int s1), .val (.double (Jvm.FP.l2d (x3.toInt64))), .second, .val (.long c3), .second, .unset, .unset, .unset, .unset, .unset, .unset]) rfl ?_
    refine XS.aloadN zy.here hx rfl (hb hby y5_61) rfl rfl ?_
    refine z5n _ ?_
    show Steps p.tables e below (z5l.setTop (mkF m 65 #[.val (.ref z0), .val (.int s1), .val (.double (Jvm.FP.l2d (x3.toInt64))), .second, .val (.long c3), .second, .unset, .unset, .unset, .unset, .unset, .unset] [(.ref z2)])) _
    refine XS.aloadN z2w.here hx rfl (hb hby y5_65) rfl rfl ?_
    refine z5o _ ?_
    show Steps p.tables e below (z2x.setTop (mkF m 69 #[.val (.ref z0), .val (.int s1), .val (.double (Jvm.FP.l2d (x3.toInt64))), .second, .val (.long c3), .second, .unset, .unset, .unset, .unset, .unset, .unset] [(.int 2), (.ref z2)])) _
    refine zh.iaload hx (j := (2 : Int32)) (v := (.int s3)) (by rw [z2y]; exact z1g.1) (State.isArrayOf_alike hZ.alike z1g.2.1) z1g.2.2 z31 z5r (g := (mkF m 69 #[.val (.ref z0), .val (.int s1), .val (.double (Jvm.FP.l2d (x3.toInt64))), .second, .val (.long c3), .second, .unset, .unset, .unset, .unset, .unset, .unset] [(.int 2), (.ref z2)])) rfl rfl (hb hby y5_69) _ ?_
    show Steps p.tables e below (z2x.setTop (mkF m 70 #[.val (.ref z0), .val (.int s1), .val (.double (Jvm.FP.l2d (x3.toInt64))), .second, .val (.long c3), .second, .unset, .unset, .unset, .unset, .unset, .unset] [(.int s3)])) _
    refine XS.istore zh.here hx rfl (hb hby y5_70) rfl (l' := #[.val (.ref z0), .val (.int s1), .val (.double (Jvm.FP.l2d (x3.toInt64))), .second, .val (.long c3), .second, .val (.int s3), .unset, .unset, .unset, .unset, .unset]) rfl ?_
    refine XS.iconst zh.here hx rfl (hb hby y5_72) ?_
    refine XS.istore zh.here hx rfl (hb hby y5_73) rfl (l' := #[.val (.ref z0), .val (.int s1), .val (.double (Jvm.FP.l2d (x3.toInt64))), .second, .val (.long c3), .second, .val (.int s3), .val (.int 0), .unset, .unset, .unset, .unset]) rfl ?_
    refine XS.iconst zh.here hx rfl (hb hby y5_75) ?_
    refine XS.istore zh.here hx rfl (hb hby y5_76) rfl (l' := #[.val (.ref z0), .val (.int s1), .val (.double (Jvm.FP.l2d (x3.toInt64))), .second, .val (.long c3), .second, .val (.int s3), .val (.int 0), .val (.int 1), .unset, .unset, .unset]) rfl ?_
    refine XS.iload zh.here hx rfl (hb hby y5_78) rfl ?_
    refine XS.aloadN zh.here hx rfl (hb hby y5_80) rfl rfl ?_
    refine z5t _ ?_
    show Steps p.tables e below (z1h.setTop (mkF m 84 #[.val (.ref z0), .val (.int s1), .val (.double (Jvm.FP.l2d (x3.toInt64))), .second, .val (.long c3), .second, .val (.int s3), .val (.int 0), .val (.int 1), .unset, .unset, .unset] [(.int 2), (.int 1)])) _
    refine XS.icmpNo zl.here hx rfl (hb hby y5_84) rfl (tlt (by decide : (1 : Int32) < (2 : Int32))).2.1 ?_
    show Steps p.tables e below (z1h.setTop (mkF m 87 #[.val (.ref z0), .val (.int s1), .val (.double (Jvm.FP.l2d (x3.toInt64))), .second, .val (.long c3), .second, .val (.int s3), .val (.int 0), .val (.int 1), .unset, .unset, .unset] [])) _
    refine XS.iload zl.here hx rfl (hb hby y5_87) rfl ?_
    refine XS.iconst zl.here hx rfl (hb hby y5_89) ?_
    refine XS.iadd zl.here hx rfl (hb hby y5_90) rfl ?_
    show Steps p.tables e below (z1h.setTop (mkF m 91 #[.val (.ref z0), .val (.int s1), .val (.double (Jvm.FP.l2d (x3.toInt64))), .second, .val (.long c3), .second, .val (.int s3), .val (.int 0), .val (.int 1), .unset, .unset, .unset] [(.int 5)])) _
    refine XS.aloadN zl.here hx rfl (hb hby y5_91) rfl rfl ?_
    refine z5x _ ?_
    show Steps p.tables e below (z5u.setTop (mkF m 95 #[.val (.ref z0), .val (.int s1), .val (.double (Jvm.FP.l2d (x3.toInt64))), .second, .val (.long c3), .second, .val (.int s3), .val (.int 0), .val (.int 1), .unset, .unset, .unset] [(.int 2), (.int 5)])) _
    refine z33 _ ?_
    show Steps p.tables e below (z1i.setTop (mkF m 98 #[.val (.ref z0), .val (.int s1), .val (.double (Jvm.FP.l2d (x3.toInt64))), .second, .val (.long c3), .second, .val (.int s3), .val (.int 0), .val (.int 1), .unset, .unset, .unset] [(.int 2)])) _
    refine XS.istore z9.here hx rfl (hb hby y5_98) rfl (l' := #[.val (.ref z0), .val (.int s1), .val (.double (Jvm.FP.l2d (x3.toInt64))), .second, .val (.long c3), .second, .val (.int s3), .val (.int 0), .val (.int 1), .val (.int 2), .unset, .unset]) rfl ?_
    refine XS.iload z9.here hx rfl (hb hby y5_100) rfl ?_
    refine XS.istore z9.here hx rfl (hb hby y5_102) rfl (l' := #[.val (.ref z0), .val (.int s1), .val (.double (Jvm.FP.l2d (x3.toInt64))), .second, .val (.long c3), .second, .val (.int s3), .val (.int 0), .val (.int 1), .val (.int 2), .val (.int 1), .unset]) rfl ?_
    refine XS.iload z9.here hx rfl (hb hby y5_104) rfl ?_
    refine XS.iconst z9.here hx rfl (hb hby y5_106) ?_
    refine XS.iadd z9.here hx rfl (hb hby y5_107) rfl ?_
    show Steps p.tables e below (z1i.setTop (mkF m 108 #[.val (.ref z0), .val (.int s1), .val (.double (Jvm.FP.l2d (x3.toInt64))), .second, .val (.long c3), .second, .val (.int s3), .val (.int 0), .val (.int 1), .val (.int 2), .val (.int 1), .unset] [(.int 2)])) _
    refine XS.istore z9.here hx rfl (hb hby y5_108) rfl (l' := #[.val (.ref z0), .val (.int s1), .val (.double (Jvm.FP.l2d (x3.toInt64))), .second, .val (.long c3), .second, .val (.int s3), .val (.int 0), .val (.int 1), .val (.int 2), .val (.int 1), .val (.int 2)]) rfl ?_
    refine XS.iload z9.here hx rfl (hb hby y5_110) rfl ?_
    refine XS.iload z9.here hx rfl (hb hby y5_112) rfl ?_
    refine XS.icmpYes z9.here hx rfl (pc0 := 114) (pc' := 161) rfl (hb hby y5_114) rfl (flt (by decide : ¬ ((2 : Int32) < (2 : Int32)))).2.1 (by decide) (by decide) ?_
    show Steps p.tables e below (z1i.setTop (mkF m 161 #[.val (.ref z0), .val (.int s1), .val (.double (Jvm.FP.l2d (x3.toInt64))), .second, .val (.long c3), .second, .val (.int s3), .val (.int 0), .val (.int 1), .val (.int 2), .val (.int 1), .val (.int 2)] [])) _
    refine XS.aloadN z9.here hx rfl (hb hby y5_161) rfl rfl ?_
    refine z61 _ ?_
    show Steps p.tables e below (z34.setTop (mkF m 165 #[.val (.ref z0), .val (.int s1), .val (.double (Jvm.FP.l2d (x3.toInt64))), .second, .val (.long c3), .second, .val (.int s3), .val (.int 0), .val (.int 1), .val (.int 2), .val (.int 1), .val (.int 2)] [(.ref z3)])) _
    refine XS.iload zz.here hx rfl (hb hby y5_165) rfl ?_
    refine zz.daload hx (j := (1 : Int32)) (v := (.double (Jvm.FP.l2d (x2.toInt64)))) (by rw [z35]; exact z1j.1) (State.isArrayOf_alike hZ.alike z1j.2.1) z1j.2.2 z37 z64 (g := (mkF m 167 #[.val (.ref z0), .val (.int s1), .val (.double (Jvm.FP.l2d (x3.toInt64))), .second, .val (.long c3), .second, .val (.int s3), .val (.int 0), .val (.int 1), .val (.int 2), .val (.int 1), .val (.int 2)] [(.int 1), (.ref z3)])) rfl rfl (hb hby y5_167) _ ?_
    show Steps p.tables e below (z34.setTop (mkF m 168 #[.val (.ref z0), .val (.int s1), .val (.double (Jvm.FP.l2d (x3.toInt64))), .second, .val (.long c3), .second, .val (.int s3), .val (.int 0), .val (.int 1), .val (.int 2), .val (.int 1), .val (.int 2)] [(.double (Jvm.FP.l2d (x2.toInt64)))])) _
    refine XS.aloadN zz.here hx rfl (hb hby y5_168) rfl rfl ?_
    refine z65 _ ?_
    show Steps p.tables e below (z38.setTop (mkF m 172 #[.val (.ref z0), .val (.int s1), .val (.double (Jvm.FP.l2d (x3.toInt64))), .second, .val (.long c3), .second, .val (.int s3), .val (.int 0), .val (.int 1), .val (.int 2), .val (.int 1), .val (.int 2)] [(.ref z4), (.double (Jvm.FP.l2d (x2.toInt64)))])) _
    refine XS.iload zn.here hx rfl (hb hby y5_172) rfl ?_
    refine zn.laload hx (j := (1 : Int32)) (v := (.long c2)) (by rw [z39]; exact z1k.1) (State.isArrayOf_alike hZ.alike z1k.2.1) z1k.2.2 z3b z68 (g := (mkF m 174 #[.val (.ref z0), .val (.int s1), .val (.double (Jvm.FP.l2d (x3.toInt64))), .second, .val (.long c3), .second, .val (.int s3), .val (.int 0), .val (.int 1), .val (.int 2), .val (.int 1), .val (.int 2)] [(.int 1), (.ref z4), (.double (Jvm.FP.l2d (x2.toInt64)))])) rfl rfl (hb hby y5_174) _ ?_
    show Steps p.tables e below (z38.setTop (mkF m 175 #[.val (.ref z0), .val (.int s1), .val (.double (Jvm.FP.l2d (x3.toInt64))), .second, .val (.long c3), .second, .val (.int s3), .val (.int 0), .val (.int 1), .val (.int 2), .val (.int 1), .val (.int 2)] [(.long c2), (.double (Jvm.FP.l2d (x2.toInt64)))])) _
    refine XS.dloadN zn.here hx rfl (hb hby y5_175) rfl ?_
    refine XS.lload zn.here hx rfl (hb hby y5_176) rfl ?_
    refine z3e _ ?_
    show Steps p.tables e below (z3c.setTop (mkF m 181 #[.val (.ref z0), .val (.int s1), .val (.double (Jvm.FP.l2d (x3.toInt64))), .second, .val (.long c3), .second, .val (.int s3), .val (.int 0), .val (.int 1), .val (.int 2), .val (.int 1), .val (.int 2)] [(.int (own_f_rmIB x2 x3 c2 c3))])) _
    refine XS.ifNo zd.here hx rfl (hb hby y5_181) rfl ((if0 _ _).trans (teq hb_).2) ?_
    show Steps p.tables e below (z3c.setTop (mkF m 184 #[.val (.ref z0), .val (.int s1), .val (.double (Jvm.FP.l2d (x3.toInt64))), .second, .val (.long c3), .second, .val (.int s3), .val (.int 0), .val (.int 1), .val (.int 2), .val (.int 1), .val (.int 2)] [])) _
    refine XS.goto zd.here hx rfl (pc0 := 184) (pc' := 210) rfl (hb hby y5_184) (by decide) (by decide) ?_
    refine XS.aloadN zd.here hx rfl (hb hby y5_210) rfl rfl ?_
    refine XS.iload zd.here hx rfl (hb hby y5_211) rfl ?_
    refine XS.dloadN zd.here hx rfl (hb hby y5_213) rfl ?_
    refine XS.lload zd.here hx rfl (hb hby y5_214) rfl ?_
    refine XS.iload zd.here hx rfl (hb hby y5_216) rfl ?_
    refine z3i.trans ?_
    show Steps p.tables e below (z10.setTop (mkF m 221 #[.val (.ref z0), .val (.int s1), .val (.double (Jvm.FP.l2d (x3.toInt64))), .second, .val (.long c3), .second, .val (.int s3), .val (.int 0), .val (.int 1), .val (.int 2), .val (.int 1), .val (.int 2)] [])) _
    exact zo.returnOut hx Bd.returns (hb hby y5_221) hr
  · show Q_rmR3n Z A K x1 x2 x3 c1 c2 c3 s1 s2 s3 z1l z1m z1n t1 t2 t3 ga z0 z3 z4 z2 z11 z12 z8 z1 zp zq zr zi zj h0 n0 _ z10.heap _
    exact ⟨rfl, z6g, z6h, z6i, z6j, z6k, z6l, z6m, z6n, z6o, z6p, z6q, z6r, z6d, z6e, z6f, z6s, z3u, z6t⟩
def Q_rmR2 (Z : State) (A : Nat → Addr) (K : Nat → ClassId) (x1 : Int32) (x2 : Int32) (x3 : Int32) (c1 : Int64) (c2 : Int64) (c3 : Int64) (s1 : Int32) (s2 : Int32) (s3 : Int32) (zd : Int32) (ze : Int32) (zf : Int32) (t1 : Int32) (t2 : Int32) (t3 : Int32) (ga : Int64) (z0 : Addr) (z1 : Addr) (z2 : Addr) (z3 : Addr) (z7 : Addr) (z8 : Addr) (z4 : Addr) (z5 : Addr) (z9 : ClassId) (za : ClassId) (zb : ClassId) (z6 : ClassId) (zc : ClassId) (h0 : Heap) (n0 : Nat) (v : Option Value) (h : Heap) (L : List Loc) : Prop := v = none ∧ Fr n0 L ∧ Keep h0 h [z4, z5, z0, z3, z2, z1] ∧ (Exa Z h z0 y_s0) ∧ (Fld Z h z0 y_s0 "at" "[D" (.ref z1)) ∧ (Fld Z h z0 y_s0 "added" "[J" (.ref z2)) ∧ (Fld Z h z0 y_s0 "slot" "[I" (.ref z3)) ∧ (Fld Z h z0 y_s0 "from" "[I" (.ref z7)) ∧ (Fld Z h z0 y_s0 "to" "[I" (.ref z8)) ∧ (Fld Z h z0 y_s0 "message" y_s1 (.ref z4)) ∧ (Fld Z h z0 y_s0 "free" "[I" (.ref z5)) ∧ (Fld Z h z0 y_s0 "size" "I" (.int 1)) ∧ (Fld Z h z0 y_s0 "additions" "J" (.long ga)) ∧ (Arv Z h z1 z9 .double (16 : Int32) [(.double (Jvm.FP.l2d (x2.toInt64))), (.double (Jvm.FP.l2d (x2.toInt64))), (.double (Jvm.FP.l2d (x3.toInt64)))] (.double (Jvm.FP.l2d ((0 : Int32).toInt64)))) ∧ (Arv Z h z2 za .long (16 : Int32) [(.long c2), (.long c2), (.long c3)] (.long 0)) ∧ (Arv Z h z3 zb .int 16 [(.int s2), (.int s2), (.int s3)] (.int 0)) ∧ (own_AM Z h z4 z6 (.object y_s3)) ∧ (Ovr Z z6 y_s3) ∧ (own_AM Z h z5 zc .int)
set_option maxRecDepth 65536 in
set_option maxHeartbeats 40000000 in
theorem rmR2 (l : Launch) (Z : State) (a0 : Array Value) (hw : ∀ d ∈ tables_1, d.before a0 Z = true) (ws : List Jvm.Cond) (h0 : Heap) (n0 : Nat) (A : Nat → Addr) (K : Nat → ClassId) (x1 : Int32) (x2 : Int32) (x3 : Int32) (c1 : Int64) (c2 : Int64) (c3 : Int64) (s1 : Int32) (s2 : Int32) (s3 : Int32) (z19 : Int32) (z1a : Int32) (z1b : Int32) (t1 : Int32) (t2 : Int32) (t3 : Int32) (ga : Int64)  (z0 : Addr) (z6 : Addr) (z7 : Addr) (z2 : Addr) (zt : Addr) (zu : Addr) (z8 : Addr) (z1 : Addr) (zm : ClassId) (zn : ClassId) (zo : ClassId) (zh : ClassId) (zi : ClassId) (EN : own_St Z A K) (OL0 : Old Z n0 h0) (z1c : Fld Z h0 z0 y_s0 "slot" "[I" (.ref z2)) (z1d : Arv Z h0 z2 zo .int 16 [(.int s1), (.int s2), (.int s3)] (.int 0)) (z1e : Fld Z h0 z0 y_s0 "message" y_s1 (.ref z8)) (z1f : own_AM Z h0 z8 zh (.object y_s3)) (z2z : Fld Z h0 z0 y_s0 "free" "[I" (.ref z1)) (z30 : Fld Z h0 z0 y_s0 "size" "I" (.int 2)) (z31 : own_AM Z h0 z1 zi .int) (z32 : Exa Z h0 z0 y_s0) (z33 : Fld Z h0 z0 y_s0 "at" "[D" (.ref z6)) (z34 : Arv Z h0 z6 zm .double (16 : Int32) [(.double (Jvm.FP.l2d (x1.toInt64))), (.double (Jvm.FP.l2d (x2.toInt64))), (.double (Jvm.FP.l2d (x3.toInt64)))] (.double (Jvm.FP.l2d ((0 : Int32).toInt64)))) (z35 : Fld Z h0 z0 y_s0 "added" "[J" (.ref z7)) (z36 : Arv Z h0 z7 zn .long (16 : Int32) [(.long c1), (.long c2), (.long c3)] (.long 0)) (z37 : Fld Z h0 z0 y_s0 "from" "[I" (.ref zt)) (z38 : Fld Z h0 z0 y_s0 "to" "[I" (.ref zu)) (z39 : Fld Z h0 z0 y_s0 "additions" "J" (.long ga)) (z3a : Ovr Z zh y_s3) (hs0 : ¬ (s1 < (0 : Int32))) (hs1 : s1 < (16 : Int32)) (zc : z0 ≠ z8) (z1g : z2 ≠ z8) (z1h : z8 ≠ z1) (zd : z0 ≠ z1) (z1i : z6 ≠ z8) (z1j : z6 ≠ z1) (za : z0 ≠ z6) (z1k : z7 ≠ z8) (z1l : z7 ≠ z1) (zb : z0 ≠ z7) (z1m : z2 ≠ z1) (ze : z0 ≠ z2) (z3b : z6 ≠ z7) (z3c : z6 ≠ z2) (z3d : z7 ≠ z2) (z1n : n0 ≤ z8) (z1o : n0 ≤ z1) (z1p : n0 ≤ z0) (z1q : n0 ≤ z6) (z1r : n0 ≤ z7) (z1s : n0 ≤ z2) :
    MetFree l own_m1 (head1 (Jvm.Cond.code own_m1 prog_48_method_8_code 12 none :: ws) (Room.mk 1 0 0 18)) (fun a U => a = #[(.ref z0)] ∧ Z.Warmed39 U.vm ∧ U.heap = h0) (fun _ _ _ _ _ => True) (fun _ U o U' => ∃ v L, o = .returned v ∧ Q_rmR2 Z A K x1 x2 x3 c1 c2 c3 s1 s2 s3 z19 z1a z1b t1 t2 t3 ga z0 z6 z7 z2 zt zu z8 z1 zm zn zo zh zi h0 n0 v U'.heap L ∧ FrameEnd U o U' L (Room.mk 1 0 0 18).cells (Room.mk 1 0 0 18).slots) := by
  refine MetFree.of_bodySF (plainFor_of_name own_pn0) hisR ?_
  intro p e s m args below meth c s₁ Bd hml0 hP hK
  obtain ⟨rfl, hZ, hh⟩ := hP
  have hx := Bd.exec
  have hby := Bd.bytes
  have hml : c.maxLocals = 12 := hml0
  have hown : s.vm.findClass y_s0 = some m.cls := findClass_of_methodNamed Bd.named
  have hnm := (name_of_methodNamed Bd.named Bd.method).1
  have X0 : Stand p l e (Room.mk 1 0 0 18) s m #[(.ref z0)] below meth c s₁ [] 0 0 := Stand.of_body Bd
  have e0 : s₁.heap = h0 := by rw [← hh, Bd.state]; rfl
  have N0 := Fr.nil n0
  have pre0 : ∀ t, Steps p.tables e below (s₁.setTop (mkF m 0 #[.val (.ref z0), .unset, .unset, .unset, .unset, .unset, .unset, .unset, .unset, .unset, .unset, .unset] [])) t → Steps p.tables e below (s₁.setTop (entryFrame m #[(.ref z0)] 12)) t := fun t k => castTop (by first | (simp [entryFrame, mkF, argsToLocals, Value.category, maxLocals]; done) | rfl) k
  have KK0 : Keep h0 h0 [z8, z1, z0, z2, z7, z6] := Keep.refl _ _
  obtain ⟨z1t, zj, z1u, z3e⟩ := getF X0 hx hZ hown (host := "") (Or.inl (own_W hw 16 rfl)) Via.refl e0 z1c (g := (mkF m 1 #[.val (.ref z0), .unset, .unset, .unset, .unset, .unset, .unset, .unset, .unset, .unset, .unset, .unset] [(.ref z0)])) rfl rfl (hb hby y5_1)
  obtain ⟨z1v, zv, z5s, z3f, z5t, z3g, z5u⟩ := (id z1d)
  have z1w : ¬ ((0 : Int32) < 0 ∨ z1v.slots.size ≤ ((0 : Int32)).toNatClampNeg) := inb_of z3f ⟨by decide, by decide⟩
  have z3h : z1v.slots[((0 : Int32)).toNatClampNeg]? = some (.int s1) := Has.at z3g z1w rfl
  obtain ⟨z3i, zw, z3j, z3k⟩ := getF zj hx hZ hown (host := "") (Or.inl (own_W hw 24 rfl)) Via.refl z1u z1e (g := (mkF m 8 #[.val (.ref z0), .val (.int s1), .unset, .unset, .unset, .unset, .unset, .unset, .unset, .unset, .unset, .unset] [(.ref z0)])) rfl rfl (hb hby y5_8)
  obtain ⟨vs477, dv477, z3l, z3m, z5v, z3n, z5w, z5x, z5y⟩ := (id z1f)
  have z3o : ¬ (s1 < 0 ∨ z3l.slots.size ≤ (s1).toNatClampNeg) := inb_of z3n ⟨hs0, hs1⟩
  obtain ⟨z3p, z1x, zx, z3q, z3, z3r⟩ := stR zw hx hZ z3j z3m (j := s1) z3o rfl (Or.inl rfl) (g := (mkF m 13 #[.val (.ref z0), .val (.int s1), .unset, .unset, .unset, .unset, .unset, .unset, .unset, .unset, .unset, .unset] [.null, (.int s1), (.ref z8)])) rfl rfl (hb hby y5_13)
  have z3s := Fr.snoc zx N0 z1n
  have z3t := OL0.wr z3 z1n
  have z3u := KK0.wr z3 (own_Ix 0 rfl)
  have z3v : own_AM Z z1x z8 zh (.object y_s3) := own_AM.set z1f rfl z3
  have z1y := (z2z.other z3 (Or.inl zc))
  obtain ⟨z3w, z1z, z3x, z3y⟩ := getF zx hx hZ hown (host := "") (Or.inl (own_W hw 26 rfl)) Via.refl z3q z1y (g := (mkF m 15 #[.val (.ref z0), .val (.int s1), .unset, .unset, .unset, .unset, .unset, .unset, .unset, .unset, .unset, .unset] [(.ref z0)])) rfl rfl (hb hby y5_15)
  have z20 := (z1c.other z3 (Or.inl zc))
  obtain ⟨z21, zy, z22, z3z⟩ := getF z1z hx hZ hown (host := "") (Or.inl (own_W hw 16 rfl)) Via.refl z3x z20 (g := (mkF m 19 #[.val (.ref z0), .val (.int s1), .unset, .unset, .unset, .unset, .unset, .unset, .unset, .unset, .unset, .unset] [(.ref z0), (.ref z1)])) rfl rfl (hb hby y5_19)
  have z23 := (z1d.other z3 z1g)
  obtain ⟨z5z, z24, -, z40, z41, -, -⟩ := (id z23)
  have z25 := (z30.other z3 (Or.inl zc))
  obtain ⟨z26, zz, z42, z43⟩ := getF zy hx hZ hown (host := "") (Or.inl (own_W hw 37 rfl)) Via.refl z22 z25 (g := (mkF m 24 #[.val (.ref z0), .val (.int s1), .unset, .unset, .unset, .unset, .unset, .unset, .unset, .unset, .unset, .unset] [(.ref z0), (.int 16), (.ref z1)])) rfl rfl (hb hby y5_24)
  have z27 : own_AM Z z1x z1 zi .int := (z31.other z3 (Ne.symm z1h))
  obtain ⟨vs488, dv488, z44, z45, z60, z46, z61, z62, z63⟩ := (id z27)
  have z47 : ¬ ((14 : Int32) < 0 ∨ z44.slots.size ≤ ((14 : Int32)).toNatClampNeg) := inb_of z46 ⟨by decide, by decide⟩
  obtain ⟨z48, z49, zp, z4a, z4, z4b⟩ := stI zz hx hZ z42 z45 (j := (14 : Int32)) z47 (g := (mkF m 29 #[.val (.ref z0), .val (.int s1), .unset, .unset, .unset, .unset, .unset, .unset, .unset, .unset, .unset, .unset] [(.int s1), (.int 14), (.ref z1)])) rfl rfl (hb hby y5_29)
  have z4c := Fr.snoc zp z3s z1o
  have z4d := z3t.wr z4 z1o
  have z4e := z3u.wr z4 (own_Ix 1 rfl)
  have z4f : own_AM Z z49 z1 zi .int := own_AM.set z27 rfl z4
  have z10 := (z25.other z4 (Or.inl zd))
  obtain ⟨z28, z11, z4g, z4h⟩ := getF zp hx hZ hown (host := "") (Or.inl (own_W hw 37 rfl)) Via.refl z4a z10 (g := (mkF m 32 #[.val (.ref z0), .val (.int s1), .unset, .unset, .unset, .unset, .unset, .unset, .unset, .unset, .unset, .unset] [(.ref z0), (.ref z0)])) rfl rfl (hb hby y5_32)
  have z29 := ((z32.wr z3).wr z4)
  obtain ⟨z4i, z2a, z12, z4j, z5, z4k⟩ := putF z11 hx hZ hown (host := "") (Or.inl (own_W hw 37 rfl)) Via.refl z4g z10 z29 (Or.inl (own_W hw 38 rfl)) (own_W hw 1 rfl) (ty := .int) (by decide) rfl rfl (g := (mkF m 37 #[.val (.ref z0), .val (.int s1), .unset, .unset, .unset, .unset, .unset, .unset, .unset, .unset, .unset, .unset] [(.int 1), (.ref z0)])) rfl rfl (hb hby y5_37)
  have z4l := Fr.snoc z12 z4c z1p
  have z2b := z4d.wr z5 z1p
  have z4m := z4e.wr z5 (own_Ix 2 rfl)
  have zk : Fld Z z2a z0 y_s0 "size" "I" (.int 1) := z10.same z5
  have z13 := (((z33.other z3 (Or.inl zc)).other z4 (Or.inl zd)).other z5 (Or.inr (slot_ne (Or.inl (own_W hw 11 rfl)) (Or.inl (own_W hw 38 rfl)) (by decide) (t := (.array .double)) (t' := .int) (by decide) (by decide))))
  obtain ⟨z4n, z2c, z4o, z4p⟩ := getF z12 hx hZ hown (host := "") (Or.inl (own_W hw 10 rfl)) Via.refl z4j z13 (g := (mkF m 41 #[.val (.ref z0), .val (.int s1), .unset, .unset, .unset, .unset, .unset, .unset, .unset, .unset, .unset, .unset] [(.ref z0)])) rfl rfl (hb hby y5_41)
  obtain ⟨z2d, zq, z2e, z4q⟩ := getF z2c hx hZ hown (host := "") (Or.inl (own_W hw 37 rfl)) Via.refl z4o zk (g := (mkF m 45 #[.val (.ref z0), .val (.int s1), .unset, .unset, .unset, .unset, .unset, .unset, .unset, .unset, .unset, .unset] [(.ref z0), (.ref z6)])) rfl rfl (hb hby y5_45)
  have z2f := (((z34.other z3 z1i).other z4 z1j).other z5 (Ne.symm za))
  obtain ⟨z2g, z14, z64, z4r, z65, z4s, z66⟩ := (id z2f)
  have z2h : ¬ ((1 : Int32) < 0 ∨ z2g.slots.size ≤ ((1 : Int32)).toNatClampNeg) := inb_of z4r ⟨by decide, by decide⟩
  have z4t : z2g.slots[((1 : Int32)).toNatClampNeg]? = some (.double (Jvm.FP.l2d (x2.toInt64))) := Has.at z4s z2h rfl
  have z15 := (((z35.other z3 (Or.inl zc)).other z4 (Or.inl zd)).other z5 (Or.inr (slot_ne (Or.inl (own_W hw 14 rfl)) (Or.inl (own_W hw 38 rfl)) (by decide) (t := (.array .long)) (t' := .int) (by decide) (by decide))))
  obtain ⟨z4u, z2i, z4v, z4w⟩ := getF zq hx hZ hown (host := "") (Or.inl (own_W hw 13 rfl)) Via.refl z2e z15 (g := (mkF m 51 #[.val (.ref z0), .val (.int s1), .val (.double (Jvm.FP.l2d (x2.toInt64))), .second, .unset, .unset, .unset, .unset, .unset, .unset, .unset, .unset] [(.ref z0)])) rfl rfl (hb hby y5_51)
  obtain ⟨z2j, zr, z2k, z4x⟩ := getF z2i hx hZ hown (host := "") (Or.inl (own_W hw 37 rfl)) Via.refl z4v zk (g := (mkF m 55 #[.val (.ref z0), .val (.int s1), .val (.double (Jvm.FP.l2d (x2.toInt64))), .second, .unset, .unset, .unset, .unset, .unset, .unset, .unset, .unset] [(.ref z0), (.ref z7)])) rfl rfl (hb hby y5_55)
  have z2l := (((z36.other z3 z1k).other z4 z1l).other z5 (Ne.symm zb))
  obtain ⟨z2m, z16, z67, z4y, z68, z4z, z69⟩ := (id z2l)
  have z2n : ¬ ((1 : Int32) < 0 ∨ z2m.slots.size ≤ ((1 : Int32)).toNatClampNeg) := inb_of z4y ⟨by decide, by decide⟩
  have z50 : z2m.slots[((1 : Int32)).toNatClampNeg]? = some (.long c2) := Has.at z4z z2n rfl
  have z17 := ((z20.other z4 (Or.inl zd)).other z5 (Or.inr (slot_ne (Or.inl (own_W hw 17 rfl)) (Or.inl (own_W hw 38 rfl)) (by decide) (t := (.array .int)) (t' := .int) (by decide) (by decide))))
  obtain ⟨z51, z2o, z52, z53⟩ := getF zr hx hZ hown (host := "") (Or.inl (own_W hw 16 rfl)) Via.refl z2k z17 (g := (mkF m 62 #[.val (.ref z0), .val (.int s1), .val (.double (Jvm.FP.l2d (x2.toInt64))), .second, .val (.long c2), .second, .unset, .unset, .unset, .unset, .unset, .unset] [(.ref z0)])) rfl rfl (hb hby y5_62)
  obtain ⟨z2p, zf, z2q, z54⟩ := getF z2o hx hZ hown (host := "") (Or.inl (own_W hw 37 rfl)) Via.refl z52 zk (g := (mkF m 66 #[.val (.ref z0), .val (.int s1), .val (.double (Jvm.FP.l2d (x2.toInt64))), .second, .val (.long c2), .second, .unset, .unset, .unset, .unset, .unset, .unset] [(.ref z0), (.ref z2)])) rfl rfl (hb hby y5_66)
  have z2r := ((z23.other z4 z1m).other z5 (Ne.symm ze))
  obtain ⟨z2s, z18, z6a, z55, z6b, z56, z6c⟩ := (id z2r)
  have z2t : ¬ ((1 : Int32) < 0 ∨ z2s.slots.size ≤ ((1 : Int32)).toNatClampNeg) := inb_of z55 ⟨by decide, by decide⟩
  have z57 : z2s.slots[((1 : Int32)).toNatClampNeg]? = some (.int s2) := Has.at z56 z2t rfl
  obtain ⟨z2u, zg, z2v, z58⟩ := getF zf hx hZ hown (host := "") (Or.inl (own_W hw 37 rfl)) Via.refl z2q zk (g := (mkF m 81 #[.val (.ref z0), .val (.int s1), .val (.double (Jvm.FP.l2d (x2.toInt64))), .second, .val (.long c2), .second, .val (.int s2), .val (.int 0), .val (.int 1), .unset, .unset, .unset] [(.ref z0), (.int 1)])) rfl rfl (hb hby y5_81)
  have z2w := (z29.wr z5)
  obtain ⟨cq510, z59, q510'⟩ := z2w.cell
  obtain ⟨_, _, ⟨zs, L510, z6d, n510⟩, -, zl, ⟨Lc510, z2x, l510, y510, z510⟩, z2y⟩ := zg.privateBack hx (y := own_m2) hown (mvT hZ (own_W hw 50 rfl)) (mvT hZ (own_W hw 51 rfl)) (own_selpS (y := own_m2) (mvT hZ (own_W hw 35 rfl)) rfl (mvP (args := #[]) hZ (own_W hw 52 rfl)) (mvT hZ (own_W hw 51 rfl)) (by decide)) (Cond.privateMethod_at (mvP hZ (own_W hw 52 rfl) (args := #[]))) (mvT hZ (own_W hw 53 rfl)) (by decide) (backOf (W := 0) (rmP0 l Z a0 hw [] z2a n0 A K x1 x2 x3 c1 c2 c3 s1 s2 s3 x2 c2 s2 z0 z6 z7 z2 zm zn zo EN z2b z13 z2f z15 z2l z17 z2r za z3b zb z3c z3d z1q z1r z1s) hZ (own_W hw 53 rfl) (own_W hw 2 rfl) (by decide) (by decide)) (g := (mkF m 218 #[.val (.ref z0), .val (.int s1), .val (.double (Jvm.FP.l2d (x2.toInt64))), .second, .val (.long c2), .second, .val (.int s2), .val (.int 0), .val (.int 1), .unset, .unset, .unset] [(.int s2), (.long c2), (.double (Jvm.FP.l2d (x2.toInt64))), (.int 0), (.ref z0)])) rfl (by rw [hml]; rfl) (Steps.refl _) (a := z0) (by rw [z2v]; exact z59) q510' (argsL := [(.int 0), (.double (Jvm.FP.l2d (x2.toInt64))), (.long c2), (.int s2)]) (rest := []) (lenOf own_pd0 rfl) rfl (by show 2 * 0 + _ ≤ _; exact Nat.le_of_eq rfl) (hb hby y5_218) (fun _ _ => ⟨rfl, z2v, (by decide : 0 + 0 ≤ _), (by decide : 0 + 0 ≤ _)⟩)
  dsimp only [Pt.U, Pt.locs, Pt.cells, Pt.slots] at zl l510 y510 z510 z2y z2x
  replace zl := own_sub zl l510 y510 z510
  obtain ⟨rfl, z5a, z9, z5b, z5c, z5d⟩ := z2x
  have z5e := Fr.app z4l z5a
  have z6e := z2b.keep z9 (allS z1q (allS z1r (allS z1s all0)))
  have z5f := z4m.trans z9 (allS (own_Ix 5 rfl) (allS (own_Ix 4 rfl) (allS (own_Ix 3 rfl) all0)))
  have z5g := (z2w.keep z9)
  have z5h := (z13.keep z9 (ninS za (ninS zb (ninS ze nin0))))
  have z5i := (z15.keep z9 (ninS za (ninS zb (ninS ze nin0))))
  have z5j := (z17.keep z9 (ninS za (ninS zb (ninS ze nin0))))
  have z5k := ((((z37.other z3 (Or.inl zc)).other z4 (Or.inl zd)).other z5 (Or.inr (slot_ne (Or.inl (own_W hw 19 rfl)) (Or.inl (own_W hw 38 rfl)) (by decide) (t := (.array .int)) (t' := .int) (by decide) (by decide)))).keep z9 (ninS za (ninS zb (ninS ze nin0))))
  have z5l := ((((z38.other z3 (Or.inl zc)).other z4 (Or.inl zd)).other z5 (Or.inr (slot_ne (Or.inl (own_W hw 21 rfl)) (Or.inl (own_W hw 38 rfl)) (by decide) (t := (.array .int)) (t' := .int) (by decide) (by decide)))).keep z9 (ninS za (ninS zb (ninS ze nin0))))
  have z5m := ((((z1e.other z3 (Or.inl zc)).other z4 (Or.inl zd)).other z5 (Or.inr (slot_ne (Or.inl (own_W hw 25 rfl)) (Or.inl (own_W hw 38 rfl)) (by decide) (t := (.array (.object y_s3))) (t' := .int) (by decide) (by decide)))).keep z9 (ninS za (ninS zb (ninS ze nin0))))
  have z5n := (((z1y.other z4 (Or.inl zd)).other z5 (Or.inr (slot_ne (Or.inl (own_W hw 27 rfl)) (Or.inl (own_W hw 38 rfl)) (by decide) (t := (.array .int)) (t' := .int) (by decide) (by decide)))).keep z9 (ninS za (ninS zb (ninS ze nin0))))
  have z5o := (zk.keep z9 (ninS za (ninS zb (ninS ze nin0))))
  have z5p := ((((z39.other z3 (Or.inl zc)).other z4 (Or.inl zd)).other z5 (Or.inr (slot_ne (Or.inl (own_W hw 49 rfl)) (Or.inl (own_W hw 38 rfl)) (by decide) (t := .long) (t' := .int) (by decide) (by decide)))).keep z9 (ninS za (ninS zb (ninS ze nin0))))
  have z5q : own_AM Z zs.heap z8 zh (.object y_s3) := (((z3v.other z4 z1h).other z5 (Ne.symm zc)).keep z9 (ninS (Ne.symm z1i) (ninS (Ne.symm z1k) (ninS (Ne.symm z1g) nin0))))
  have z5r : own_AM Z zs.heap z1 zi .int := ((z4f.other z5 (Ne.symm zd)).keep z9 (ninS (Ne.symm z1j) (ninS (Ne.symm z1l) (ninS (Ne.symm z1m) nin0))))
  obtain ⟨fs, hr, hrun, hended, hW, hsame⟩ := zl.leave (v := none) (fun _ => rfl)
  refine ⟨_, _, pre0 _ ?_, hrun, hended, _, _, rfl, ?_, ⟨_, rfl⟩, hW, hsame.mono (by decide) (by decide)⟩
  · show Steps p.tables e below (s₁.setTop (mkF m 0 #[.val (.ref z0), .unset, .unset, .unset, .unset, .unset, .unset, .unset, .unset, .unset, .unset, .unset] [])) _
    refine XS.aloadN X0.here hx rfl (hb hby y5_0) rfl rfl ?_
    refine z3e _ ?_
    show Steps p.tables e below (z1t.setTop (mkF m 4 #[.val (.ref z0), .unset, .unset, .unset, .unset, .unset, .unset, .unset, .unset, .unset, .unset, .unset] [(.ref z2)])) _
    refine XS.iconst zj.here hx rfl (hb hby y5_4) ?_
    refine zj.iaload hx (j := (0 : Int32)) (v := (.int s1)) (by rw [z1u]; exact zv.1) (State.isArrayOf_alike hZ.alike zv.2.1) zv.2.2 z1w z3h (g := (mkF m 5 #[.val (.ref z0), .unset, .unset, .unset, .unset, .unset, .unset, .unset, .unset, .unset, .unset, .unset] [(.int 0), (.ref z2)])) rfl rfl (hb hby y5_5) _ ?_
    show Steps p.tables e below (z1t.setTop (mkF m 6 #[.val (.ref z0), .unset, .unset, .unset, .unset, .unset, .unset, .unset, .unset, .unset, .unset, .unset] [(.int s1)])) _
    refine XS.istoreN zj.here hx rfl (hb hby y5_6) rfl (l' := #[.val (.ref z0), .val (.int s1), .unset, .unset, .unset, .unset, .unset, .unset, .unset, .unset, .unset, .unset]) rfl ?_
    refine XS.aloadN zj.here hx rfl (hb hby y5_7) rfl rfl ?_
    refine z3k _ ?_
    show Steps p.tables e below (z3i.setTop (mkF m 11 #[.val (.ref z0), .val (.int s1), .unset, .unset, .unset, .unset, .unset, .unset, .unset, .unset, .unset, .unset] [(.ref z8)])) _
    refine XS.iloadN zw.here hx rfl (hb hby y5_11) rfl ?_
    refine XS.aconstNull zw.here hx rfl (hb hby y5_12) ?_
    refine z3r _ ?_
    show Steps p.tables e below (z3p.setTop (mkF m 14 #[.val (.ref z0), .val (.int s1), .unset, .unset, .unset, .unset, .unset, .unset, .unset, .unset, .unset, .unset] [])) _
    refine XS.aloadN zx.here hx rfl (hb hby y5_14) rfl rfl ?_
    refine z3y _ ?_
    show Steps p.tables e below (z3w.setTop (mkF m 18 #[.val (.ref z0), .val (.int s1), .unset, .unset, .unset, .unset, .unset, .unset, .unset, .unset, .unset, .unset] [(.ref z1)])) _
    refine XS.aloadN z1z.here hx rfl (hb hby y5_18) rfl rfl ?_
    refine z3z _ ?_
    show Steps p.tables e below (z21.setTop (mkF m 22 #[.val (.ref z0), .val (.int s1), .unset, .unset, .unset, .unset, .unset, .unset, .unset, .unset, .unset, .unset] [(.ref z2), (.ref z1)])) _
    refine zy.arraylength hx (by rw [z22]; exact z24.1) (State.isArrayOf_alike hZ.alike z24.2.1) (g := (mkF m 22 #[.val (.ref z0), .val (.int s1), .unset, .unset, .unset, .unset, .unset, .unset, .unset, .unset, .unset, .unset] [(.ref z2), (.ref z1)])) rfl rfl (hb hby y5_22) _ ?_
    rw [len_of z40 z41]
    show Steps p.tables e below (z21.setTop (mkF m 23 #[.val (.ref z0), .val (.int s1), .unset, .unset, .unset, .unset, .unset, .unset, .unset, .unset, .unset, .unset] [(.int 16), (.ref z1)])) _
    refine XS.aloadN zy.here hx rfl (hb hby y5_23) rfl rfl ?_
    refine z43 _ ?_
    show Steps p.tables e below (z26.setTop (mkF m 27 #[.val (.ref z0), .val (.int s1), .unset, .unset, .unset, .unset, .unset, .unset, .unset, .unset, .unset, .unset] [(.int 2), (.int 16), (.ref z1)])) _
    refine XS.isub zz.here hx rfl (hb hby y5_27) rfl ?_
    show Steps p.tables e below (z26.setTop (mkF m 28 #[.val (.ref z0), .val (.int s1), .unset, .unset, .unset, .unset, .unset, .unset, .unset, .unset, .unset, .unset] [(.int 14), (.ref z1)])) _
    refine XS.iloadN zz.here hx rfl (hb hby y5_28) rfl ?_
    refine z4b _ ?_
    show Steps p.tables e below (z48.setTop (mkF m 30 #[.val (.ref z0), .val (.int s1), .unset, .unset, .unset, .unset, .unset, .unset, .unset, .unset, .unset, .unset] [])) _
    refine XS.aloadN zp.here hx rfl (hb hby y5_30) rfl rfl ?_
    refine XS.dup zp.here hx rfl (hb hby y5_31) rfl rfl ?_
    refine z4h _ ?_
    show Steps p.tables e below (z28.setTop (mkF m 35 #[.val (.ref z0), .val (.int s1), .unset, .unset, .unset, .unset, .unset, .unset, .unset, .unset, .unset, .unset] [(.int 2), (.ref z0)])) _
    refine XS.iconst z11.here hx rfl (hb hby y5_35) ?_
    refine XS.isub z11.here hx rfl (hb hby y5_36) rfl ?_
    show Steps p.tables e below (z28.setTop (mkF m 37 #[.val (.ref z0), .val (.int s1), .unset, .unset, .unset, .unset, .unset, .unset, .unset, .unset, .unset, .unset] [(.int 1), (.ref z0)])) _
    refine z4k _ ?_
    show Steps p.tables e below (z4i.setTop (mkF m 40 #[.val (.ref z0), .val (.int s1), .unset, .unset, .unset, .unset, .unset, .unset, .unset, .unset, .unset, .unset] [])) _
    refine XS.aloadN z12.here hx rfl (hb hby y5_40) rfl rfl ?_
    refine z4p _ ?_
    show Steps p.tables e below (z4n.setTop (mkF m 44 #[.val (.ref z0), .val (.int s1), .unset, .unset, .unset, .unset, .unset, .unset, .unset, .unset, .unset, .unset] [(.ref z6)])) _
    refine XS.aloadN z2c.here hx rfl (hb hby y5_44) rfl rfl ?_
    refine z4q _ ?_
    show Steps p.tables e below (z2d.setTop (mkF m 48 #[.val (.ref z0), .val (.int s1), .unset, .unset, .unset, .unset, .unset, .unset, .unset, .unset, .unset, .unset] [(.int 1), (.ref z6)])) _
    refine zq.daload hx (j := (1 : Int32)) (v := (.double (Jvm.FP.l2d (x2.toInt64)))) (by rw [z2e]; exact z14.1) (State.isArrayOf_alike hZ.alike z14.2.1) z14.2.2 z2h z4t (g := (mkF m 48 #[.val (.ref z0), .val (.int s1), .unset, .unset, .unset, .unset, .unset, .unset, .unset, .unset, .unset, .unset] [(.int 1), (.ref z6)])) rfl rfl (hb hby y5_48) _ ?_
    show Steps p.tables e below (z2d.setTop (mkF m 49 #[.val (.ref z0), .val (.int s1), .unset, .unset, .unset, .unset, .unset, .unset, .unset, .unset, .unset, .unset] [(.double (Jvm.FP.l2d (x2.toInt64)))])) _
    refine XS.dstoreN zq.here hx rfl (hb hby y5_49) rfl (l' := #[.val (.ref z0), .val (.int s1), .val (.double (Jvm.FP.l2d (x2.toInt64))), .second, .unset, .unset, .unset, .unset, .unset, .unset, .unset, .unset]) rfl ?_
    refine XS.aloadN zq.here hx rfl (hb hby y5_50) rfl rfl ?_
    refine z4w _ ?_
    show Steps p.tables e below (z4u.setTop (mkF m 54 #[.val (.ref z0), .val (.int s1), .val (.double (Jvm.FP.l2d (x2.toInt64))), .second, .unset, .unset, .unset, .unset, .unset, .unset, .unset, .unset] [(.ref z7)])) _
    refine XS.aloadN z2i.here hx rfl (hb hby y5_54) rfl rfl ?_
    refine z4x _ ?_
    show Steps p.tables e below (z2j.setTop (mkF m 58 #[.val (.ref z0), .val (.int s1), .val (.double (Jvm.FP.l2d (x2.toInt64))), .second, .unset, .unset, .unset, .unset, .unset, .unset, .unset, .unset] [(.int 1), (.ref z7)])) _
    refine zr.laload hx (j := (1 : Int32)) (v := (.long c2)) (by rw [z2k]; exact z16.1) (State.isArrayOf_alike hZ.alike z16.2.1) z16.2.2 z2n z50 (g := (mkF m 58 #[.val (.ref z0), .val (.int s1), .val (.double (Jvm.FP.l2d (x2.toInt64))), .second, .unset, .unset, .unset, .unset, .unset, .unset, .unset, .unset] [(.int 1), (.ref z7)])) rfl rfl (hb hby y5_58) _ ?_
    show Steps p.tables e below (z2j.setTop (mkF m 59 #[.val (.ref z0), .val (.int s1), .val (.double (Jvm.FP.l2d (x2.toInt64))), .second, .unset, .unset, .unset, .unset, .unset, .unset, .unset, .unset] [(.long c2)])) _
    refine XS.lstore zr.here hx rfl (hb hby y5_59) rfl (l' := #[.val (.ref z0), .val (.int s1), .val (.double (Jvm.FP.l2d (x2.toInt64))), .second, .val (.long c2), .second, .unset, .unset, .unset, .unset, .unset, .unset]) rfl ?_
    refine XS.aloadN zr.here hx rfl (hb hby y5_61) rfl rfl ?_
    refine z53 _ ?_
    show Steps p.tables e below (z51.setTop (mkF m 65 #[.val (.ref z0), .val (.int s1), .val (.double (Jvm.FP.l2d (x2.toInt64))), .second, .val (.long c2), .second, .unset, .unset, .unset, .unset, .unset, .unset] [(.ref z2)])) _
    refine XS.aloadN z2o.here hx rfl (hb hby y5_65) rfl rfl ?_
    refine z54 _ ?_
    show Steps p.tables e below (z2p.setTop (mkF m 69 #[.val (.ref z0), .val (.int s1), .val (.double (Jvm.FP.l2d (x2.toInt64))), .second, .val (.long c2), .second, .unset, .unset, .unset, .unset, .unset, .unset] [(.int 1), (.ref z2)])) _
    refine zf.iaload hx (j := (1 : Int32)) (v := (.int s2)) (by rw [z2q]; exact z18.1) (State.isArrayOf_alike hZ.alike z18.2.1) z18.2.2 z2t z57 (g := (mkF m 69 #[.val (.ref z0), .val (.int s1), .val (.double (Jvm.FP.l2d (x2.toInt64))), .second, .val (.long c2), .second, .unset, .unset, .unset, .unset, .unset, .unset] [(.int 1), (.ref z2)])) rfl rfl (hb hby y5_69) _ ?_
    show Steps p.tables e below (z2p.setTop (mkF m 70 #[.val (.ref z0), .val (.int s1), .val (.double (Jvm.FP.l2d (x2.toInt64))), .second, .val (.long c2), .second, .unset, .unset, .unset, .unset, .unset, .unset] [(.int s2)])) _
    refine XS.istore zf.here hx rfl (hb hby y5_70) rfl (l' := #[.val (.ref z0), .val (.int s1), .val (.double (Jvm.FP.l2d (x2.toInt64))), .second, .val (.long c2), .second, .val (.int s2), .unset, .unset, .unset, .unset, .unset]) rfl ?_
    refine XS.iconst zf.here hx rfl (hb hby y5_72) ?_
    refine XS.istore zf.here hx rfl (hb hby y5_73) rfl (l' := #[.val (.ref z0), .val (.int s1), .val (.double (Jvm.FP.l2d (x2.toInt64))), .second, .val (.long c2), .second, .val (.int s2), .val (.int 0), .unset, .unset, .unset, .unset]) rfl ?_
    refine XS.iconst zf.here hx rfl (hb hby y5_75) ?_
    refine XS.istore zf.here hx rfl (hb hby y5_76) rfl (l' := #[.val (.ref z0), .val (.int s1), .val (.double (Jvm.FP.l2d (x2.toInt64))), .second, .val (.long c2), .second, .val (.int s2), .val (.int 0), .val (.int 1), .unset, .unset, .unset]) rfl ?_
    refine XS.iload zf.here hx rfl (hb hby y5_78) rfl ?_
    refine XS.aloadN zf.here hx rfl (hb hby y5_80) rfl rfl ?_
    refine z58 _ ?_
    show Steps p.tables e below (z2u.setTop (mkF m 84 #[.val (.ref z0), .val (.int s1), .val (.double (Jvm.FP.l2d (x2.toInt64))), .second, .val (.long c2), .second, .val (.int s2), .val (.int 0), .val (.int 1), .unset, .unset, .unset] [(.int 1), (.int 1)])) _
    refine XS.icmpYes zg.here hx rfl (pc0 := 84) (pc' := 210) rfl (hb hby y5_84) rfl (flt (by decide : ¬ ((1 : Int32) < (1 : Int32)))).2.1 (by decide) (by decide) ?_
    show Steps p.tables e below (z2u.setTop (mkF m 210 #[.val (.ref z0), .val (.int s1), .val (.double (Jvm.FP.l2d (x2.toInt64))), .second, .val (.long c2), .second, .val (.int s2), .val (.int 0), .val (.int 1), .unset, .unset, .unset] [])) _
    refine XS.aloadN zg.here hx rfl (hb hby y5_210) rfl rfl ?_
    refine XS.iload zg.here hx rfl (hb hby y5_211) rfl ?_
    refine XS.dloadN zg.here hx rfl (hb hby y5_213) rfl ?_
    refine XS.lload zg.here hx rfl (hb hby y5_214) rfl ?_
    refine XS.iload zg.here hx rfl (hb hby y5_216) rfl ?_
    refine z2y.trans ?_
    show Steps p.tables e below (zs.setTop (mkF m 221 #[.val (.ref z0), .val (.int s1), .val (.double (Jvm.FP.l2d (x2.toInt64))), .second, .val (.long c2), .second, .val (.int s2), .val (.int 0), .val (.int 1), .unset, .unset, .unset] [])) _
    exact zl.returnOut hx Bd.returns (hb hby y5_221) hr
  · show Q_rmR2 Z A K x1 x2 x3 c1 c2 c3 s1 s2 s3 z19 z1a z1b t1 t2 t3 ga z0 z6 z7 z2 zt zu z8 z1 zm zn zo zh zi h0 n0 _ zs.heap _
    exact ⟨rfl, z5e, z5f, z5g, z5h, z5i, z5j, z5k, z5l, z5m, z5n, z5o, z5p, z5b, z5c, z5d, z5q, z3a, z5r⟩
def Q_rmR1 (Z : State) (A : Nat → Addr) (K : Nat → ClassId) (x1 : Int32) (x2 : Int32) (x3 : Int32) (c1 : Int64) (c2 : Int64) (c3 : Int64) (s1 : Int32) (s2 : Int32) (s3 : Int32) (zd : Int32) (ze : Int32) (zf : Int32) (t1 : Int32) (t2 : Int32) (t3 : Int32) (ga : Int64) (z0 : Addr) (z1 : Addr) (z2 : Addr) (z3 : Addr) (z7 : Addr) (z8 : Addr) (z4 : Addr) (z5 : Addr) (z9 : ClassId) (za : ClassId) (zb : ClassId) (z6 : ClassId) (zc : ClassId) (h0 : Heap) (n0 : Nat) (v : Option Value) (h : Heap) (L : List Loc) : Prop := v = none ∧ Fr n0 L ∧ Keep h0 h [z4, z5, z0, z3, z2, z1] ∧ (Exa Z h z0 y_s0) ∧ (Fld Z h z0 y_s0 "at" "[D" (.ref z1)) ∧ (Fld Z h z0 y_s0 "added" "[J" (.ref z2)) ∧ (Fld Z h z0 y_s0 "slot" "[I" (.ref z3)) ∧ (Fld Z h z0 y_s0 "from" "[I" (.ref z7)) ∧ (Fld Z h z0 y_s0 "to" "[I" (.ref z8)) ∧ (Fld Z h z0 y_s0 "message" y_s1 (.ref z4)) ∧ (Fld Z h z0 y_s0 "free" "[I" (.ref z5)) ∧ (Fld Z h z0 y_s0 "size" "I" (.int 0)) ∧ (Fld Z h z0 y_s0 "additions" "J" (.long ga)) ∧ (Arv Z h z1 z9 .double (16 : Int32) [(.double (Jvm.FP.l2d (x1.toInt64))), (.double (Jvm.FP.l2d (x2.toInt64))), (.double (Jvm.FP.l2d (x3.toInt64)))] (.double (Jvm.FP.l2d ((0 : Int32).toInt64)))) ∧ (Arv Z h z2 za .long (16 : Int32) [(.long c1), (.long c2), (.long c3)] (.long 0)) ∧ (Arv Z h z3 zb .int 16 [(.int s1), (.int s2), (.int s3)] (.int 0)) ∧ (own_AM Z h z4 z6 (.object y_s3)) ∧ (Ovr Z z6 y_s3) ∧ (own_AM Z h z5 zc .int)
set_option maxRecDepth 65536 in
set_option maxHeartbeats 40000000 in
theorem rmR1 (l : Launch) (Z : State) (a0 : Array Value) (hw : ∀ d ∈ tables_1, d.before a0 Z = true) (ws : List Jvm.Cond) (h0 : Heap) (n0 : Nat) (A : Nat → Addr) (K : Nat → ClassId) (x1 : Int32) (x2 : Int32) (x3 : Int32) (c1 : Int64) (c2 : Int64) (c3 : Int64) (s1 : Int32) (s2 : Int32) (s3 : Int32) (z19 : Int32) (z1a : Int32) (z1b : Int32) (t1 : Int32) (t2 : Int32) (t3 : Int32) (ga : Int64)  (z0 : Addr) (z6 : Addr) (z7 : Addr) (z2 : Addr) (zt : Addr) (zu : Addr) (z8 : Addr) (z1 : Addr) (zm : ClassId) (zn : ClassId) (zo : ClassId) (zh : ClassId) (zi : ClassId) (EN : own_St Z A K) (OL0 : Old Z n0 h0) (z1c : Fld Z h0 z0 y_s0 "slot" "[I" (.ref z2)) (z1d : Arv Z h0 z2 zo .int 16 [(.int s1), (.int s2), (.int s3)] (.int 0)) (z1e : Fld Z h0 z0 y_s0 "message" y_s1 (.ref z8)) (z1f : own_AM Z h0 z8 zh (.object y_s3)) (z2z : Fld Z h0 z0 y_s0 "free" "[I" (.ref z1)) (z30 : Fld Z h0 z0 y_s0 "size" "I" (.int 1)) (z31 : own_AM Z h0 z1 zi .int) (z32 : Exa Z h0 z0 y_s0) (z33 : Fld Z h0 z0 y_s0 "at" "[D" (.ref z6)) (z34 : Arv Z h0 z6 zm .double (16 : Int32) [(.double (Jvm.FP.l2d (x1.toInt64))), (.double (Jvm.FP.l2d (x2.toInt64))), (.double (Jvm.FP.l2d (x3.toInt64)))] (.double (Jvm.FP.l2d ((0 : Int32).toInt64)))) (z35 : Fld Z h0 z0 y_s0 "added" "[J" (.ref z7)) (z36 : Arv Z h0 z7 zn .long (16 : Int32) [(.long c1), (.long c2), (.long c3)] (.long 0)) (z37 : Fld Z h0 z0 y_s0 "from" "[I" (.ref zt)) (z38 : Fld Z h0 z0 y_s0 "to" "[I" (.ref zu)) (z39 : Fld Z h0 z0 y_s0 "additions" "J" (.long ga)) (z3a : Ovr Z zh y_s3) (hs0 : ¬ (s1 < (0 : Int32))) (hs1 : s1 < (16 : Int32)) (zc : z0 ≠ z8) (z1g : z2 ≠ z8) (z1h : z8 ≠ z1) (zd : z0 ≠ z1) (z1i : z6 ≠ z8) (z1j : z6 ≠ z1) (za : z0 ≠ z6) (z1k : z7 ≠ z8) (z1l : z7 ≠ z1) (zb : z0 ≠ z7) (z1m : z2 ≠ z1) (ze : z0 ≠ z2) (z3b : z6 ≠ z7) (z3c : z6 ≠ z2) (z3d : z7 ≠ z2) (z1n : n0 ≤ z8) (z1o : n0 ≤ z1) (z1p : n0 ≤ z0) (z1q : n0 ≤ z6) (z1r : n0 ≤ z7) (z1s : n0 ≤ z2) :
    MetFree l own_m1 (head1 (Jvm.Cond.code own_m1 prog_48_method_8_code 12 none :: ws) (Room.mk 1 0 0 18)) (fun a U => a = #[(.ref z0)] ∧ Z.Warmed39 U.vm ∧ U.heap = h0) (fun _ _ _ _ _ => True) (fun _ U o U' => ∃ v L, o = .returned v ∧ Q_rmR1 Z A K x1 x2 x3 c1 c2 c3 s1 s2 s3 z19 z1a z1b t1 t2 t3 ga z0 z6 z7 z2 zt zu z8 z1 zm zn zo zh zi h0 n0 v U'.heap L ∧ FrameEnd U o U' L (Room.mk 1 0 0 18).cells (Room.mk 1 0 0 18).slots) := by
  refine MetFree.of_bodySF (plainFor_of_name own_pn0) hisR ?_
  intro p e s m args below meth c s₁ Bd hml0 hP hK
  obtain ⟨rfl, hZ, hh⟩ := hP
  have hx := Bd.exec
  have hby := Bd.bytes
  have hml : c.maxLocals = 12 := hml0
  have hown : s.vm.findClass y_s0 = some m.cls := findClass_of_methodNamed Bd.named
  have hnm := (name_of_methodNamed Bd.named Bd.method).1
  have X0 : Stand p l e (Room.mk 1 0 0 18) s m #[(.ref z0)] below meth c s₁ [] 0 0 := Stand.of_body Bd
  have e0 : s₁.heap = h0 := by rw [← hh, Bd.state]; rfl
  have N0 := Fr.nil n0
  have pre0 : ∀ t, Steps p.tables e below (s₁.setTop (mkF m 0 #[.val (.ref z0), .unset, .unset, .unset, .unset, .unset, .unset, .unset, .unset, .unset, .unset, .unset] [])) t → Steps p.tables e below (s₁.setTop (entryFrame m #[(.ref z0)] 12)) t := fun t k => castTop (by first | (simp [entryFrame, mkF, argsToLocals, Value.category, maxLocals]; done) | rfl) k
  have KK0 : Keep h0 h0 [z8, z1, z0, z2, z7, z6] := Keep.refl _ _
  obtain ⟨z1t, zj, z1u, z3e⟩ := getF X0 hx hZ hown (host := "") (Or.inl (own_W hw 16 rfl)) Via.refl e0 z1c (g := (mkF m 1 #[.val (.ref z0), .unset, .unset, .unset, .unset, .unset, .unset, .unset, .unset, .unset, .unset, .unset] [(.ref z0)])) rfl rfl (hb hby y5_1)
  obtain ⟨z1v, zv, z5s, z3f, z5t, z3g, z5u⟩ := (id z1d)
  have z1w : ¬ ((0 : Int32) < 0 ∨ z1v.slots.size ≤ ((0 : Int32)).toNatClampNeg) := inb_of z3f ⟨by decide, by decide⟩
  have z3h : z1v.slots[((0 : Int32)).toNatClampNeg]? = some (.int s1) := Has.at z3g z1w rfl
  obtain ⟨z3i, zw, z3j, z3k⟩ := getF zj hx hZ hown (host := "") (Or.inl (own_W hw 24 rfl)) Via.refl z1u z1e (g := (mkF m 8 #[.val (.ref z0), .val (.int s1), .unset, .unset, .unset, .unset, .unset, .unset, .unset, .unset, .unset, .unset] [(.ref z0)])) rfl rfl (hb hby y5_8)
  obtain ⟨vs527, dv527, z3l, z3m, z5v, z3n, z5w, z5x, z5y⟩ := (id z1f)
  have z3o : ¬ (s1 < 0 ∨ z3l.slots.size ≤ (s1).toNatClampNeg) := inb_of z3n ⟨hs0, hs1⟩
  obtain ⟨z3p, z1x, zx, z3q, z3, z3r⟩ := stR zw hx hZ z3j z3m (j := s1) z3o rfl (Or.inl rfl) (g := (mkF m 13 #[.val (.ref z0), .val (.int s1), .unset, .unset, .unset, .unset, .unset, .unset, .unset, .unset, .unset, .unset] [.null, (.int s1), (.ref z8)])) rfl rfl (hb hby y5_13)
  have z3s := Fr.snoc zx N0 z1n
  have z3t := OL0.wr z3 z1n
  have z3u := KK0.wr z3 (own_Ix 0 rfl)
  have z3v : own_AM Z z1x z8 zh (.object y_s3) := own_AM.set z1f rfl z3
  have z1y := (z2z.other z3 (Or.inl zc))
  obtain ⟨z3w, z1z, z3x, z3y⟩ := getF zx hx hZ hown (host := "") (Or.inl (own_W hw 26 rfl)) Via.refl z3q z1y (g := (mkF m 15 #[.val (.ref z0), .val (.int s1), .unset, .unset, .unset, .unset, .unset, .unset, .unset, .unset, .unset, .unset] [(.ref z0)])) rfl rfl (hb hby y5_15)
  have z20 := (z1c.other z3 (Or.inl zc))
  obtain ⟨z21, zy, z22, z3z⟩ := getF z1z hx hZ hown (host := "") (Or.inl (own_W hw 16 rfl)) Via.refl z3x z20 (g := (mkF m 19 #[.val (.ref z0), .val (.int s1), .unset, .unset, .unset, .unset, .unset, .unset, .unset, .unset, .unset, .unset] [(.ref z0), (.ref z1)])) rfl rfl (hb hby y5_19)
  have z23 := (z1d.other z3 z1g)
  obtain ⟨z5z, z24, -, z40, z41, -, -⟩ := (id z23)
  have z25 := (z30.other z3 (Or.inl zc))
  obtain ⟨z26, zz, z42, z43⟩ := getF zy hx hZ hown (host := "") (Or.inl (own_W hw 37 rfl)) Via.refl z22 z25 (g := (mkF m 24 #[.val (.ref z0), .val (.int s1), .unset, .unset, .unset, .unset, .unset, .unset, .unset, .unset, .unset, .unset] [(.ref z0), (.int 16), (.ref z1)])) rfl rfl (hb hby y5_24)
  have z27 : own_AM Z z1x z1 zi .int := (z31.other z3 (Ne.symm z1h))
  obtain ⟨vs538, dv538, z44, z45, z60, z46, z61, z62, z63⟩ := (id z27)
  have z47 : ¬ ((15 : Int32) < 0 ∨ z44.slots.size ≤ ((15 : Int32)).toNatClampNeg) := inb_of z46 ⟨by decide, by decide⟩
  obtain ⟨z48, z49, zp, z4a, z4, z4b⟩ := stI zz hx hZ z42 z45 (j := (15 : Int32)) z47 (g := (mkF m 29 #[.val (.ref z0), .val (.int s1), .unset, .unset, .unset, .unset, .unset, .unset, .unset, .unset, .unset, .unset] [(.int s1), (.int 15), (.ref z1)])) rfl rfl (hb hby y5_29)
  have z4c := Fr.snoc zp z3s z1o
  have z4d := z3t.wr z4 z1o
  have z4e := z3u.wr z4 (own_Ix 1 rfl)
  have z4f : own_AM Z z49 z1 zi .int := own_AM.set z27 rfl z4
  have z10 := (z25.other z4 (Or.inl zd))
  obtain ⟨z28, z11, z4g, z4h⟩ := getF zp hx hZ hown (host := "") (Or.inl (own_W hw 37 rfl)) Via.refl z4a z10 (g := (mkF m 32 #[.val (.ref z0), .val (.int s1), .unset, .unset, .unset, .unset, .unset, .unset, .unset, .unset, .unset, .unset] [(.ref z0), (.ref z0)])) rfl rfl (hb hby y5_32)
  have z29 := ((z32.wr z3).wr z4)
  obtain ⟨z4i, z2a, z12, z4j, z5, z4k⟩ := putF z11 hx hZ hown (host := "") (Or.inl (own_W hw 37 rfl)) Via.refl z4g z10 z29 (Or.inl (own_W hw 38 rfl)) (own_W hw 1 rfl) (ty := .int) (by decide) rfl rfl (g := (mkF m 37 #[.val (.ref z0), .val (.int s1), .unset, .unset, .unset, .unset, .unset, .unset, .unset, .unset, .unset, .unset] [(.int 0), (.ref z0)])) rfl rfl (hb hby y5_37)
  have z4l := Fr.snoc z12 z4c z1p
  have z2b := z4d.wr z5 z1p
  have z4m := z4e.wr z5 (own_Ix 2 rfl)
  have zk : Fld Z z2a z0 y_s0 "size" "I" (.int 0) := z10.same z5
  have z13 := (((z33.other z3 (Or.inl zc)).other z4 (Or.inl zd)).other z5 (Or.inr (slot_ne (Or.inl (own_W hw 11 rfl)) (Or.inl (own_W hw 38 rfl)) (by decide) (t := (.array .double)) (t' := .int) (by decide) (by decide))))
  obtain ⟨z4n, z2c, z4o, z4p⟩ := getF z12 hx hZ hown (host := "") (Or.inl (own_W hw 10 rfl)) Via.refl z4j z13 (g := (mkF m 41 #[.val (.ref z0), .val (.int s1), .unset, .unset, .unset, .unset, .unset, .unset, .unset, .unset, .unset, .unset] [(.ref z0)])) rfl rfl (hb hby y5_41)
  obtain ⟨z2d, zq, z2e, z4q⟩ := getF z2c hx hZ hown (host := "") (Or.inl (own_W hw 37 rfl)) Via.refl z4o zk (g := (mkF m 45 #[.val (.ref z0), .val (.int s1), .unset, .unset, .unset, .unset, .unset, .unset, .unset, .unset, .unset, .unset] [(.ref z0), (.ref z6)])) rfl rfl (hb hby y5_45)
  have z2f := (((z34.other z3 z1i).other z4 z1j).other z5 (Ne.symm za))
  obtain ⟨z2g, z14, z64, z4r, z65, z4s, z66⟩ := (id z2f)
  have z2h : ¬ ((0 : Int32) < 0 ∨ z2g.slots.size ≤ ((0 : Int32)).toNatClampNeg) := inb_of z4r ⟨by decide, by decide⟩
  have z4t : z2g.slots[((0 : Int32)).toNatClampNeg]? = some (.double (Jvm.FP.l2d (x1.toInt64))) := Has.at z4s z2h rfl
  have z15 := (((z35.other z3 (Or.inl zc)).other z4 (Or.inl zd)).other z5 (Or.inr (slot_ne (Or.inl (own_W hw 14 rfl)) (Or.inl (own_W hw 38 rfl)) (by decide) (t := (.array .long)) (t' := .int) (by decide) (by decide))))
  obtain ⟨z4u, z2i, z4v, z4w⟩ := getF zq hx hZ hown (host := "") (Or.inl (own_W hw 13 rfl)) Via.refl z2e z15 (g := (mkF m 51 #[.val (.ref z0), .val (.int s1), .val (.double (Jvm.FP.l2d (x1.toInt64))), .second, .unset, .unset, .unset, .unset, .unset, .unset, .unset, .unset] [(.ref z0)])) rfl rfl (hb hby y5_51)
  obtain ⟨z2j, zr, z2k, z4x⟩ := getF z2i hx hZ hown (host := "") (Or.inl (own_W hw 37 rfl)) Via.refl z4v zk (g := (mkF m 55 #[.val (.ref z0), .val (.int s1), .val (.double (Jvm.FP.l2d (x1.toInt64))), .second, .unset, .unset, .unset, .unset, .unset, .unset, .unset, .unset] [(.ref z0), (.ref z7)])) rfl rfl (hb hby y5_55)
  have z2l := (((z36.other z3 z1k).other z4 z1l).other z5 (Ne.symm zb))
  obtain ⟨z2m, z16, z67, z4y, z68, z4z, z69⟩ := (id z2l)
  have z2n : ¬ ((0 : Int32) < 0 ∨ z2m.slots.size ≤ ((0 : Int32)).toNatClampNeg) := inb_of z4y ⟨by decide, by decide⟩
  have z50 : z2m.slots[((0 : Int32)).toNatClampNeg]? = some (.long c1) := Has.at z4z z2n rfl
  have z17 := ((z20.other z4 (Or.inl zd)).other z5 (Or.inr (slot_ne (Or.inl (own_W hw 17 rfl)) (Or.inl (own_W hw 38 rfl)) (by decide) (t := (.array .int)) (t' := .int) (by decide) (by decide))))
  obtain ⟨z51, z2o, z52, z53⟩ := getF zr hx hZ hown (host := "") (Or.inl (own_W hw 16 rfl)) Via.refl z2k z17 (g := (mkF m 62 #[.val (.ref z0), .val (.int s1), .val (.double (Jvm.FP.l2d (x1.toInt64))), .second, .val (.long c1), .second, .unset, .unset, .unset, .unset, .unset, .unset] [(.ref z0)])) rfl rfl (hb hby y5_62)
  obtain ⟨z2p, zf, z2q, z54⟩ := getF z2o hx hZ hown (host := "") (Or.inl (own_W hw 37 rfl)) Via.refl z52 zk (g := (mkF m 66 #[.val (.ref z0), .val (.int s1), .val (.double (Jvm.FP.l2d (x1.toInt64))), .second, .val (.long c1), .second, .unset, .unset, .unset, .unset, .unset, .unset] [(.ref z0), (.ref z2)])) rfl rfl (hb hby y5_66)
  have z2r := ((z23.other z4 z1m).other z5 (Ne.symm ze))
  obtain ⟨z2s, z18, z6a, z55, z6b, z56, z6c⟩ := (id z2r)
  have z2t : ¬ ((0 : Int32) < 0 ∨ z2s.slots.size ≤ ((0 : Int32)).toNatClampNeg) := inb_of z55 ⟨by decide, by decide⟩
  have z57 : z2s.slots[((0 : Int32)).toNatClampNeg]? = some (.int s1) := Has.at z56 z2t rfl
  obtain ⟨z2u, zg, z2v, z58⟩ := getF zf hx hZ hown (host := "") (Or.inl (own_W hw 37 rfl)) Via.refl z2q zk (g := (mkF m 81 #[.val (.ref z0), .val (.int s1), .val (.double (Jvm.FP.l2d (x1.toInt64))), .second, .val (.long c1), .second, .val (.int s1), .val (.int 0), .val (.int 1), .unset, .unset, .unset] [(.ref z0), (.int 1)])) rfl rfl (hb hby y5_81)
  have z2w := (z29.wr z5)
  obtain ⟨cq560, z59, q560'⟩ := z2w.cell
  obtain ⟨_, _, ⟨zs, L560, z6d, n560⟩, -, zl, ⟨Lc560, z2x, l560, y560, z560⟩, z2y⟩ := zg.privateBack hx (y := own_m2) hown (mvT hZ (own_W hw 50 rfl)) (mvT hZ (own_W hw 51 rfl)) (own_selpS (y := own_m2) (mvT hZ (own_W hw 35 rfl)) rfl (mvP (args := #[]) hZ (own_W hw 52 rfl)) (mvT hZ (own_W hw 51 rfl)) (by decide)) (Cond.privateMethod_at (mvP hZ (own_W hw 52 rfl) (args := #[]))) (mvT hZ (own_W hw 53 rfl)) (by decide) (backOf (W := 0) (rmP0 l Z a0 hw [] z2a n0 A K x1 x2 x3 c1 c2 c3 s1 s2 s3 x1 c1 s1 z0 z6 z7 z2 zm zn zo EN z2b z13 z2f z15 z2l z17 z2r za z3b zb z3c z3d z1q z1r z1s) hZ (own_W hw 53 rfl) (own_W hw 2 rfl) (by decide) (by decide)) (g := (mkF m 218 #[.val (.ref z0), .val (.int s1), .val (.double (Jvm.FP.l2d (x1.toInt64))), .second, .val (.long c1), .second, .val (.int s1), .val (.int 0), .val (.int 1), .unset, .unset, .unset] [(.int s1), (.long c1), (.double (Jvm.FP.l2d (x1.toInt64))), (.int 0), (.ref z0)])) rfl (by rw [hml]; rfl) (Steps.refl _) (a := z0) (by rw [z2v]; exact z59) q560' (argsL := [(.int 0), (.double (Jvm.FP.l2d (x1.toInt64))), (.long c1), (.int s1)]) (rest := []) (lenOf own_pd0 rfl) rfl (by show 2 * 0 + _ ≤ _; exact Nat.le_of_eq rfl) (hb hby y5_218) (fun _ _ => ⟨rfl, z2v, (by decide : 0 + 0 ≤ _), (by decide : 0 + 0 ≤ _)⟩)
  dsimp only [Pt.U, Pt.locs, Pt.cells, Pt.slots] at zl l560 y560 z560 z2y z2x
  replace zl := own_sub zl l560 y560 z560
  obtain ⟨rfl, z5a, z9, z5b, z5c, z5d⟩ := z2x
  have z5e := Fr.app z4l z5a
  have z6e := z2b.keep z9 (allS z1q (allS z1r (allS z1s all0)))
  have z5f := z4m.trans z9 (allS (own_Ix 5 rfl) (allS (own_Ix 4 rfl) (allS (own_Ix 3 rfl) all0)))
  have z5g := (z2w.keep z9)
  have z5h := (z13.keep z9 (ninS za (ninS zb (ninS ze nin0))))
  have z5i := (z15.keep z9 (ninS za (ninS zb (ninS ze nin0))))
  have z5j := (z17.keep z9 (ninS za (ninS zb (ninS ze nin0))))
  have z5k := ((((z37.other z3 (Or.inl zc)).other z4 (Or.inl zd)).other z5 (Or.inr (slot_ne (Or.inl (own_W hw 19 rfl)) (Or.inl (own_W hw 38 rfl)) (by decide) (t := (.array .int)) (t' := .int) (by decide) (by decide)))).keep z9 (ninS za (ninS zb (ninS ze nin0))))
  have z5l := ((((z38.other z3 (Or.inl zc)).other z4 (Or.inl zd)).other z5 (Or.inr (slot_ne (Or.inl (own_W hw 21 rfl)) (Or.inl (own_W hw 38 rfl)) (by decide) (t := (.array .int)) (t' := .int) (by decide) (by decide)))).keep z9 (ninS za (ninS zb (ninS ze nin0))))
  have z5m := ((((z1e.other z3 (Or.inl zc)).other z4 (Or.inl zd)).other z5 (Or.inr (slot_ne (Or.inl (own_W hw 25 rfl)) (Or.inl (own_W hw 38 rfl)) (by decide) (t := (.array (.object y_s3))) (t' := .int) (by decide) (by decide)))).keep z9 (ninS za (ninS zb (ninS ze nin0))))
  have z5n := (((z1y.other z4 (Or.inl zd)).other z5 (Or.inr (slot_ne (Or.inl (own_W hw 27 rfl)) (Or.inl (own_W hw 38 rfl)) (by decide) (t := (.array .int)) (t' := .int) (by decide) (by decide)))).keep z9 (ninS za (ninS zb (ninS ze nin0))))
  have z5o := (zk.keep z9 (ninS za (ninS zb (ninS ze nin0))))
  have z5p := ((((z39.other z3 (Or.inl zc)).other z4 (Or.inl zd)).other z5 (Or.inr (slot_ne (Or.inl (own_W hw 49 rfl)) (Or.inl (own_W hw 38 rfl)) (by decide) (t := .long) (t' := .int) (by decide) (by decide)))).keep z9 (ninS za (ninS zb (ninS ze nin0))))
  have z5q : own_AM Z zs.heap z8 zh (.object y_s3) := (((z3v.other z4 z1h).other z5 (Ne.symm zc)).keep z9 (ninS (Ne.symm z1i) (ninS (Ne.symm z1k) (ninS (Ne.symm z1g) nin0))))
  have z5r : own_AM Z zs.heap z1 zi .int := ((z4f.other z5 (Ne.symm zd)).keep z9 (ninS (Ne.symm z1j) (ninS (Ne.symm z1l) (ninS (Ne.symm z1m) nin0))))
  obtain ⟨fs, hr, hrun, hended, hW, hsame⟩ := zl.leave (v := none) (fun _ => rfl)
  refine ⟨_, _, pre0 _ ?_, hrun, hended, _, _, rfl, ?_, ⟨_, rfl⟩, hW, hsame.mono (by decide) (by decide)⟩
  · show Steps p.tables e below (s₁.setTop (mkF m 0 #[.val (.ref z0), .unset, .unset, .unset, .unset, .unset, .unset, .unset, .unset, .unset, .unset, .unset] [])) _
    refine XS.aloadN X0.here hx rfl (hb hby y5_0) rfl rfl ?_
    refine z3e _ ?_
    show Steps p.tables e below (z1t.setTop (mkF m 4 #[.val (.ref z0), .unset, .unset, .unset, .unset, .unset, .unset, .unset, .unset, .unset, .unset, .unset] [(.ref z2)])) _
    refine XS.iconst zj.here hx rfl (hb hby y5_4) ?_
    refine zj.iaload hx (j := (0 : Int32)) (v := (.int s1)) (by rw [z1u]; exact zv.1) (State.isArrayOf_alike hZ.alike zv.2.1) zv.2.2 z1w z3h (g := (mkF m 5 #[.val (.ref z0), .unset, .unset, .unset, .unset, .unset, .unset, .unset, .unset, .unset, .unset, .unset] [(.int 0), (.ref z2)])) rfl rfl (hb hby y5_5) _ ?_
    show Steps p.tables e below (z1t.setTop (mkF m 6 #[.val (.ref z0), .unset, .unset, .unset, .unset, .unset, .unset, .unset, .unset, .unset, .unset, .unset] [(.int s1)])) _
    refine XS.istoreN zj.here hx rfl (hb hby y5_6) rfl (l' := #[.val (.ref z0), .val (.int s1), .unset, .unset, .unset, .unset, .unset, .unset, .unset, .unset, .unset, .unset]) rfl ?_
    refine XS.aloadN zj.here hx rfl (hb hby y5_7) rfl rfl ?_
    refine z3k _ ?_
    show Steps p.tables e below (z3i.setTop (mkF m 11 #[.val (.ref z0), .val (.int s1), .unset, .unset, .unset, .unset, .unset, .unset, .unset, .unset, .unset, .unset] [(.ref z8)])) _
    refine XS.iloadN zw.here hx rfl (hb hby y5_11) rfl ?_
    refine XS.aconstNull zw.here hx rfl (hb hby y5_12) ?_
    refine z3r _ ?_
    show Steps p.tables e below (z3p.setTop (mkF m 14 #[.val (.ref z0), .val (.int s1), .unset, .unset, .unset, .unset, .unset, .unset, .unset, .unset, .unset, .unset] [])) _
    refine XS.aloadN zx.here hx rfl (hb hby y5_14) rfl rfl ?_
    refine z3y _ ?_
    show Steps p.tables e below (z3w.setTop (mkF m 18 #[.val (.ref z0), .val (.int s1), .unset, .unset, .unset, .unset, .unset, .unset, .unset, .unset, .unset, .unset] [(.ref z1)])) _
    refine XS.aloadN z1z.here hx rfl (hb hby y5_18) rfl rfl ?_
    refine z3z _ ?_
    show Steps p.tables e below (z21.setTop (mkF m 22 #[.val (.ref z0), .val (.int s1), .unset, .unset, .unset, .unset, .unset, .unset, .unset, .unset, .unset, .unset] [(.ref z2), (.ref z1)])) _
    refine zy.arraylength hx (by rw [z22]; exact z24.1) (State.isArrayOf_alike hZ.alike z24.2.1) (g := (mkF m 22 #[.val (.ref z0), .val (.int s1), .unset, .unset, .unset, .unset, .unset, .unset, .unset, .unset, .unset, .unset] [(.ref z2), (.ref z1)])) rfl rfl (hb hby y5_22) _ ?_
    rw [len_of z40 z41]
    show Steps p.tables e below (z21.setTop (mkF m 23 #[.val (.ref z0), .val (.int s1), .unset, .unset, .unset, .unset, .unset, .unset, .unset, .unset, .unset, .unset] [(.int 16), (.ref z1)])) _
    refine XS.aloadN zy.here hx rfl (hb hby y5_23) rfl rfl ?_
    refine z43 _ ?_
    show Steps p.tables e below (z26.setTop (mkF m 27 #[.val (.ref z0), .val (.int s1), .unset, .unset, .unset, .unset, .unset, .unset, .unset, .unset, .unset, .unset] [(.int 1), (.int 16), (.ref z1)])) _
    refine XS.isub zz.here hx rfl (hb hby y5_27) rfl ?_
    show Steps p.tables e below (z26.setTop (mkF m 28 #[.val (.ref z0), .val (.int s1), .unset, .unset, .unset, .unset, .unset, .unset, .unset, .unset, .unset, .unset] [(.int 15), (.ref z1)])) _
    refine XS.iloadN zz.here hx rfl (hb hby y5_28) rfl ?_
    refine z4b _ ?_
    show Steps p.tables e below (z48.setTop (mkF m 30 #[.val (.ref z0), .val (.int s1), .unset, .unset, .unset, .unset, .unset, .unset, .unset, .unset, .unset, .unset] [])) _
    refine XS.aloadN zp.here hx rfl (hb hby y5_30) rfl rfl ?_
    refine XS.dup zp.here hx rfl (hb hby y5_31) rfl rfl ?_
    refine z4h _ ?_
    show Steps p.tables e below (z28.setTop (mkF m 35 #[.val (.ref z0), .val (.int s1), .unset, .unset, .unset, .unset, .unset, .unset, .unset, .unset, .unset, .unset] [(.int 1), (.ref z0)])) _
    refine XS.iconst z11.here hx rfl (hb hby y5_35) ?_
    refine XS.isub z11.here hx rfl (hb hby y5_36) rfl ?_
    show Steps p.tables e below (z28.setTop (mkF m 37 #[.val (.ref z0), .val (.int s1), .unset, .unset, .unset, .unset, .unset, .unset, .unset, .unset, .unset, .unset] [(.int 0), (.ref z0)])) _
    refine z4k _ ?_
    show Steps p.tables e below (z4i.setTop (mkF m 40 #[.val (.ref z0), .val (.int s1), .unset, .unset, .unset, .unset, .unset, .unset, .unset, .unset, .unset, .unset] [])) _
    refine XS.aloadN z12.here hx rfl (hb hby y5_40) rfl rfl ?_
    refine z4p _ ?_
    show Steps p.tables e below (z4n.setTop (mkF m 44 #[.val (.ref z0), .val (.int s1), .unset, .unset, .unset, .unset, .unset, .unset, .unset, .unset, .unset, .unset] [(.ref z6)])) _
    refine XS.aloadN z2c.here hx rfl (hb hby y5_44) rfl rfl ?_
    refine z4q _ ?_
    show Steps p.tables e below (z2d.setTop (mkF m 48 #[.val (.ref z0), .val (.int s1), .unset, .unset, .unset, .unset, .unset, .unset, .unset, .unset, .unset, .unset] [(.int 0), (.ref z6)])) _
    refine zq.daload hx (j := (0 : Int32)) (v := (.double (Jvm.FP.l2d (x1.toInt64)))) (by rw [z2e]; exact z14.1) (State.isArrayOf_alike hZ.alike z14.2.1) z14.2.2 z2h z4t (g := (mkF m 48 #[.val (.ref z0), .val (.int s1), .unset, .unset, .unset, .unset, .unset, .unset, .unset, .unset, .unset, .unset] [(.int 0), (.ref z6)])) rfl rfl (hb hby y5_48) _ ?_
    show Steps p.tables e below (z2d.setTop (mkF m 49 #[.val (.ref z0), .val (.int s1), .unset, .unset, .unset, .unset, .unset, .unset, .unset, .unset, .unset, .unset] [(.double (Jvm.FP.l2d (x1.toInt64)))])) _
    refine XS.dstoreN zq.here hx rfl (hb hby y5_49) rfl (l' := #[.val (.ref z0), .val (.int s1), .val (.double (Jvm.FP.l2d (x1.toInt64))), .second, .unset, .unset, .unset, .unset, .unset, .unset, .unset, .unset]) rfl ?_
    refine XS.aloadN zq.here hx rfl (hb hby y5_50) rfl rfl ?_
    refine z4w _ ?_
    show Steps p.tables e below (z4u.setTop (mkF m 54 #[.val (.ref z0), .val (.int s1), .val (.double (Jvm.FP.l2d (x1.toInt64))), .second, .unset, .unset, .unset, .unset, .unset, .unset, .unset, .unset] [(.ref z7)])) _
    refine XS.aloadN z2i.here hx rfl (hb hby y5_54) rfl rfl ?_
    refine z4x _ ?_
    show Steps p.tables e below (z2j.setTop (mkF m 58 #[.val (.ref z0), .val (.int s1), .val (.double (Jvm.FP.l2d (x1.toInt64))), .second, .unset, .unset, .unset, .unset, .unset, .unset, .unset, .unset] [(.int 0), (.ref z7)])) _
    refine zr.laload hx (j := (0 : Int32)) (v := (.long c1)) (by rw [z2k]; exact z16.1) (State.isArrayOf_alike hZ.alike z16.2.1) z16.2.2 z2n z50 (g := (mkF m 58 #[.val (.ref z0), .val (.int s1), .val (.double (Jvm.FP.l2d (x1.toInt64))), .second, .unset, .unset, .unset, .unset, .unset, .unset, .unset, .unset] [(.int 0), (.ref z7)])) rfl rfl (hb hby y5_58) _ ?_
    show Steps p.tables e below (z2j.setTop (mkF m 59 #[.val (.ref z0), .val (.int s1), .val (.double (Jvm.FP.l2d (x1.toInt64))), .second, .unset, .unset, .unset, .unset, .unset, .unset, .unset, .unset] [(.long c1)])) _
    refine XS.lstore zr.here hx rfl (hb hby y5_59) rfl (l' := #[.val (.ref z0), .val (.int s1), .val (.double (Jvm.FP.l2d (x1.toInt64))), .second, .val (.long c1), .second, .unset, .unset, .unset, .unset, .unset, .unset]) rfl ?_
    refine XS.aloadN zr.here hx rfl (hb hby y5_61) rfl rfl ?_
    refine z53 _ ?_
    show Steps p.tables e below (z51.setTop (mkF m 65 #[.val (.ref z0), .val (.int s1), .val (.double (Jvm.FP.l2d (x1.toInt64))), .second, .val (.long c1), .second, .unset, .unset, .unset, .unset, .unset, .unset] [(.ref z2)])) _
    refine XS.aloadN z2o.here hx rfl (hb hby y5_65) rfl rfl ?_
    refine z54 _ ?_
    show Steps p.tables e below (z2p.setTop (mkF m 69 #[.val (.ref z0), .val (.int s1), .val (.double (Jvm.FP.l2d (x1.toInt64))), .second, .val (.long c1), .second, .unset, .unset, .unset, .unset, .unset, .unset] [(.int 0), (.ref z2)])) _
    refine zf.iaload hx (j := (0 : Int32)) (v := (.int s1)) (by rw [z2q]; exact z18.1) (State.isArrayOf_alike hZ.alike z18.2.1) z18.2.2 z2t z57 (g := (mkF m 69 #[.val (.ref z0), .val (.int s1), .val (.double (Jvm.FP.l2d (x1.toInt64))), .second, .val (.long c1), .second, .unset, .unset, .unset, .unset, .unset, .unset] [(.int 0), (.ref z2)])) rfl rfl (hb hby y5_69) _ ?_
    show Steps p.tables e below (z2p.setTop (mkF m 70 #[.val (.ref z0), .val (.int s1), .val (.double (Jvm.FP.l2d (x1.toInt64))), .second, .val (.long c1), .second, .unset, .unset, .unset, .unset, .unset, .unset] [(.int s1)])) _
    refine XS.istore zf.here hx rfl (hb hby y5_70) rfl (l' := #[.val (.ref z0), .val (.int s1), .val (.double (Jvm.FP.l2d (x1.toInt64))), .second, .val (.long c1), .second, .val (.int s1), .unset, .unset, .unset, .unset, .unset]) rfl ?_
    refine XS.iconst zf.here hx rfl (hb hby y5_72) ?_
    refine XS.istore zf.here hx rfl (hb hby y5_73) rfl (l' := #[.val (.ref z0), .val (.int s1), .val (.double (Jvm.FP.l2d (x1.toInt64))), .second, .val (.long c1), .second, .val (.int s1), .val (.int 0), .unset, .unset, .unset, .unset]) rfl ?_
    refine XS.iconst zf.here hx rfl (hb hby y5_75) ?_
    refine XS.istore zf.here hx rfl (hb hby y5_76) rfl (l' := #[.val (.ref z0), .val (.int s1), .val (.double (Jvm.FP.l2d (x1.toInt64))), .second, .val (.long c1), .second, .val (.int s1), .val (.int 0), .val (.int 1), .unset, .unset, .unset]) rfl ?_
    refine XS.iload zf.here hx rfl (hb hby y5_78) rfl ?_
    refine XS.aloadN zf.here hx rfl (hb hby y5_80) rfl rfl ?_
    refine z58 _ ?_
    show Steps p.tables e below (z2u.setTop (mkF m 84 #[.val (.ref z0), .val (.int s1), .val (.double (Jvm.FP.l2d (x1.toInt64))), .second, .val (.long c1), .second, .val (.int s1), .val (.int 0), .val (.int 1), .unset, .unset, .unset] [(.int 0), (.int 1)])) _
    refine XS.icmpYes zg.here hx rfl (pc0 := 84) (pc' := 210) rfl (hb hby y5_84) rfl (flt (by decide : ¬ ((1 : Int32) < (0 : Int32)))).2.1 (by decide) (by decide) ?_
    show Steps p.tables e below (z2u.setTop (mkF m 210 #[.val (.ref z0), .val (.int s1), .val (.double (Jvm.FP.l2d (x1.toInt64))), .second, .val (.long c1), .second, .val (.int s1), .val (.int 0), .val (.int 1), .unset, .unset, .unset] [])) _
    refine XS.aloadN zg.here hx rfl (hb hby y5_210) rfl rfl ?_
    refine XS.iload zg.here hx rfl (hb hby y5_211) rfl ?_
    refine XS.dloadN zg.here hx rfl (hb hby y5_213) rfl ?_
    refine XS.lload zg.here hx rfl (hb hby y5_214) rfl ?_
    refine XS.iload zg.here hx rfl (hb hby y5_216) rfl ?_
    refine z2y.trans ?_
    show Steps p.tables e below (zs.setTop (mkF m 221 #[.val (.ref z0), .val (.int s1), .val (.double (Jvm.FP.l2d (x1.toInt64))), .second, .val (.long c1), .second, .val (.int s1), .val (.int 0), .val (.int 1), .unset, .unset, .unset] [])) _
    exact zl.returnOut hx Bd.returns (hb hby y5_221) hr
  · show Q_rmR1 Z A K x1 x2 x3 c1 c2 c3 s1 s2 s3 z19 z1a z1b t1 t2 t3 ga z0 z6 z7 z2 zt zu z8 z1 zm zn zo zh zi h0 n0 _ zs.heap _
    exact ⟨rfl, z5e, z5f, z5g, z5h, z5i, z5j, z5k, z5l, z5m, z5n, z5o, z5p, z5b, z5c, z5d, z5q, z3a, z5r⟩
def own_QB (Z : State) (h : Heap) (n : Int32) (b1 : Addr) (b2 : Addr) (b3 : Addr) (b4 : Addr) (b5 : Addr) (b6 : Addr) (b7 : Addr) (b8 : Addr) (k2 : ClassId) (k3 : ClassId) (k4 : ClassId) (k5 : ClassId) (k6 : ClassId) (k7 : ClassId) : Prop := ∃ x1 : Int32, ∃ x2 : Int32, ∃ x3 : Int32, ∃ c1 : Int64, ∃ c2 : Int64, ∃ c3 : Int64, ∃ s1 : Int32, ∃ s2 : Int32, ∃ s3 : Int32, ∃ f1 : Int32, ∃ f2 : Int32, ∃ f3 : Int32, ∃ t1 : Int32, ∃ t2 : Int32, ∃ t3 : Int32, ∃ ga : Int64, (¬ (s1 < (0 : Int32))) ∧ (s1 < (16 : Int32)) ∧ (¬ (s2 < (0 : Int32))) ∧ (s2 < (16 : Int32)) ∧ (¬ (s3 < (0 : Int32))) ∧ (s3 < (16 : Int32)) ∧ (Exa Z h b1 y_s0) ∧ (Fld Z h b1 y_s0 "at" "[D" (.ref b2)) ∧ (Fld Z h b1 y_s0 "added" "[J" (.ref b3)) ∧ (Fld Z h b1 y_s0 "slot" "[I" (.ref b4)) ∧ (Fld Z h b1 y_s0 "from" "[I" (.ref b5)) ∧ (Fld Z h b1 y_s0 "to" "[I" (.ref b6)) ∧ (Fld Z h b1 y_s0 "message" y_s1 (.ref b7)) ∧ (Fld Z h b1 y_s0 "free" "[I" (.ref b8)) ∧ (Fld Z h b1 y_s0 "size" "I" (.int n)) ∧ (Fld Z h b1 y_s0 "additions" "J" (.long ga)) ∧ (Arv Z h b2 k2 .double (16 : Int32) [(.double (Jvm.FP.l2d (x1.toInt64))), (.double (Jvm.FP.l2d (x2.toInt64))), (.double (Jvm.FP.l2d (x3.toInt64)))] (.double (Jvm.FP.l2d ((0 : Int32).toInt64)))) ∧ (Arv Z h b3 k3 .long (16 : Int32) [(.long c1), (.long c2), (.long c3)] (.long 0)) ∧ (Arv Z h b4 k4 .int 16 [(.int s1), (.int s2), (.int s3)] (.int 0)) ∧ (Arv Z h b5 k5 .int 16 [(.int f1), (.int f2), (.int f3)] (.int 0)) ∧ (Arv Z h b6 k6 .int 16 [(.int t1), (.int t2), (.int t3)] (.int 0)) ∧ (own_AM Z h b7 k7 (.object y_s3)) ∧ (Ovr Z k7 y_s3)
theorem own_QB.size {Z : State} {h : Heap} {n : Int32} {b1 : Addr} {b2 : Addr} {b3 : Addr} {b4 : Addr} {b5 : Addr} {b6 : Addr} {b7 : Addr} {b8 : Addr} {k2 : ClassId} {k3 : ClassId} {k4 : ClassId} {k5 : ClassId} {k6 : ClassId} {k7 : ClassId} (F : own_QB Z h n b1 b2 b3 b4 b5 b6 b7 b8 k2 k3 k4 k5 k6 k7) : Fld Z h b1 y_s0 "size" "I" (.int n) := by
  obtain ⟨x1, x2, x3, c1, c2, c3, s1, s2, s3, f1, f2, f3, t1, t2, t3, ga, hs1a, hs1b, hs2a, hs2b, hs3a, hs3b, G_E_b1, G_F_b1_com_example_ringleader_ringleader_engine_EventQueue_at, G_F_b1_com_example_ringleader_ringleader_engine_EventQueue_added, G_F_b1_com_example_ringleader_ringleader_engine_EventQueue_slot, G_F_b1_com_example_ringleader_ringleader_engine_EventQueue_from, G_F_b1_com_example_ringleader_ringleader_engine_EventQueue_to, G_F_b1_com_example_ringleader_ringleader_engine_EventQueue_message, G_F_b1_com_example_ringleader_ringleader_engine_EventQueue_free, G_F_b1_com_example_ringleader_ringleader_engine_EventQueue_size, G_F_b1_com_example_ringleader_ringleader_engine_EventQueue_additions, G_A_b2, G_A_b3, G_A_b4, G_A_b5, G_A_b6, G_M_b7, G_O_b7⟩ := F
  exact G_F_b1_com_example_ringleader_ringleader_engine_EventQueue_size
theorem own_QB.keep {Z : State} {h h' : Heap} {n : Int32} {b1 : Addr} {b2 : Addr} {b3 : Addr} {b4 : Addr} {b5 : Addr} {b6 : Addr} {b7 : Addr} {b8 : Addr} {k2 : ClassId} {k3 : ClassId} {k4 : ClassId} {k5 : ClassId} {k6 : ClassId} {k7 : ClassId} (F : own_QB Z h n b1 b2 b3 b4 b5 b6 b7 b8 k2 k3 k4 k5 k6 k7) (K : Keep h h' []) (q : b1 ∉ ([] : List Addr)) : own_QB Z h' n b1 b2 b3 b4 b5 b6 b7 b8 k2 k3 k4 k5 k6 k7 := by
  obtain ⟨x1, x2, x3, c1, c2, c3, s1, s2, s3, f1, f2, f3, t1, t2, t3, ga, hs1a, hs1b, hs2a, hs2b, hs3a, hs3b, G_E_b1, G_F_b1_com_example_ringleader_ringleader_engine_EventQueue_at, G_F_b1_com_example_ringleader_ringleader_engine_EventQueue_added, G_F_b1_com_example_ringleader_ringleader_engine_EventQueue_slot, G_F_b1_com_example_ringleader_ringleader_engine_EventQueue_from, G_F_b1_com_example_ringleader_ringleader_engine_EventQueue_to, G_F_b1_com_example_ringleader_ringleader_engine_EventQueue_message, G_F_b1_com_example_ringleader_ringleader_engine_EventQueue_free, G_F_b1_com_example_ringleader_ringleader_engine_EventQueue_size, G_F_b1_com_example_ringleader_ringleader_engine_EventQueue_additions, G_A_b2, G_A_b3, G_A_b4, G_A_b5, G_A_b6, G_M_b7, G_O_b7⟩ := F
  exact ⟨x1, x2, x3, c1, c2, c3, s1, s2, s3, f1, f2, f3, t1, t2, t3, ga, hs1a, hs1b, hs2a, hs2b, hs3a, hs3b, (G_E_b1.keep K), (G_F_b1_com_example_ringleader_ringleader_engine_EventQueue_at.keep K nin0), (G_F_b1_com_example_ringleader_ringleader_engine_EventQueue_added.keep K nin0), (G_F_b1_com_example_ringleader_ringleader_engine_EventQueue_slot.keep K nin0), (G_F_b1_com_example_ringleader_ringleader_engine_EventQueue_from.keep K nin0), (G_F_b1_com_example_ringleader_ringleader_engine_EventQueue_to.keep K nin0), (G_F_b1_com_example_ringleader_ringleader_engine_EventQueue_message.keep K nin0), (G_F_b1_com_example_ringleader_ringleader_engine_EventQueue_free.keep K nin0), (G_F_b1_com_example_ringleader_ringleader_engine_EventQueue_size.keep K nin0), (G_F_b1_com_example_ringleader_ringleader_engine_EventQueue_additions.keep K nin0), (G_A_b2.keep K nin0), (G_A_b3.keep K nin0), (G_A_b4.keep K nin0), (G_A_b5.keep K nin0), (G_A_b6.keep K nin0), (G_M_b7.keep K nin0), G_O_b7⟩
theorem own_wk {l : Launch} {x : MethodName} {S : Spec} {P : Array Value → State → Prop} {K : Program → Env → List Frame → State → Array Value → Prop} {Q Q' : Array Value → State → Outcome → State → Prop} (h : MetFree l x S P K Q) (w : ∀ a U o U', Q a U o U' → Q' a U o U') : MetFree l x S P K Q' := by
  intro p e ha hc hk s m args below hf hS hP hK
  obtain ⟨n, o, h1, h2, h3, h4⟩ := h p e ha hc hk s m args below hf hS hP hK
  exact ⟨n, o, h1, h2, h3, w _ _ _ _ h4⟩
theorem own_kw {h h' : Heap} {ws ws' : List Addr} (K : Keep h h' ws) (q : ∀ x ∈ ws, x ∈ ws') : Keep h h' ws' := (Keep.refl h ws').trans K fun x hx => Or.inl (q x hx)
def Q_wA0 (Z : State) (b1 : Addr) (b2 : Addr) (b3 : Addr) (b4 : Addr) (b5 : Addr) (b6 : Addr) (b7 : Addr) (b8 : Addr) (k2 : ClassId) (k3 : ClassId) (k4 : ClassId) (k5 : ClassId) (k6 : ClassId) (k7 : ClassId) (k8 : ClassId) (h0 : Heap) (n0 : Nat) (v : Option Value) (h : Heap) (L : List Loc) : Prop := v = none ∧ Fr n0 L ∧ Keep h0 h [b5, b6, b7, b1, b4, b3, b2] ∧ own_QB Z h (1 : Int32) b1 b2 b3 b4 b5 b6 b7 b8 k2 k3 k4 k5 k6 k7
theorem wA0 (l : Launch) (Z : State) (a0 : Array Value) (hw : ∀ d ∈ tables_1, d.before a0 Z = true) (ws : List Jvm.Cond) (h0 : Heap) (n0 : Nat) (A : Nat → Addr) (K : Nat → ClassId) (b1 : Addr) (b2 : Addr) (b3 : Addr) (b4 : Addr) (b5 : Addr) (b6 : Addr) (b7 : Addr) (b8 : Addr) (k2 : ClassId) (k3 : ClassId) (k4 : ClassId) (k5 : ClassId) (k6 : ClassId) (k7 : ClassId) (k8 : ClassId) (vx : Int32) (vf : Int32) (vt : Int32) (EN : own_St Z A K) (OL0 : Old Z n0 h0) (GB : own_QB Z h0 (0 : Int32) b1 b2 b3 b4 b5 b6 b7 b8 k2 k3 k4 k5 k6 k7) (G_A_b8 : Arv Z h0 b8 k8 .int 16 [(.int 15), (.int 14), (.int 13), (.int 12), (.int 11), (.int 10), (.int 9), (.int 8), (.int 7), (.int 6), (.int 5), (.int 4), (.int 3), (.int 2), (.int 1), (.int 0)] (.int 0)) (ne_b1_b2 : b1 ≠ b2) (ne_b1_b3 : b1 ≠ b3) (ne_b1_b4 : b1 ≠ b4) (ne_b1_b5 : b1 ≠ b5) (ne_b1_b6 : b1 ≠ b6) (ne_b1_b7 : b1 ≠ b7) (ne_b1_b8 : b1 ≠ b8) (ne_b2_b3 : b2 ≠ b3) (ne_b2_b4 : b2 ≠ b4) (ne_b2_b5 : b2 ≠ b5) (ne_b2_b6 : b2 ≠ b6) (ne_b2_b7 : b2 ≠ b7) (ne_b2_b8 : b2 ≠ b8) (ne_b3_b4 : b3 ≠ b4) (ne_b3_b5 : b3 ≠ b5) (ne_b3_b6 : b3 ≠ b6) (ne_b3_b7 : b3 ≠ b7) (ne_b3_b8 : b3 ≠ b8) (ne_b4_b5 : b4 ≠ b5) (ne_b4_b6 : b4 ≠ b6) (ne_b4_b7 : b4 ≠ b7) (ne_b4_b8 : b4 ≠ b8) (ne_b5_b6 : b5 ≠ b6) (ne_b5_b7 : b5 ≠ b7) (ne_b5_b8 : b5 ≠ b8) (ne_b6_b7 : b6 ≠ b7) (ne_b6_b8 : b6 ≠ b8) (ne_b7_b8 : b7 ≠ b8) (gn_b1 : n0 ≤ b1) (gn_b2 : n0 ≤ b2) (gn_b3 : n0 ≤ b3) (gn_b4 : n0 ≤ b4) (gn_b5 : n0 ≤ b5) (gn_b6 : n0 ≤ b6) (gn_b7 : n0 ≤ b7) (gn_b8 : n0 ≤ b8) :
    MetFree l own_m3 (head1 (Jvm.Cond.code own_m3 prog_48_method_2_code 9 none :: ws) (Room.mk 1 0 0 18)) (fun a U => a = #[(.ref b1), (.double (Jvm.FP.l2d (vx.toInt64))), (.int vf), (.int vt), .null] ∧ Z.Warmed39 U.vm ∧ U.heap = h0) (fun _ _ _ _ _ => True) (fun _ U o U' => ∃ v L, o = .returned v ∧ Q_wA0 Z b1 b2 b3 b4 b5 b6 b7 b8 k2 k3 k4 k5 k6 k7 k8 h0 n0 v U'.heap L ∧ FrameEnd U o U' L (Room.mk 1 0 0 18).cells (Room.mk 1 0 0 18).slots) := by
  obtain ⟨x1, x2, x3, c1, c2, c3, s1, s2, s3, f1, f2, f3, t1, t2, t3, ga, hs1a, hs1b, hs2a, hs2b, hs3a, hs3b, G_E_b1, G_F_b1_com_example_ringleader_ringleader_engine_EventQueue_at, G_F_b1_com_example_ringleader_ringleader_engine_EventQueue_added, G_F_b1_com_example_ringleader_ringleader_engine_EventQueue_slot, G_F_b1_com_example_ringleader_ringleader_engine_EventQueue_from, G_F_b1_com_example_ringleader_ringleader_engine_EventQueue_to, G_F_b1_com_example_ringleader_ringleader_engine_EventQueue_message, G_F_b1_com_example_ringleader_ringleader_engine_EventQueue_free, G_F_b1_com_example_ringleader_ringleader_engine_EventQueue_size, G_F_b1_com_example_ringleader_ringleader_engine_EventQueue_additions, G_A_b2, G_A_b3, G_A_b4, G_A_b5, G_A_b6, G_M_b7, G_O_b7⟩ := GB
  refine own_wk (rmA0 l Z a0 hw ws h0 n0 A K x1 x2 x3 c1 c2 c3 s1 s2 s3 f1 f2 f3 t1 t2 t3 ga vx vf vt b1 b2 b3 b4 b5 b6 b7 b8 k2 k3 k4 k5 k6 k7 k8 EN OL0 G_F_b1_com_example_ringleader_ringleader_engine_EventQueue_size G_F_b1_com_example_ringleader_ringleader_engine_EventQueue_slot G_A_b4 G_F_b1_com_example_ringleader_ringleader_engine_EventQueue_free G_A_b8 G_F_b1_com_example_ringleader_ringleader_engine_EventQueue_from G_A_b5 G_F_b1_com_example_ringleader_ringleader_engine_EventQueue_to G_A_b6 G_F_b1_com_example_ringleader_ringleader_engine_EventQueue_message G_M_b7 G_E_b1 G_F_b1_com_example_ringleader_ringleader_engine_EventQueue_additions G_F_b1_com_example_ringleader_ringleader_engine_EventQueue_at G_A_b2 G_F_b1_com_example_ringleader_ringleader_engine_EventQueue_added G_A_b3 G_O_b7 ne_b1_b5 ne_b5_b6 ne_b1_b6 ne_b5_b7 ne_b6_b7 ne_b1_b7 ne_b2_b5 ne_b2_b6 ne_b2_b7 ne_b1_b2 ne_b3_b5 ne_b3_b6 ne_b3_b7 ne_b1_b3 ne_b4_b5 ne_b4_b6 ne_b4_b7 ne_b1_b4 ne_b2_b3 ne_b2_b4 ne_b3_b4 gn_b5 gn_b6 gn_b7 gn_b1 gn_b2 gn_b3 gn_b4) fun a U o U' => ?_
  rintro ⟨v, L, rfl, ⟨rfl, N, Kc, u0, u1, u2, u3, u4, u5, u6, u7, u8, u9, u10, u11, u12, u13, u14, u15, u16⟩, fe⟩
  exact ⟨_, L, rfl, ⟨rfl, N, Kc, ⟨vx, x2, x3, ga, c2, c3, (0 : Int32), s2, s3, vf, f2, f3, vt, t2, t3, (ga + (1 : Int64)), by decide, by decide, hs2a, hs2b, hs3a, hs3b, u0, u1, u2, u3, u4, u5, u6, u7, u8, u9, u10, u11, u12, u13, u14, u15, u16⟩⟩, fe⟩
def Q_wA1 (Z : State) (b1 : Addr) (b2 : Addr) (b3 : Addr) (b4 : Addr) (b5 : Addr) (b6 : Addr) (b7 : Addr) (b8 : Addr) (k2 : ClassId) (k3 : ClassId) (k4 : ClassId) (k5 : ClassId) (k6 : ClassId) (k7 : ClassId) (k8 : ClassId) (h0 : Heap) (n0 : Nat) (v : Option Value) (h : Heap) (L : List Loc) : Prop := v = none ∧ Fr n0 L ∧ Keep h0 h [b5, b6, b7, b1, b2, b3, b4] ∧ own_QB Z h (2 : Int32) b1 b2 b3 b4 b5 b6 b7 b8 k2 k3 k4 k5 k6 k7
theorem wA1 (l : Launch) (Z : State) (a0 : Array Value) (hw : ∀ d ∈ tables_1, d.before a0 Z = true) (ws : List Jvm.Cond) (h0 : Heap) (n0 : Nat) (A : Nat → Addr) (K : Nat → ClassId) (b1 : Addr) (b2 : Addr) (b3 : Addr) (b4 : Addr) (b5 : Addr) (b6 : Addr) (b7 : Addr) (b8 : Addr) (br : Addr) (k2 : ClassId) (k3 : ClassId) (k4 : ClassId) (k5 : ClassId) (k6 : ClassId) (k7 : ClassId) (k8 : ClassId) (vx : Int32) (vf : Int32) (vt : Int32) (EN : own_St Z A K) (OL0 : Old Z n0 h0) (GB : own_QB Z h0 (1 : Int32) b1 b2 b3 b4 b5 b6 b7 b8 k2 k3 k4 k5 k6 k7) (G_A_b8 : Arv Z h0 b8 k8 .int 16 [(.int 15), (.int 14), (.int 13), (.int 12), (.int 11), (.int 10), (.int 9), (.int 8), (.int 7), (.int 6), (.int 5), (.int 4), (.int 3), (.int 2), (.int 1), (.int 0)] (.int 0)) (G_E_br : Exa Z h0 br y_s2) (ne_b1_b2 : b1 ≠ b2) (ne_b1_b3 : b1 ≠ b3) (ne_b1_b4 : b1 ≠ b4) (ne_b1_b5 : b1 ≠ b5) (ne_b1_b6 : b1 ≠ b6) (ne_b1_b7 : b1 ≠ b7) (ne_b1_b8 : b1 ≠ b8) (ne_b2_b3 : b2 ≠ b3) (ne_b2_b4 : b2 ≠ b4) (ne_b2_b5 : b2 ≠ b5) (ne_b2_b6 : b2 ≠ b6) (ne_b2_b7 : b2 ≠ b7) (ne_b2_b8 : b2 ≠ b8) (ne_b3_b4 : b3 ≠ b4) (ne_b3_b5 : b3 ≠ b5) (ne_b3_b6 : b3 ≠ b6) (ne_b3_b7 : b3 ≠ b7) (ne_b3_b8 : b3 ≠ b8) (ne_b4_b5 : b4 ≠ b5) (ne_b4_b6 : b4 ≠ b6) (ne_b4_b7 : b4 ≠ b7) (ne_b4_b8 : b4 ≠ b8) (ne_b5_b6 : b5 ≠ b6) (ne_b5_b7 : b5 ≠ b7) (ne_b5_b8 : b5 ≠ b8) (ne_b6_b7 : b6 ≠ b7) (ne_b6_b8 : b6 ≠ b8) (ne_b7_b8 : b7 ≠ b8) (gn_b1 : n0 ≤ b1) (gn_b2 : n0 ≤ b2) (gn_b3 : n0 ≤ b3) (gn_b4 : n0 ≤ b4) (gn_b5 : n0 ≤ b5) (gn_b6 : n0 ≤ b6) (gn_b7 : n0 ≤ b7) (gn_b8 : n0 ≤ b8) :
    MetFree l own_m3 (head1 (Jvm.Cond.code own_m3 prog_48_method_2_code 9 none :: ws) (Room.mk 2 0 0 32)) (fun a U => a = #[(.ref b1), (.double (Jvm.FP.l2d (vx.toInt64))), (.int vf), (.int vt), (.ref br)] ∧ Z.Warmed39 U.vm ∧ U.heap = h0) (fun _ _ _ _ _ => True) (fun _ U o U' => ∃ v L, o = .returned v ∧ Q_wA1 Z b1 b2 b3 b4 b5 b6 b7 b8 k2 k3 k4 k5 k6 k7 k8 h0 n0 v U'.heap L ∧ FrameEnd U o U' L (Room.mk 2 0 0 32).cells (Room.mk 2 0 0 32).slots) := by
  obtain ⟨x1, x2, x3, c1, c2, c3, s1, s2, s3, f1, f2, f3, t1, t2, t3, ga, hs1a, hs1b, hs2a, hs2b, hs3a, hs3b, G_E_b1, G_F_b1_com_example_ringleader_ringleader_engine_EventQueue_at, G_F_b1_com_example_ringleader_ringleader_engine_EventQueue_added, G_F_b1_com_example_ringleader_ringleader_engine_EventQueue_slot, G_F_b1_com_example_ringleader_ringleader_engine_EventQueue_from, G_F_b1_com_example_ringleader_ringleader_engine_EventQueue_to, G_F_b1_com_example_ringleader_ringleader_engine_EventQueue_message, G_F_b1_com_example_ringleader_ringleader_engine_EventQueue_free, G_F_b1_com_example_ringleader_ringleader_engine_EventQueue_size, G_F_b1_com_example_ringleader_ringleader_engine_EventQueue_additions, G_A_b2, G_A_b3, G_A_b4, G_A_b5, G_A_b6, G_M_b7, G_O_b7⟩ := GB
  by_cases hri : vx < x1
  · refine own_wk (rmA1y l Z a0 hw ws h0 n0 A K x1 x2 x3 c1 c2 c3 s1 s2 s3 f1 f2 f3 t1 t2 t3 ga vx vf vt b1 b2 b3 b4 b5 b6 b7 b8 br k2 k3 k4 k5 k6 k7 k8 EN OL0 G_F_b1_com_example_ringleader_ringleader_engine_EventQueue_size G_F_b1_com_example_ringleader_ringleader_engine_EventQueue_slot G_A_b4 G_F_b1_com_example_ringleader_ringleader_engine_EventQueue_free G_A_b8 G_F_b1_com_example_ringleader_ringleader_engine_EventQueue_from G_A_b5 G_F_b1_com_example_ringleader_ringleader_engine_EventQueue_to G_A_b6 G_F_b1_com_example_ringleader_ringleader_engine_EventQueue_message G_M_b7 G_O_b7 G_E_br G_E_b1 G_F_b1_com_example_ringleader_ringleader_engine_EventQueue_at G_A_b2 G_F_b1_com_example_ringleader_ringleader_engine_EventQueue_added G_A_b3 G_F_b1_com_example_ringleader_ringleader_engine_EventQueue_additions hri ne_b1_b5 ne_b5_b6 ne_b1_b6 ne_b5_b7 ne_b6_b7 ne_b1_b7 ne_b2_b5 ne_b2_b6 ne_b2_b7 ne_b1_b2 ne_b3_b5 ne_b3_b6 ne_b3_b7 ne_b1_b3 ne_b4_b5 ne_b4_b6 ne_b4_b7 ne_b1_b4 ne_b2_b3 ne_b2_b4 ne_b3_b4 gn_b5 gn_b6 gn_b7 gn_b1 gn_b2 gn_b3 gn_b4) fun a U o U' => ?_
    rintro ⟨v, L, rfl, ⟨rfl, N, Kc, u0, u1, u2, u3, u4, u5, u6, u7, u8, u9, u10, u11, u12, u13, u14, u15, u16⟩, fe⟩
    exact ⟨_, L, rfl, ⟨rfl, N, Kc, ⟨vx, x1, x3, ga, c1, c3, (1 : Int32), s1, s3, f1, vf, f3, t1, vt, t3, (ga + (1 : Int64)), by decide, by decide, hs1a, hs1b, hs3a, hs3b, u0, u1, u2, u3, u4, u5, u6, u7, u8, u9, u10, u11, u12, u13, u14, u15, u16⟩⟩, fe⟩
  · refine own_wk (rmA1n l Z a0 hw ws h0 n0 A K x1 x2 x3 c1 c2 c3 s1 s2 s3 f1 f2 f3 t1 t2 t3 ga vx vf vt b1 b2 b3 b4 b5 b6 b7 b8 br k2 k3 k4 k5 k6 k7 k8 EN OL0 G_F_b1_com_example_ringleader_ringleader_engine_EventQueue_size G_F_b1_com_example_ringleader_ringleader_engine_EventQueue_slot G_A_b4 G_F_b1_com_example_ringleader_ringleader_engine_EventQueue_free G_A_b8 G_F_b1_com_example_ringleader_ringleader_engine_EventQueue_from G_A_b5 G_F_b1_com_example_ringleader_ringleader_engine_EventQueue_to G_A_b6 G_F_b1_com_example_ringleader_ringleader_engine_EventQueue_message G_M_b7 G_O_b7 G_E_br G_E_b1 G_F_b1_com_example_ringleader_ringleader_engine_EventQueue_at G_A_b2 G_F_b1_com_example_ringleader_ringleader_engine_EventQueue_additions G_F_b1_com_example_ringleader_ringleader_engine_EventQueue_added G_A_b3 hri ne_b1_b5 ne_b5_b6 ne_b1_b6 ne_b5_b7 ne_b6_b7 ne_b1_b7 ne_b2_b5 ne_b2_b6 ne_b2_b7 ne_b1_b2 ne_b3_b5 ne_b3_b6 ne_b3_b7 ne_b1_b3 ne_b4_b5 ne_b4_b6 ne_b4_b7 ne_b1_b4 ne_b2_b3 ne_b2_b4 ne_b3_b4 gn_b5 gn_b6 gn_b7 gn_b1 gn_b2 gn_b3 gn_b4) fun a U o U' => ?_
    rintro ⟨v, L, rfl, ⟨rfl, N, Kc, u0, u1, u2, u3, u4, u5, u6, u7, u8, u9, u10, u11, u12, u13, u14, u15, u16⟩, fe⟩
    exact ⟨_, L, rfl, ⟨rfl, N, (own_kw Kc (by simp)), ⟨x1, vx, x3, c1, ga, c3, s1, (1 : Int32), s3, f1, vf, f3, t1, vt, t3, (ga + (1 : Int64)), hs1a, hs1b, by decide, by decide, hs3a, hs3b, u0, u1, u2, u3, u4, u5, u6, u7, u8, u9, u10, u11, u12, u13, u14, u15, u16⟩⟩, fe⟩
def Q_wA2 (Z : State) (b1 : Addr) (b2 : Addr) (b3 : Addr) (b4 : Addr) (b5 : Addr) (b6 : Addr) (b7 : Addr) (b8 : Addr) (k2 : ClassId) (k3 : ClassId) (k4 : ClassId) (k5 : ClassId) (k6 : ClassId) (k7 : ClassId) (k8 : ClassId) (h0 : Heap) (n0 : Nat) (v : Option Value) (h : Heap) (L : List Loc) : Prop := v = none ∧ Fr n0 L ∧ Keep h0 h [b5, b6, b7, b1, b2, b3, b4] ∧ own_QB Z h (3 : Int32) b1 b2 b3 b4 b5 b6 b7 b8 k2 k3 k4 k5 k6 k7
theorem wA2 (l : Launch) (Z : State) (a0 : Array Value) (hw : ∀ d ∈ tables_1, d.before a0 Z = true) (ws : List Jvm.Cond) (h0 : Heap) (n0 : Nat) (A : Nat → Addr) (K : Nat → ClassId) (b1 : Addr) (b2 : Addr) (b3 : Addr) (b4 : Addr) (b5 : Addr) (b6 : Addr) (b7 : Addr) (b8 : Addr) (k2 : ClassId) (k3 : ClassId) (k4 : ClassId) (k5 : ClassId) (k6 : ClassId) (k7 : ClassId) (k8 : ClassId) (vx : Int32) (vf : Int32) (vt : Int32) (EN : own_St Z A K) (OL0 : Old Z n0 h0) (GB : own_QB Z h0 (2 : Int32) b1 b2 b3 b4 b5 b6 b7 b8 k2 k3 k4 k5 k6 k7) (G_A_b8 : Arv Z h0 b8 k8 .int 16 [(.int 15), (.int 14), (.int 13), (.int 12), (.int 11), (.int 10), (.int 9), (.int 8), (.int 7), (.int 6), (.int 5), (.int 4), (.int 3), (.int 2), (.int 1), (.int 0)] (.int 0)) (ne_b1_b2 : b1 ≠ b2) (ne_b1_b3 : b1 ≠ b3) (ne_b1_b4 : b1 ≠ b4) (ne_b1_b5 : b1 ≠ b5) (ne_b1_b6 : b1 ≠ b6) (ne_b1_b7 : b1 ≠ b7) (ne_b1_b8 : b1 ≠ b8) (ne_b2_b3 : b2 ≠ b3) (ne_b2_b4 : b2 ≠ b4) (ne_b2_b5 : b2 ≠ b5) (ne_b2_b6 : b2 ≠ b6) (ne_b2_b7 : b2 ≠ b7) (ne_b2_b8 : b2 ≠ b8) (ne_b3_b4 : b3 ≠ b4) (ne_b3_b5 : b3 ≠ b5) (ne_b3_b6 : b3 ≠ b6) (ne_b3_b7 : b3 ≠ b7) (ne_b3_b8 : b3 ≠ b8) (ne_b4_b5 : b4 ≠ b5) (ne_b4_b6 : b4 ≠ b6) (ne_b4_b7 : b4 ≠ b7) (ne_b4_b8 : b4 ≠ b8) (ne_b5_b6 : b5 ≠ b6) (ne_b5_b7 : b5 ≠ b7) (ne_b5_b8 : b5 ≠ b8) (ne_b6_b7 : b6 ≠ b7) (ne_b6_b8 : b6 ≠ b8) (ne_b7_b8 : b7 ≠ b8) (gn_b1 : n0 ≤ b1) (gn_b2 : n0 ≤ b2) (gn_b3 : n0 ≤ b3) (gn_b4 : n0 ≤ b4) (gn_b5 : n0 ≤ b5) (gn_b6 : n0 ≤ b6) (gn_b7 : n0 ≤ b7) (gn_b8 : n0 ≤ b8) :
    MetFree l own_m3 (head1 (Jvm.Cond.code own_m3 prog_48_method_2_code 9 none :: ws) (Room.mk 2 0 0 32)) (fun a U => a = #[(.ref b1), (.double (Jvm.FP.l2d (vx.toInt64))), (.int vf), (.int vt), .null] ∧ Z.Warmed39 U.vm ∧ U.heap = h0) (fun _ _ _ _ _ => True) (fun _ U o U' => ∃ v L, o = .returned v ∧ Q_wA2 Z b1 b2 b3 b4 b5 b6 b7 b8 k2 k3 k4 k5 k6 k7 k8 h0 n0 v U'.heap L ∧ FrameEnd U o U' L (Room.mk 2 0 0 32).cells (Room.mk 2 0 0 32).slots) := by
  obtain ⟨x1, x2, x3, c1, c2, c3, s1, s2, s3, f1, f2, f3, t1, t2, t3, ga, hs1a, hs1b, hs2a, hs2b, hs3a, hs3b, G_E_b1, G_F_b1_com_example_ringleader_ringleader_engine_EventQueue_at, G_F_b1_com_example_ringleader_ringleader_engine_EventQueue_added, G_F_b1_com_example_ringleader_ringleader_engine_EventQueue_slot, G_F_b1_com_example_ringleader_ringleader_engine_EventQueue_from, G_F_b1_com_example_ringleader_ringleader_engine_EventQueue_to, G_F_b1_com_example_ringleader_ringleader_engine_EventQueue_message, G_F_b1_com_example_ringleader_ringleader_engine_EventQueue_free, G_F_b1_com_example_ringleader_ringleader_engine_EventQueue_size, G_F_b1_com_example_ringleader_ringleader_engine_EventQueue_additions, G_A_b2, G_A_b3, G_A_b4, G_A_b5, G_A_b6, G_M_b7, G_O_b7⟩ := GB
  by_cases hri : vx < x1
  · refine own_wk (rmA2y l Z a0 hw ws h0 n0 A K x1 x2 x3 c1 c2 c3 s1 s2 s3 f1 f2 f3 t1 t2 t3 ga vx vf vt b1 b2 b3 b4 b5 b6 b7 b8 k2 k3 k4 k5 k6 k7 k8 EN OL0 G_F_b1_com_example_ringleader_ringleader_engine_EventQueue_size G_F_b1_com_example_ringleader_ringleader_engine_EventQueue_slot G_A_b4 G_F_b1_com_example_ringleader_ringleader_engine_EventQueue_free G_A_b8 G_F_b1_com_example_ringleader_ringleader_engine_EventQueue_from G_A_b5 G_F_b1_com_example_ringleader_ringleader_engine_EventQueue_to G_A_b6 G_F_b1_com_example_ringleader_ringleader_engine_EventQueue_message G_M_b7 G_E_b1 G_F_b1_com_example_ringleader_ringleader_engine_EventQueue_at G_A_b2 G_F_b1_com_example_ringleader_ringleader_engine_EventQueue_added G_A_b3 G_F_b1_com_example_ringleader_ringleader_engine_EventQueue_additions G_O_b7 hri ne_b1_b5 ne_b5_b6 ne_b1_b6 ne_b5_b7 ne_b6_b7 ne_b1_b7 ne_b2_b5 ne_b2_b6 ne_b2_b7 ne_b1_b2 ne_b3_b5 ne_b3_b6 ne_b3_b7 ne_b1_b3 ne_b4_b5 ne_b4_b6 ne_b4_b7 ne_b1_b4 ne_b2_b3 ne_b2_b4 ne_b3_b4 gn_b5 gn_b6 gn_b7 gn_b1 gn_b2 gn_b3 gn_b4) fun a U o U' => ?_
    rintro ⟨v, L, rfl, ⟨rfl, N, Kc, u0, u1, u2, u3, u4, u5, u6, u7, u8, u9, u10, u11, u12, u13, u14, u15, u16⟩, fe⟩
    exact ⟨_, L, rfl, ⟨rfl, N, Kc, ⟨vx, x2, x1, ga, c2, c1, (2 : Int32), s2, s1, f1, f2, vf, t1, t2, vt, (ga + (1 : Int64)), by decide, by decide, hs2a, hs2b, hs1a, hs1b, u0, u1, u2, u3, u4, u5, u6, u7, u8, u9, u10, u11, u12, u13, u14, u15, u16⟩⟩, fe⟩
  · refine own_wk (rmA2n l Z a0 hw ws h0 n0 A K x1 x2 x3 c1 c2 c3 s1 s2 s3 f1 f2 f3 t1 t2 t3 ga vx vf vt b1 b2 b3 b4 b5 b6 b7 b8 k2 k3 k4 k5 k6 k7 k8 EN OL0 G_F_b1_com_example_ringleader_ringleader_engine_EventQueue_size G_F_b1_com_example_ringleader_ringleader_engine_EventQueue_slot G_A_b4 G_F_b1_com_example_ringleader_ringleader_engine_EventQueue_free G_A_b8 G_F_b1_com_example_ringleader_ringleader_engine_EventQueue_from G_A_b5 G_F_b1_com_example_ringleader_ringleader_engine_EventQueue_to G_A_b6 G_F_b1_com_example_ringleader_ringleader_engine_EventQueue_message G_M_b7 G_E_b1 G_F_b1_com_example_ringleader_ringleader_engine_EventQueue_at G_A_b2 G_F_b1_com_example_ringleader_ringleader_engine_EventQueue_additions G_F_b1_com_example_ringleader_ringleader_engine_EventQueue_added G_A_b3 G_O_b7 hri ne_b1_b5 ne_b5_b6 ne_b1_b6 ne_b5_b7 ne_b6_b7 ne_b1_b7 ne_b2_b5 ne_b2_b6 ne_b2_b7 ne_b1_b2 ne_b3_b5 ne_b3_b6 ne_b3_b7 ne_b1_b3 ne_b4_b5 ne_b4_b6 ne_b4_b7 ne_b1_b4 ne_b2_b3 ne_b2_b4 ne_b3_b4 gn_b5 gn_b6 gn_b7 gn_b1 gn_b2 gn_b3 gn_b4) fun a U o U' => ?_
    rintro ⟨v, L, rfl, ⟨rfl, N, Kc, u0, u1, u2, u3, u4, u5, u6, u7, u8, u9, u10, u11, u12, u13, u14, u15, u16⟩, fe⟩
    exact ⟨_, L, rfl, ⟨rfl, N, (own_kw Kc (by simp)), ⟨x1, x2, vx, c1, c2, ga, s1, s2, (2 : Int32), f1, f2, vf, t1, t2, vt, (ga + (1 : Int64)), hs1a, hs1b, hs2a, hs2b, by decide, by decide, u0, u1, u2, u3, u4, u5, u6, u7, u8, u9, u10, u11, u12, u13, u14, u15, u16⟩⟩, fe⟩
def Q_wR3 (Z : State) (b1 : Addr) (b2 : Addr) (b3 : Addr) (b4 : Addr) (b5 : Addr) (b6 : Addr) (b7 : Addr) (b8 : Addr) (k2 : ClassId) (k3 : ClassId) (k4 : ClassId) (k5 : ClassId) (k6 : ClassId) (k7 : ClassId) (k8 : ClassId) (h0 : Heap) (n0 : Nat) (v : Option Value) (h : Heap) (L : List Loc) : Prop := v = none ∧ Fr n0 L ∧ Keep h0 h [b7, b8, b1, b4, b3, b2] ∧ own_QB Z h (2 : Int32) b1 b2 b3 b4 b5 b6 b7 b8 k2 k3 k4 k5 k6 k7 ∧ own_AM Z h b8 k8 .int
theorem wR3 (l : Launch) (Z : State) (a0 : Array Value) (hw : ∀ d ∈ tables_1, d.before a0 Z = true) (ws : List Jvm.Cond) (h0 : Heap) (n0 : Nat) (A : Nat → Addr) (K : Nat → ClassId) (b1 : Addr) (b2 : Addr) (b3 : Addr) (b4 : Addr) (b5 : Addr) (b6 : Addr) (b7 : Addr) (b8 : Addr) (k2 : ClassId) (k3 : ClassId) (k4 : ClassId) (k5 : ClassId) (k6 : ClassId) (k7 : ClassId) (k8 : ClassId) (EN : own_St Z A K) (OL0 : Old Z n0 h0) (GB : own_QB Z h0 (3 : Int32) b1 b2 b3 b4 b5 b6 b7 b8 k2 k3 k4 k5 k6 k7) (G_M_b8 : own_AM Z h0 b8 k8 .int) (ne_b1_b2 : b1 ≠ b2) (ne_b1_b3 : b1 ≠ b3) (ne_b1_b4 : b1 ≠ b4) (ne_b1_b5 : b1 ≠ b5) (ne_b1_b6 : b1 ≠ b6) (ne_b1_b7 : b1 ≠ b7) (ne_b1_b8 : b1 ≠ b8) (ne_b2_b3 : b2 ≠ b3) (ne_b2_b4 : b2 ≠ b4) (ne_b2_b5 : b2 ≠ b5) (ne_b2_b6 : b2 ≠ b6) (ne_b2_b7 : b2 ≠ b7) (ne_b2_b8 : b2 ≠ b8) (ne_b3_b4 : b3 ≠ b4) (ne_b3_b5 : b3 ≠ b5) (ne_b3_b6 : b3 ≠ b6) (ne_b3_b7 : b3 ≠ b7) (ne_b3_b8 : b3 ≠ b8) (ne_b4_b5 : b4 ≠ b5) (ne_b4_b6 : b4 ≠ b6) (ne_b4_b7 : b4 ≠ b7) (ne_b4_b8 : b4 ≠ b8) (ne_b5_b6 : b5 ≠ b6) (ne_b5_b7 : b5 ≠ b7) (ne_b5_b8 : b5 ≠ b8) (ne_b6_b7 : b6 ≠ b7) (ne_b6_b8 : b6 ≠ b8) (ne_b7_b8 : b7 ≠ b8) (gn_b1 : n0 ≤ b1) (gn_b2 : n0 ≤ b2) (gn_b3 : n0 ≤ b3) (gn_b4 : n0 ≤ b4) (gn_b5 : n0 ≤ b5) (gn_b6 : n0 ≤ b6) (gn_b7 : n0 ≤ b7) (gn_b8 : n0 ≤ b8) :
    MetFree l own_m1 (head1 (Jvm.Cond.code own_m1 prog_48_method_8_code 12 none :: ws) (Room.mk 2 0 0 32)) (fun a U => a = #[(.ref b1)] ∧ Z.Warmed39 U.vm ∧ U.heap = h0) (fun _ _ _ _ _ => True) (fun _ U o U' => ∃ v L, o = .returned v ∧ Q_wR3 Z b1 b2 b3 b4 b5 b6 b7 b8 k2 k3 k4 k5 k6 k7 k8 h0 n0 v U'.heap L ∧ FrameEnd U o U' L (Room.mk 2 0 0 32).cells (Room.mk 2 0 0 32).slots) := by
  obtain ⟨x1, x2, x3, c1, c2, c3, s1, s2, s3, f1, f2, f3, t1, t2, t3, ga, hs1a, hs1b, hs2a, hs2b, hs3a, hs3b, G_E_b1, G_F_b1_com_example_ringleader_ringleader_engine_EventQueue_at, G_F_b1_com_example_ringleader_ringleader_engine_EventQueue_added, G_F_b1_com_example_ringleader_ringleader_engine_EventQueue_slot, G_F_b1_com_example_ringleader_ringleader_engine_EventQueue_from, G_F_b1_com_example_ringleader_ringleader_engine_EventQueue_to, G_F_b1_com_example_ringleader_ringleader_engine_EventQueue_message, G_F_b1_com_example_ringleader_ringleader_engine_EventQueue_free, G_F_b1_com_example_ringleader_ringleader_engine_EventQueue_size, G_F_b1_com_example_ringleader_ringleader_engine_EventQueue_additions, G_A_b2, G_A_b3, G_A_b4, G_A_b5, G_A_b6, G_M_b7, G_O_b7⟩ := GB
  by_cases hb_ : (own_f_rmIB x2 x3 c2 c3) = (0 : Int32)
  · refine own_wk (rmR3n l Z a0 hw ws h0 n0 A K x1 x2 x3 c1 c2 c3 s1 s2 s3 f1 f2 f3 t1 t2 t3 ga b1 b2 b3 b4 b5 b6 b7 b8 k2 k3 k4 k7 k8 EN OL0 G_F_b1_com_example_ringleader_ringleader_engine_EventQueue_slot G_A_b4 G_F_b1_com_example_ringleader_ringleader_engine_EventQueue_message G_M_b7 G_F_b1_com_example_ringleader_ringleader_engine_EventQueue_free G_F_b1_com_example_ringleader_ringleader_engine_EventQueue_size G_M_b8 G_E_b1 G_F_b1_com_example_ringleader_ringleader_engine_EventQueue_at G_A_b2 G_F_b1_com_example_ringleader_ringleader_engine_EventQueue_added G_A_b3 G_F_b1_com_example_ringleader_ringleader_engine_EventQueue_from G_F_b1_com_example_ringleader_ringleader_engine_EventQueue_to G_F_b1_com_example_ringleader_ringleader_engine_EventQueue_additions G_O_b7 hs1a hs1b hb_ ne_b1_b7 ne_b4_b7 ne_b7_b8 ne_b1_b8 ne_b2_b7 ne_b2_b8 ne_b1_b2 ne_b3_b7 ne_b3_b8 ne_b1_b3 ne_b4_b8 ne_b1_b4 ne_b2_b3 ne_b2_b4 ne_b3_b4 gn_b7 gn_b8 gn_b1 gn_b2 gn_b3 gn_b4) fun a U o U' => ?_
    rintro ⟨v, L, rfl, ⟨rfl, N, Kc, u0, u1, u2, u3, u4, u5, u6, u7, u8, u9, u10, u11, u12, u13, u14, u15⟩, fe⟩
    exact ⟨_, L, rfl, ⟨rfl, N, Kc, ⟨x3, x2, x3, c3, c2, c3, s3, s2, s3, f1, f2, f3, t1, t2, t3, ga, hs3a, hs3b, hs2a, hs2b, hs3a, hs3b, u0, u1, u2, u3, u4, u5, u6, u7, u8, u9, u10, u11, u12, (G_A_b5.keep Kc (ninS ne_b5_b7 (ninS ne_b5_b8 (ninS (Ne.symm ne_b1_b5) (ninS (Ne.symm ne_b4_b5) (ninS (Ne.symm ne_b3_b5) (ninS (Ne.symm ne_b2_b5) nin0))))))), (G_A_b6.keep Kc (ninS ne_b6_b7 (ninS ne_b6_b8 (ninS (Ne.symm ne_b1_b6) (ninS (Ne.symm ne_b4_b6) (ninS (Ne.symm ne_b3_b6) (ninS (Ne.symm ne_b2_b6) nin0))))))), u13, u14⟩, u15⟩, fe⟩
  · refine own_wk (rmR3y l Z a0 hw ws h0 n0 A K x1 x2 x3 c1 c2 c3 s1 s2 s3 f1 f2 f3 t1 t2 t3 ga b1 b2 b3 b4 b5 b6 b7 b8 k2 k3 k4 k7 k8 EN OL0 G_F_b1_com_example_ringleader_ringleader_engine_EventQueue_slot G_A_b4 G_F_b1_com_example_ringleader_ringleader_engine_EventQueue_message G_M_b7 G_F_b1_com_example_ringleader_ringleader_engine_EventQueue_free G_F_b1_com_example_ringleader_ringleader_engine_EventQueue_size G_M_b8 G_E_b1 G_F_b1_com_example_ringleader_ringleader_engine_EventQueue_at G_A_b2 G_F_b1_com_example_ringleader_ringleader_engine_EventQueue_added G_A_b3 G_F_b1_com_example_ringleader_ringleader_engine_EventQueue_from G_F_b1_com_example_ringleader_ringleader_engine_EventQueue_to G_F_b1_com_example_ringleader_ringleader_engine_EventQueue_additions G_O_b7 hs1a hs1b hb_ ne_b1_b7 ne_b4_b7 ne_b7_b8 ne_b1_b8 ne_b2_b7 ne_b2_b8 ne_b1_b2 ne_b3_b7 ne_b3_b8 ne_b1_b3 ne_b4_b8 ne_b1_b4 ne_b2_b3 ne_b2_b4 ne_b3_b4 gn_b7 gn_b8 gn_b1 gn_b2 gn_b3 gn_b4) fun a U o U' => ?_
    rintro ⟨v, L, rfl, ⟨rfl, N, Kc, u0, u1, u2, u3, u4, u5, u6, u7, u8, u9, u10, u11, u12, u13, u14, u15⟩, fe⟩
    exact ⟨_, L, rfl, ⟨rfl, N, (own_kw Kc (by simp)), ⟨x2, x3, x3, c2, c3, c3, s2, s3, s3, f1, f2, f3, t1, t2, t3, ga, hs2a, hs2b, hs3a, hs3b, hs3a, hs3b, u0, u1, u2, u3, u4, u5, u6, u7, u8, u9, u10, u11, u12, (G_A_b5.keep Kc (ninS ne_b5_b7 (ninS ne_b5_b8 (ninS (Ne.symm ne_b1_b5) (ninS (Ne.symm ne_b2_b5) (ninS (Ne.symm ne_b3_b5) (ninS (Ne.symm ne_b4_b5) nin0))))))), (G_A_b6.keep Kc (ninS ne_b6_b7 (ninS ne_b6_b8 (ninS (Ne.symm ne_b1_b6) (ninS (Ne.symm ne_b2_b6) (ninS (Ne.symm ne_b3_b6) (ninS (Ne.symm ne_b4_b6) nin0))))))), u13, u14⟩, u15⟩, fe⟩
def Q_wR2 (Z : State) (b1 : Addr) (b2 : Addr) (b3 : Addr) (b4 : Addr) (b5 : Addr) (b6 : Addr) (b7 : Addr) (b8 : Addr) (k2 : ClassId) (k3 : ClassId) (k4 : ClassId) (k5 : ClassId) (k6 : ClassId) (k7 : ClassId) (k8 : ClassId) (h0 : Heap) (n0 : Nat) (v : Option Value) (h : Heap) (L : List Loc) : Prop := v = none ∧ Fr n0 L ∧ Keep h0 h [b7, b8, b1, b4, b3, b2] ∧ own_QB Z h (1 : Int32) b1 b2 b3 b4 b5 b6 b7 b8 k2 k3 k4 k5 k6 k7 ∧ own_AM Z h b8 k8 .int
theorem wR2 (l : Launch) (Z : State) (a0 : Array Value) (hw : ∀ d ∈ tables_1, d.before a0 Z = true) (ws : List Jvm.Cond) (h0 : Heap) (n0 : Nat) (A : Nat → Addr) (K : Nat → ClassId) (b1 : Addr) (b2 : Addr) (b3 : Addr) (b4 : Addr) (b5 : Addr) (b6 : Addr) (b7 : Addr) (b8 : Addr) (k2 : ClassId) (k3 : ClassId) (k4 : ClassId) (k5 : ClassId) (k6 : ClassId) (k7 : ClassId) (k8 : ClassId) (EN : own_St Z A K) (OL0 : Old Z n0 h0) (GB : own_QB Z h0 (2 : Int32) b1 b2 b3 b4 b5 b6 b7 b8 k2 k3 k4 k5 k6 k7) (G_M_b8 : own_AM Z h0 b8 k8 .int) (ne_b1_b2 : b1 ≠ b2) (ne_b1_b3 : b1 ≠ b3) (ne_b1_b4 : b1 ≠ b4) (ne_b1_b5 : b1 ≠ b5) (ne_b1_b6 : b1 ≠ b6) (ne_b1_b7 : b1 ≠ b7) (ne_b1_b8 : b1 ≠ b8) (ne_b2_b3 : b2 ≠ b3) (ne_b2_b4 : b2 ≠ b4) (ne_b2_b5 : b2 ≠ b5) (ne_b2_b6 : b2 ≠ b6) (ne_b2_b7 : b2 ≠ b7) (ne_b2_b8 : b2 ≠ b8) (ne_b3_b4 : b3 ≠ b4) (ne_b3_b5 : b3 ≠ b5) (ne_b3_b6 : b3 ≠ b6) (ne_b3_b7 : b3 ≠ b7) (ne_b3_b8 : b3 ≠ b8) (ne_b4_b5 : b4 ≠ b5) (ne_b4_b6 : b4 ≠ b6) (ne_b4_b7 : b4 ≠ b7) (ne_b4_b8 : b4 ≠ b8) (ne_b5_b6 : b5 ≠ b6) (ne_b5_b7 : b5 ≠ b7) (ne_b5_b8 : b5 ≠ b8) (ne_b6_b7 : b6 ≠ b7) (ne_b6_b8 : b6 ≠ b8) (ne_b7_b8 : b7 ≠ b8) (gn_b1 : n0 ≤ b1) (gn_b2 : n0 ≤ b2) (gn_b3 : n0 ≤ b3) (gn_b4 : n0 ≤ b4) (gn_b5 : n0 ≤ b5) (gn_b6 : n0 ≤ b6) (gn_b7 : n0 ≤ b7) (gn_b8 : n0 ≤ b8) :
    MetFree l own_m1 (head1 (Jvm.Cond.code own_m1 prog_48_method_8_code 12 none :: ws) (Room.mk 1 0 0 18)) (fun a U => a = #[(.ref b1)] ∧ Z.Warmed39 U.vm ∧ U.heap = h0) (fun _ _ _ _ _ => True) (fun _ U o U' => ∃ v L, o = .returned v ∧ Q_wR2 Z b1 b2 b3 b4 b5 b6 b7 b8 k2 k3 k4 k5 k6 k7 k8 h0 n0 v U'.heap L ∧ FrameEnd U o U' L (Room.mk 1 0 0 18).cells (Room.mk 1 0 0 18).slots) := by
  obtain ⟨x1, x2, x3, c1, c2, c3, s1, s2, s3, f1, f2, f3, t1, t2, t3, ga, hs1a, hs1b, hs2a, hs2b, hs3a, hs3b, G_E_b1, G_F_b1_com_example_ringleader_ringleader_engine_EventQueue_at, G_F_b1_com_example_ringleader_ringleader_engine_EventQueue_added, G_F_b1_com_example_ringleader_ringleader_engine_EventQueue_slot, G_F_b1_com_example_ringleader_ringleader_engine_EventQueue_from, G_F_b1_com_example_ringleader_ringleader_engine_EventQueue_to, G_F_b1_com_example_ringleader_ringleader_engine_EventQueue_message, G_F_b1_com_example_ringleader_ringleader_engine_EventQueue_free, G_F_b1_com_example_ringleader_ringleader_engine_EventQueue_size, G_F_b1_com_example_ringleader_ringleader_engine_EventQueue_additions, G_A_b2, G_A_b3, G_A_b4, G_A_b5, G_A_b6, G_M_b7, G_O_b7⟩ := GB
  refine own_wk (rmR2 l Z a0 hw ws h0 n0 A K x1 x2 x3 c1 c2 c3 s1 s2 s3 f1 f2 f3 t1 t2 t3 ga b1 b2 b3 b4 b5 b6 b7 b8 k2 k3 k4 k7 k8 EN OL0 G_F_b1_com_example_ringleader_ringleader_engine_EventQueue_slot G_A_b4 G_F_b1_com_example_ringleader_ringleader_engine_EventQueue_message G_M_b7 G_F_b1_com_example_ringleader_ringleader_engine_EventQueue_free G_F_b1_com_example_ringleader_ringleader_engine_EventQueue_size G_M_b8 G_E_b1 G_F_b1_com_example_ringleader_ringleader_engine_EventQueue_at G_A_b2 G_F_b1_com_example_ringleader_ringleader_engine_EventQueue_added G_A_b3 G_F_b1_com_example_ringleader_ringleader_engine_EventQueue_from G_F_b1_com_example_ringleader_ringleader_engine_EventQueue_to G_F_b1_com_example_ringleader_ringleader_engine_EventQueue_additions G_O_b7 hs1a hs1b ne_b1_b7 ne_b4_b7 ne_b7_b8 ne_b1_b8 ne_b2_b7 ne_b2_b8 ne_b1_b2 ne_b3_b7 ne_b3_b8 ne_b1_b3 ne_b4_b8 ne_b1_b4 ne_b2_b3 ne_b2_b4 ne_b3_b4 gn_b7 gn_b8 gn_b1 gn_b2 gn_b3 gn_b4) fun a U o U' => ?_
  rintro ⟨v, L, rfl, ⟨rfl, N, Kc, u0, u1, u2, u3, u4, u5, u6, u7, u8, u9, u10, u11, u12, u13, u14, u15⟩, fe⟩
  exact ⟨_, L, rfl, ⟨rfl, N, Kc, ⟨x2, x2, x3, c2, c2, c3, s2, s2, s3, f1, f2, f3, t1, t2, t3, ga, hs2a, hs2b, hs2a, hs2b, hs3a, hs3b, u0, u1, u2, u3, u4, u5, u6, u7, u8, u9, u10, u11, u12, (G_A_b5.keep Kc (ninS ne_b5_b7 (ninS ne_b5_b8 (ninS (Ne.symm ne_b1_b5) (ninS (Ne.symm ne_b4_b5) (ninS (Ne.symm ne_b3_b5) (ninS (Ne.symm ne_b2_b5) nin0))))))), (G_A_b6.keep Kc (ninS ne_b6_b7 (ninS ne_b6_b8 (ninS (Ne.symm ne_b1_b6) (ninS (Ne.symm ne_b4_b6) (ninS (Ne.symm ne_b3_b6) (ninS (Ne.symm ne_b2_b6) nin0))))))), u13, u14⟩, u15⟩, fe⟩
def Q_wR1 (Z : State) (b1 : Addr) (b2 : Addr) (b3 : Addr) (b4 : Addr) (b5 : Addr) (b6 : Addr) (b7 : Addr) (b8 : Addr) (k2 : ClassId) (k3 : ClassId) (k4 : ClassId) (k5 : ClassId) (k6 : ClassId) (k7 : ClassId) (k8 : ClassId) (h0 : Heap) (n0 : Nat) (v : Option Value) (h : Heap) (L : List Loc) : Prop := v = none ∧ Fr n0 L ∧ Keep h0 h [b7, b8, b1, b4, b3, b2] ∧ own_QB Z h (0 : Int32) b1 b2 b3 b4 b5 b6 b7 b8 k2 k3 k4 k5 k6 k7 ∧ own_AM Z h b8 k8 .int
theorem wR1 (l : Launch) (Z : State) (a0 : Array Value) (hw : ∀ d ∈ tables_1, d.before a0 Z = true) (ws : List Jvm.Cond) (h0 : Heap) (n0 : Nat) (A : Nat → Addr) (K : Nat → ClassId) (b1 : Addr) (b2 : Addr) (b3 : Addr) (b4 : Addr) (b5 : Addr) (b6 : Addr) (b7 : Addr) (b8 : Addr) (k2 : ClassId) (k3 : ClassId) (k4 : ClassId) (k5 : ClassId) (k6 : ClassId) (k7 : ClassId) (k8 : ClassId) (EN : own_St Z A K) (OL0 : Old Z n0 h0) (GB : own_QB Z h0 (1 : Int32) b1 b2 b3 b4 b5 b6 b7 b8 k2 k3 k4 k5 k6 k7) (G_M_b8 : own_AM Z h0 b8 k8 .int) (ne_b1_b2 : b1 ≠ b2) (ne_b1_b3 : b1 ≠ b3) (ne_b1_b4 : b1 ≠ b4) (ne_b1_b5 : b1 ≠ b5) (ne_b1_b6 : b1 ≠ b6) (ne_b1_b7 : b1 ≠ b7) (ne_b1_b8 : b1 ≠ b8) (ne_b2_b3 : b2 ≠ b3) (ne_b2_b4 : b2 ≠ b4) (ne_b2_b5 : b2 ≠ b5) (ne_b2_b6 : b2 ≠ b6) (ne_b2_b7 : b2 ≠ b7) (ne_b2_b8 : b2 ≠ b8) (ne_b3_b4 : b3 ≠ b4) (ne_b3_b5 : b3 ≠ b5) (ne_b3_b6 : b3 ≠ b6) (ne_b3_b7 : b3 ≠ b7) (ne_b3_b8 : b3 ≠ b8) (ne_b4_b5 : b4 ≠ b5) (ne_b4_b6 : b4 ≠ b6) (ne_b4_b7 : b4 ≠ b7) (ne_b4_b8 : b4 ≠ b8) (ne_b5_b6 : b5 ≠ b6) (ne_b5_b7 : b5 ≠ b7) (ne_b5_b8 : b5 ≠ b8) (ne_b6_b7 : b6 ≠ b7) (ne_b6_b8 : b6 ≠ b8) (ne_b7_b8 : b7 ≠ b8) (gn_b1 : n0 ≤ b1) (gn_b2 : n0 ≤ b2) (gn_b3 : n0 ≤ b3) (gn_b4 : n0 ≤ b4) (gn_b5 : n0 ≤ b5) (gn_b6 : n0 ≤ b6) (gn_b7 : n0 ≤ b7) (gn_b8 : n0 ≤ b8) :
    MetFree l own_m1 (head1 (Jvm.Cond.code own_m1 prog_48_method_8_code 12 none :: ws) (Room.mk 1 0 0 18)) (fun a U => a = #[(.ref b1)] ∧ Z.Warmed39 U.vm ∧ U.heap = h0) (fun _ _ _ _ _ => True) (fun _ U o U' => ∃ v L, o = .returned v ∧ Q_wR1 Z b1 b2 b3 b4 b5 b6 b7 b8 k2 k3 k4 k5 k6 k7 k8 h0 n0 v U'.heap L ∧ FrameEnd U o U' L (Room.mk 1 0 0 18).cells (Room.mk 1 0 0 18).slots) := by
  obtain ⟨x1, x2, x3, c1, c2, c3, s1, s2, s3, f1, f2, f3, t1, t2, t3, ga, hs1a, hs1b, hs2a, hs2b, hs3a, hs3b, G_E_b1, G_F_b1_com_example_ringleader_ringleader_engine_EventQueue_at, G_F_b1_com_example_ringleader_ringleader_engine_EventQueue_added, G_F_b1_com_example_ringleader_ringleader_engine_EventQueue_slot, G_F_b1_com_example_ringleader_ringleader_engine_EventQueue_from, G_F_b1_com_example_ringleader_ringleader_engine_EventQueue_to, G_F_b1_com_example_ringleader_ringleader_engine_EventQueue_message, G_F_b1_com_example_ringleader_ringleader_engine_EventQueue_free, G_F_b1_com_example_ringleader_ringleader_engine_EventQueue_size, G_F_b1_com_example_ringleader_ringleader_engine_EventQueue_additions, G_A_b2, G_A_b3, G_A_b4, G_A_b5, G_A_b6, G_M_b7, G_O_b7⟩ := GB
  refine own_wk (rmR1 l Z a0 hw ws h0 n0 A K x1 x2 x3 c1 c2 c3 s1 s2 s3 f1 f2 f3 t1 t2 t3 ga b1 b2 b3 b4 b5 b6 b7 b8 k2 k3 k4 k7 k8 EN OL0 G_F_b1_com_example_ringleader_ringleader_engine_EventQueue_slot G_A_b4 G_F_b1_com_example_ringleader_ringleader_engine_EventQueue_message G_M_b7 G_F_b1_com_example_ringleader_ringleader_engine_EventQueue_free G_F_b1_com_example_ringleader_ringleader_engine_EventQueue_size G_M_b8 G_E_b1 G_F_b1_com_example_ringleader_ringleader_engine_EventQueue_at G_A_b2 G_F_b1_com_example_ringleader_ringleader_engine_EventQueue_added G_A_b3 G_F_b1_com_example_ringleader_ringleader_engine_EventQueue_from G_F_b1_com_example_ringleader_ringleader_engine_EventQueue_to G_F_b1_com_example_ringleader_ringleader_engine_EventQueue_additions G_O_b7 hs1a hs1b ne_b1_b7 ne_b4_b7 ne_b7_b8 ne_b1_b8 ne_b2_b7 ne_b2_b8 ne_b1_b2 ne_b3_b7 ne_b3_b8 ne_b1_b3 ne_b4_b8 ne_b1_b4 ne_b2_b3 ne_b2_b4 ne_b3_b4 gn_b7 gn_b8 gn_b1 gn_b2 gn_b3 gn_b4) fun a U o U' => ?_
  rintro ⟨v, L, rfl, ⟨rfl, N, Kc, u0, u1, u2, u3, u4, u5, u6, u7, u8, u9, u10, u11, u12, u13, u14, u15⟩, fe⟩
  exact ⟨_, L, rfl, ⟨rfl, N, Kc, ⟨x1, x2, x3, c1, c2, c3, s1, s2, s3, f1, f2, f3, t1, t2, t3, ga, hs1a, hs1b, hs2a, hs2b, hs3a, hs3b, u0, u1, u2, u3, u4, u5, u6, u7, u8, u9, u10, u11, u12, (G_A_b5.keep Kc (ninS ne_b5_b7 (ninS ne_b5_b8 (ninS (Ne.symm ne_b1_b5) (ninS (Ne.symm ne_b4_b5) (ninS (Ne.symm ne_b3_b5) (ninS (Ne.symm ne_b2_b5) nin0))))))), (G_A_b6.keep Kc (ninS ne_b6_b7 (ninS ne_b6_b8 (ninS (Ne.symm ne_b1_b6) (ninS (Ne.symm ne_b4_b6) (ninS (Ne.symm ne_b3_b6) (ninS (Ne.symm ne_b2_b6) nin0))))))), u13, u14⟩, u15⟩, fe⟩
theorem y4_5 : decode jdk_29_method_69_code 5 = .ok (.iload_n 0, 1) := by decide +kernel
theorem y4_6 : decode jdk_29_method_69_code 6 = .ok (.goto 4, 3) := by decide +kernel
def own_f_rmMin (g1 : Int32) (g2 : Int32) : Int32 := if g2 < g1 then g2
  else g1
set_option maxRecDepth 65536 in
set_option maxHeartbeats 40000000 in
theorem rmMin (l : Launch) (Z : State) (a0 : Array Value) (hw : ∀ d ∈ tables_1, d.before a0 Z = true) (ws : List Jvm.Cond) (h0 : Heap) (n0 : Nat) (A : Nat → Addr) (K : Nat → ClassId) (z0 : Int32) (z1 : Int32)  (EN : own_St Z A K) (OL0 : Old Z n0 h0) :
    MetFree l own_m5 (head1 (Jvm.Cond.code own_m5 jdk_29_method_69_code 2 (some .int) :: ws) (Room.mk 0 0 0 0)) (fun a U => a = #[(.int z0), (.int z1)] ∧ Z.Warmed39 U.vm ∧ U.heap = h0) (fun _ _ _ _ _ => True) (fun _ U o U' => ∃ v L, o = .returned v ∧ (PQ (some (.int (own_f_rmMin z0 z1))) h0 n0) v U'.heap L ∧ FrameEnd U o U' L (Room.mk 0 0 0 0).cells (Room.mk 0 0 0 0).slots) := by
  refine MetFree.of_bodySF (Jvm.Free.JP.mathPlain rfl (by decide +kernel)) hisR ?_
  intro p e s m args below meth c s₁ Bd hml0 hP hK
  obtain ⟨rfl, hZ, hh⟩ := hP
  have hx := Bd.exec
  have hby := Bd.bytes
  have hml : c.maxLocals = 2 := hml0
  have hown : s.vm.findClass "java/lang/Math" = some m.cls := findClass_of_methodNamed Bd.named
  have hnm := (name_of_methodNamed Bd.named Bd.method).1
  have X0 : Stand p l e (Room.mk 0 0 0 0) s m #[(.int z0), (.int z1)] below meth c s₁ [] 0 0 := Stand.of_body Bd
  have e0 : s₁.heap = h0 := by rw [← hh, Bd.state]; rfl
  have N0 := Fr.nil n0
  have pre0 : ∀ t, Steps p.tables e below (s₁.setTop (mkF m 0 #[.val (.int z0), .val (.int z1)] [])) t → Steps p.tables e below (s₁.setTop (entryFrame m #[(.int z0), (.int z1)] 2)) t := fun t k => castTop (by first | (simp [entryFrame, mkF, argsToLocals, Value.category, maxLocals]; done) | rfl) k
  have KK0 : Keep h0 h0 [] := Keep.refl _ _
  have z3 : ∀ t, Steps p.tables e below (s₁.setTop (mkF m 2 #[.val (.int z0), .val (.int z1)] [(.int z1), (.int z0)])) t → Steps p.tables e below (s₁.setTop (entryFrame m #[(.int z0), (.int z1)] 2)) t := fun t k => pre0 t (by
    show Steps p.tables e below (s₁.setTop (mkF m 0 #[.val (.int z0), .val (.int z1)] [])) _
    refine XS.iloadN X0.here hx rfl (hb hby y4_0) rfl ?_
    refine XS.iloadN X0.here hx rfl (hb hby y4_1) rfl ?_
    exact k)
  by_cases z2 : z1 < z0
  · obtain ⟨fs, hr, hrun, hended, hW, hsame⟩ := X0.leave (v := some (.int z1)) (fun h => by rw [Bd.returns] at h; cases h)
    refine ⟨_, _, z3 _ ?_, hrun, hended, _, _, rfl, ?_, ⟨_, rfl⟩, hW, hsame.mono (by decide) (by decide)⟩
    · show Steps p.tables e below (s₁.setTop (mkF m 2 #[.val (.int z0), .val (.int z1)] [(.int z1), (.int z0)])) _
      refine XS.icmpYes X0.here hx rfl (pc0 := 2) (pc' := 9) rfl (hb hby y4_2) rfl (tlt z2).2.2.1 (by decide) (by decide) ?_
      show Steps p.tables e below (s₁.setTop (mkF m 9 #[.val (.int z0), .val (.int z1)] [])) _
      refine XS.iloadN X0.here hx rfl (hb hby y4_9) rfl ?_
      exact retI X0 hx Bd.returns (hb hby y4_10) hr
    · show PQ (some (.int (own_f_rmMin z0 z1))) h0 n0 _ s₁.heap _
      rw [e0]
      exact ⟨congrArg (fun z => some (Value.int z)) (by unfold own_f_rmMin; rw [if_pos z2]), N0, rfl⟩
  · obtain ⟨fs, hr, hrun, hended, hW, hsame⟩ := X0.leave (v := some (.int z0)) (fun h => by rw [Bd.returns] at h; cases h)
    refine ⟨_, _, z3 _ ?_, hrun, hended, _, _, rfl, ?_, ⟨_, rfl⟩, hW, hsame.mono (by decide) (by decide)⟩
    · show Steps p.tables e below (s₁.setTop (mkF m 2 #[.val (.int z0), .val (.int z1)] [(.int z1), (.int z0)])) _
      refine XS.icmpNo X0.here hx rfl (hb hby y4_2) rfl (flt z2).2.2.1 ?_
      show Steps p.tables e below (s₁.setTop (mkF m 5 #[.val (.int z0), .val (.int z1)] [])) _
      refine XS.iloadN X0.here hx rfl (hb hby y4_5) rfl ?_
      refine XS.goto X0.here hx rfl (pc0 := 6) (pc' := 10) rfl (hb hby y4_6) (by decide) (by decide) ?_
      exact retI X0 hx Bd.returns (hb hby y4_10) hr
    · show PQ (some (.int (own_f_rmMin z0 z1))) h0 n0 _ s₁.heap _
      rw [e0]
      exact ⟨congrArg (fun z => some (Value.int z)) (by unfold own_f_rmMin; rw [if_neg z2]), N0, rfl⟩
theorem own_r0 (w : Int32) (hw : ∃ j, j < 4 ∧ w = Int32.ofNat j) : ∃ m, m < 1 ∧ own_f_rmMin w (0 : Int32) = Int32.ofNat m := by
  obtain ⟨j, hj, rfl⟩ := hw
  match j, hj with
  | 0, _ => exact ⟨0, by decide, by decide⟩
  | 1, _ => exact ⟨0, by decide, by decide⟩
  | 2, _ => exact ⟨0, by decide, by decide⟩
  | 3, _ => exact ⟨0, by decide, by decide⟩
  | kk + 4, h => exact absurd h (by omega)
theorem own_r1 (w : Int32) (hw : ∃ j, j < 4 ∧ w = Int32.ofNat j) : ∃ m, m < 2 ∧ own_f_rmMin w (1 : Int32) = Int32.ofNat m := by
  obtain ⟨j, hj, rfl⟩ := hw
  match j, hj with
  | 0, _ => exact ⟨0, by decide, by decide⟩
  | 1, _ => exact ⟨1, by decide, by decide⟩
  | 2, _ => exact ⟨1, by decide, by decide⟩
  | 3, _ => exact ⟨1, by decide, by decide⟩
  | kk + 4, h => exact absurd h (by omega)
theorem own_r2 (w : Int32) (hw : ∃ j, j < 4 ∧ w = Int32.ofNat j) : ∃ m, m < 3 ∧ own_f_rmMin w (2 : Int32) = Int32.ofNat m := by
  obtain ⟨j, hj, rfl⟩ := hw
  match j, hj with
  | 0, _ => exact ⟨0, by decide, by decide⟩
  | 1, _ => exact ⟨1, by decide, by decide⟩
  | 2, _ => exact ⟨2, by decide, by decide⟩
  | 3, _ => exact ⟨2, by decide, by decide⟩
  | kk + 4, h => exact absurd h (by omega)
theorem own_r3 (w : Int32) (hw : ∃ j, j < 4 ∧ w = Int32.ofNat j) : ∃ m, m < 4 ∧ own_f_rmMin w (3 : Int32) = Int32.ofNat m := by
  obtain ⟨j, hj, rfl⟩ := hw
  match j, hj with
  | 0, _ => exact ⟨0, by decide, by decide⟩
  | 1, _ => exact ⟨1, by decide, by decide⟩
  | 2, _ => exact ⟨2, by decide, by decide⟩
  | 3, _ => exact ⟨3, by decide, by decide⟩
  | kk + 4, h => exact absurd h (by omega)
theorem y6_0 : decode jdk_18_method_1_code 0 = .ok (.aload_n 0, 1) := by decide +kernel
theorem y6_1 : decode jdk_18_method_1_code 1 = .ok (.invokespecial 1, 3) := by decide +kernel
theorem y6_4 : decode jdk_18_method_1_code 4 = .ok (.return_, 1) := by decide +kernel
theorem own_pn1 : plainName "java/lang/Number" = true := by first | (simp [plainName, overriddenIn]; done) | decide +kernel
set_option maxRecDepth 65536 in
set_option maxHeartbeats 40000000 in
theorem rmL2 (l : Launch) (Z : State) (a0 : Array Value) (hw : ∀ d ∈ tables_1, d.before a0 Z = true) (ws : List Jvm.Cond) (h0 : Heap) (n0 : Nat) (A : Nat → Addr) (K : Nat → ClassId) (z5 : Int32)  (z0 : Addr) (EN : own_St Z A K) (OL0 : Old Z n0 h0) :
    MetFree l own_m10 (head1 (Jvm.Cond.code own_m10 jdk_18_method_1_code 1 none :: ws) (Room.mk 1 0 0 12)) (fun a U => a = #[(.ref z0)] ∧ Z.Warmed39 U.vm ∧ U.heap = h0) (fun _ _ _ _ _ => True) (fun _ U o U' => ∃ v L, o = .returned v ∧ (PQ none h0 n0) v U'.heap L ∧ FrameEnd U o U' L (Room.mk 1 0 0 12).cells (Room.mk 1 0 0 12).slots) := by
  refine MetFree.of_bodySF (plainFor_of_name own_pn1) hisR ?_
  intro p e s m args below meth c s₁ Bd hml0 hP hK
  obtain ⟨rfl, hZ, hh⟩ := hP
  have hx := Bd.exec
  have hby := Bd.bytes
  have hml : c.maxLocals = 1 := hml0
  have hown : s.vm.findClass "java/lang/Number" = some m.cls := findClass_of_methodNamed Bd.named
  have hnm := (name_of_methodNamed Bd.named Bd.method).1
  have X0 : Stand p l e (Room.mk 1 0 0 12) s m #[(.ref z0)] below meth c s₁ [] 0 0 := Stand.of_body Bd
  have e0 : s₁.heap = h0 := by rw [← hh, Bd.state]; rfl
  have N0 := Fr.nil n0
  have pre0 : ∀ t, Steps p.tables e below (s₁.setTop (mkF m 0 #[.val (.ref z0)] [])) t → Steps p.tables e below (s₁.setTop (entryFrame m #[(.ref z0)] 1)) t := fun t k => castTop (by first | (simp [entryFrame, mkF, argsToLocals, Value.category, maxLocals]; done) | rfl) k
  have KK0 : Keep h0 h0 [] := Keep.refl _ _
  obtain ⟨z1, z2, z3, z4⟩ := initO X0 hx hZ hown (own_W hw 83 rfl) (own_W hw 7 rfl) (own_W hw 8 rfl) e0 (g := (mkF m 1 #[.val (.ref z0)] [(.ref z0)])) rfl (by rw [hml]; rfl) rfl (hb hby y6_1) (by decide) (W := 0) (by show 2 * 0 + _ ≤ _; exact Nat.le_of_eq rfl) (by decide)
  obtain ⟨fs, hr, hrun, hended, hW, hsame⟩ := z2.leave (v := none) (fun _ => rfl)
  refine ⟨_, _, pre0 _ ?_, hrun, hended, _, _, rfl, ?_, ⟨_, rfl⟩, hW, hsame.mono (by decide) (by decide)⟩
  · show Steps p.tables e below (s₁.setTop (mkF m 0 #[.val (.ref z0)] [])) _
    refine XS.aloadN X0.here hx rfl (hb hby y6_0) rfl rfl ?_
    refine z4 _ ?_
    show Steps p.tables e below (z1.setTop (mkF m 4 #[.val (.ref z0)] [])) _
    exact z2.returnOut hx Bd.returns (hb hby y6_4) hr
  · show PQ none h0 n0 _ z1.heap _
    rw [z3]
    exact ⟨rfl, N0, rfl⟩
def Q_rmL1 (Z : State) (A : Nat → Addr) (K : Nat → ClassId) (z1 : Int32) (z0 : Addr) (h0 : Heap) (n0 : Nat) (v : Option Value) (h : Heap) (L : List Loc) : Prop := v = none ∧ Fr n0 L ∧ Keep h0 h [z0] ∧ (Exa Z h z0 y_s2) ∧ (Fld Z h z0 y_s2 "value" "I" (.int z1))
theorem y7_0 : decode jdk_33_method_23_code 0 = .ok (.aload_n 0, 1) := by decide +kernel
theorem y7_1 : decode jdk_33_method_23_code 1 = .ok (.invokespecial 202, 3) := by decide +kernel
theorem y7_4 : decode jdk_33_method_23_code 4 = .ok (.aload_n 0, 1) := by decide +kernel
theorem y7_5 : decode jdk_33_method_23_code 5 = .ok (.iload_n 1, 1) := by decide +kernel
theorem y7_6 : decode jdk_33_method_23_code 6 = .ok (.putfield 205, 3) := by decide +kernel
theorem y7_9 : decode jdk_33_method_23_code 9 = .ok (.return_, 1) := by decide +kernel
theorem own_pn2 : plainName y_s2 = true := by first | (simp [plainName, overriddenIn]; done) | decide +kernel
set_option maxRecDepth 65536 in
set_option maxHeartbeats 40000000 in
theorem rmL1 (l : Launch) (Z : State) (a0 : Array Value) (hw : ∀ d ∈ tables_1, d.before a0 Z = true) (ws : List Jvm.Cond) (h0 : Heap) (n0 : Nat) (A : Nat → Addr) (K : Nat → ClassId) (z1 : Int32)  (z0 : Addr) (EN : own_St Z A K) (OL0 : Old Z n0 h0) (z5 : Fld Z h0 z0 y_s2 "value" "I" (.int 0)) (z6 : Exa Z h0 z0 y_s2) (z7 : n0 ≤ z0) :
    MetFree l own_m7 (head1 (Jvm.Cond.code own_m7 jdk_33_method_23_code 2 none :: ws) (Room.mk 2 0 0 24)) (fun a U => a = #[(.ref z0), (.int z1)] ∧ Z.Warmed39 U.vm ∧ U.heap = h0) (fun _ _ _ _ _ => True) (fun _ U o U' => ∃ v L, o = .returned v ∧ Q_rmL1 Z A K z1 z0 h0 n0 v U'.heap L ∧ FrameEnd U o U' L (Room.mk 2 0 0 24).cells (Room.mk 2 0 0 24).slots) := by
  refine MetFree.of_bodySF (plainFor_of_name own_pn2) hisR ?_
  intro p e s m args below meth c s₁ Bd hml0 hP hK
  obtain ⟨rfl, hZ, hh⟩ := hP
  have hx := Bd.exec
  have hby := Bd.bytes
  have hml : c.maxLocals = 2 := hml0
  have hown : s.vm.findClass y_s2 = some m.cls := findClass_of_methodNamed Bd.named
  have hnm := (name_of_methodNamed Bd.named Bd.method).1
  have X0 : Stand p l e (Room.mk 2 0 0 24) s m #[(.ref z0), (.int z1)] below meth c s₁ [] 0 0 := Stand.of_body Bd
  have e0 : s₁.heap = h0 := by rw [← hh, Bd.state]; rfl
  have N0 := Fr.nil n0
  have pre0 : ∀ t, Steps p.tables e below (s₁.setTop (mkF m 0 #[.val (.ref z0), .val (.int z1)] [])) t → Steps p.tables e below (s₁.setTop (entryFrame m #[(.ref z0), (.int z1)] 2)) t := fun t k => castTop (by first | (simp [entryFrame, mkF, argsToLocals, Value.category, maxLocals]; done) | rfl) k
  have KK0 : Keep h0 h0 [z0] := Keep.refl _ _
  obtain ⟨_, _, ⟨zb, L580, zm, n580⟩, -, z2, ⟨Lc580, z8, l580, y580, z580⟩, z9⟩ := X0.specialBack hx (y := own_m10) rfl hown (mvT hZ (own_W hw 77 rfl)) (mvT hZ (own_W hw 78 rfl)) (mvT hZ (own_W hw 82 rfl)) (by decide) (backOf (W := 0) (rmL2 l Z a0 hw [] h0 n0 A K z1 z0 EN OL0) hZ (own_W hw 82 rfl) (own_W hw 81 rfl) (by decide) (by decide)) (g := (mkF m 1 #[.val (.ref z0), .val (.int z1)] [(.ref z0)])) rfl (by rw [hml]; rfl) (Steps.refl _) (a := z0) (argsL := []) (rest := []) (lenOf own_pd4 rfl) rfl (by show 2 * 0 + _ ≤ _; exact Nat.le_of_eq rfl) (hb hby y7_1) (fun _ _ => ⟨rfl, e0, (by decide : 0 + 0 ≤ _), (by decide : 0 + 0 ≤ _)⟩)
  dsimp only [Pt.U, Pt.locs, Pt.cells, Pt.slots] at z2 l580 y580 z580 z9 z8
  replace z2 := own_sub z2 l580 y580 z580
  obtain ⟨rfl, zc, zd⟩ := z8
  have ze := Fr.app N0 zc
  obtain ⟨za, zf, z4, zg, z3, zh⟩ := putF z2 hx hZ hown (host := "") (Or.inl (own_W hw 84 rfl)) Via.refl zd z5 z6 (Or.inr ⟨(own_W hw 85 rfl), rfl, hnm⟩) (own_W hw 72 rfl) (ty := .int) (by decide) rfl rfl (g := (mkF m 6 #[.val (.ref z0), .val (.int z1)] [(.int z1), (.ref z0)])) rfl rfl (hb hby y7_6)
  have zi := Fr.snoc z4 ze z7
  have zn := OL0.wr z3 z7
  have zj := KK0.wr z3 (own_Ix 0 rfl)
  have zk : Fld Z zf z0 y_s2 "value" "I" (.int z1) := z5.same z3
  have zl := (z6.wr z3)
  obtain ⟨fs, hr, hrun, hended, hW, hsame⟩ := z4.leave (v := none) (fun _ => rfl)
  refine ⟨_, _, pre0 _ ?_, hrun, hended, _, _, rfl, ?_, ⟨_, rfl⟩, hW, hsame.mono (by decide) (by decide)⟩
  · show Steps p.tables e below (s₁.setTop (mkF m 0 #[.val (.ref z0), .val (.int z1)] [])) _
    refine XS.aloadN X0.here hx rfl (hb hby y7_0) rfl rfl ?_
    refine z9.trans ?_
    show Steps p.tables e below (zb.setTop (mkF m 4 #[.val (.ref z0), .val (.int z1)] [])) _
    refine XS.aloadN z2.here hx rfl (hb hby y7_4) rfl rfl ?_
    refine XS.iloadN z2.here hx rfl (hb hby y7_5) rfl ?_
    refine zh _ ?_
    show Steps p.tables e below (za.setTop (mkF m 9 #[.val (.ref z0), .val (.int z1)] [])) _
    exact z4.returnOut hx Bd.returns (hb hby y7_9) hr
  · show Q_rmL1 Z A K z1 z0 h0 n0 _ za.heap _
    rw [zg]
    exact ⟨rfl, zi, zj, zl, zk⟩
theorem y8_0 : decode jdk_33_method_22_code 0 = .ok (.iload_n 0, 1) := by decide +kernel
theorem y8_1 : decode jdk_33_method_22_code 1 = .ok (.bipush (-128), 2) := by decide +kernel
theorem y8_3 : decode jdk_33_method_22_code 3 = .ok (.if_icmp .lt 20, 3) := by decide +kernel
theorem y8_6 : decode jdk_33_method_22_code 6 = .ok (.iload_n 0, 1) := by decide +kernel
theorem y8_7 : decode jdk_33_method_22_code 7 = .ok (.getstatic 191, 3) := by decide +kernel
theorem y8_10 : decode jdk_33_method_22_code 10 = .ok (.if_icmp .gt 13, 3) := by decide +kernel
theorem y8_13 : decode jdk_33_method_22_code 13 = .ok (.getstatic 195, 3) := by decide +kernel
theorem y8_16 : decode jdk_33_method_22_code 16 = .ok (.iload_n 0, 1) := by decide +kernel
theorem y8_17 : decode jdk_33_method_22_code 17 = .ok (.sipush 128, 3) := by decide +kernel
theorem y8_20 : decode jdk_33_method_22_code 20 = .ok (.iadd, 1) := by decide +kernel
theorem y8_21 : decode jdk_33_method_22_code 21 = .ok (.aaload, 1) := by decide +kernel
theorem y8_22 : decode jdk_33_method_22_code 22 = .ok (.areturn, 1) := by decide +kernel
theorem y8_23 : decode jdk_33_method_22_code 23 = .ok (.new 1, 3) := by decide +kernel
theorem y8_26 : decode jdk_33_method_22_code 26 = .ok (.dup, 1) := by decide +kernel
theorem y8_27 : decode jdk_33_method_22_code 27 = .ok (.iload_n 0, 1) := by decide +kernel
theorem y8_28 : decode jdk_33_method_22_code 28 = .ok (.invokespecial 199, 3) := by decide +kernel
theorem y8_31 : decode jdk_33_method_22_code 31 = .ok (.areturn, 1) := by decide +kernel
set_option maxRecDepth 65536 in
set_option maxHeartbeats 40000000 in
theorem rmV (l : Launch) (Z : State) (a0 : Array Value) (hw : ∀ d ∈ tables_1, d.before a0 Z = true) (ws : List Jvm.Cond) (h0 : Heap) (n0 : Nat) (A : Nat → Addr) (K : Nat → ClassId) (z0 : Int32)  (EN : own_St Z A K) (OL0 : Old Z n0 h0) :
    MetFree l own_m8 (head1 (Jvm.Cond.code own_m8 jdk_33_method_22_code 1 (some (.object y_s2)) :: ws) (Room.mk 3 1 1 38)) (fun a U => a = #[(.int z0)] ∧ Z.Warmed39 U.vm ∧ U.heap = h0) (fun _ _ _ _ _ => True) (fun _ U o U' => ∃ v L, o = .returned v ∧ (QV Z z0 h0 n0) v U'.heap L ∧ FrameEnd U o U' L (Room.mk 3 1 1 38).cells (Room.mk 3 1 1 38).slots) := by
  refine MetFree.of_bodySF (plainFor_of_name own_pn2) hisR ?_
  intro p e s m args below meth c s₁ Bd hml0 hP hK
  obtain ⟨rfl, hZ, hh⟩ := hP
  have hx := Bd.exec
  have hby := Bd.bytes
  have hml : c.maxLocals = 1 := hml0
  have hown : s.vm.findClass y_s2 = some m.cls := findClass_of_methodNamed Bd.named
  have hnm := (name_of_methodNamed Bd.named Bd.method).1
  have X0 : Stand p l e (Room.mk 3 1 1 38) s m #[(.int z0)] below meth c s₁ [] 0 0 := Stand.of_body Bd
  have e0 : s₁.heap = h0 := by rw [← hh, Bd.state]; rfl
  have N0 := Fr.nil n0
  have pre0 : ∀ t, Steps p.tables e below (s₁.setTop (mkF m 0 #[.val (.int z0)] [])) t → Steps p.tables e below (s₁.setTop (entryFrame m #[(.int z0)] 1)) t := fun t k => castTop (by first | (simp [entryFrame, mkF, argsToLocals, Value.category, maxLocals]; done) | rfl) k
  have KK0 : Keep h0 h0 [] := Keep.refl _ _
  have zf : ∀ t, Steps p.tables e below (s₁.setTop (mkF m 3 #[.val (.int z0)] [(.int (-128)), (.int z0)])) t → Steps p.tables e below (s₁.setTop (entryFrame m #[(.int z0)] 1)) t := fun t k => pre0 t (by
    show Steps p.tables e below (s₁.setTop (mkF m 0 #[.val (.int z0)] [])) _
    refine XS.iloadN X0.here hx rfl (hb hby y8_0) rfl ?_
    refine XS.bipush X0.here hx rfl (hb hby y8_1) ?_
    exact k)
  by_cases z9 : z0 < (-128 : Int32)
  · obtain ⟨z16, zg, za, z17, zh, zi, zj, -, zk⟩ := newO X0 hx hZ hown (own_W hw 71 rfl) (own_W hw 72 rfl) (own_W hw 61 rfl) e0 (g := (mkF m 23 #[.val (.int z0)] [])) rfl (hb hby y8_23) (by decide) (by decide)
    obtain ⟨z1, zb⟩ : ∃ z, z = h0.size := ⟨_, rfl⟩
    rw [← zb] at zi zj zk
    have zl : n0 ≤ z1 := Nat.le_trans (OL0.1 ▸ OL0.2.1) (Nat.le_of_eq zb.symm)
    have z18 : h0.size ≤ z1 := Nat.le_trans KK0.1 (Nat.le_of_eq zb.symm)
    have zm := OL0.ext zh
    have z19 := KK0.ext zh
    have z1a : Fld Z zg z1 y_s2 "value" "I" (.int 0) := zj (Or.inr (own_W hw 85 rfl)) (ty := .int) (by decide)
    obtain ⟨_, _, ⟨zn, L583, z1t, n583⟩, -, z4, ⟨Lc583, zo, l583, y583, z583⟩, zp⟩ := za.specialBack hx (y := own_m7) rfl hown (mvT hZ (own_W hw 73 rfl)) (mvT hZ (own_W hw 74 rfl)) (mvT hZ (own_W hw 76 rfl)) (by decide) (backOf (W := 1) (rmL1 l Z a0 hw [] zg n0 A K z0 z1 EN zm z1a zi zl) hZ (own_W hw 76 rfl) (own_W hw 61 rfl) (by decide) (by decide)) (g := (mkF m 28 #[.val (.int z0)] [(.int z0), (.ref z1), (.ref z1)])) rfl (by rw [hml]; rfl) (Steps.refl _) (a := z1) (argsL := [(.int z0)]) (rest := [(.ref z1)]) (lenOf own_pd5 rfl) rfl (by show 2 * 0 + _ ≤ _; exact Nat.le_of_eq rfl) (hb hby y8_28) (fun _ _ => ⟨rfl, z17, (by decide : 1 + 0 ≤ _), (by decide : 1 + 0 ≤ _)⟩)
    dsimp only [Pt.U, Pt.locs, Pt.cells, Pt.slots] at z4 l583 y583 z583 zp zo
    replace z4 := own_sub z4 l583 y583 z583
    obtain ⟨rfl, z1b, zq, z1c, z1d⟩ := zo
    have z1e := Fr.app N0 z1b
    have z1u := zm.keep zq (allS zl all0)
    have z1f := z19.trans zq (allS (Or.inr z18) all0)
    obtain ⟨fs, hr, hrun, hended, hW, hsame⟩ := z4.leave (v := some (.ref z1)) (fun h => by rw [Bd.returns] at h; cases h)
    refine ⟨_, _, zf _ ?_, hrun, hended, _, _, rfl, ?_, ⟨_, rfl⟩, hW, hsame.mono (by decide) (by decide)⟩
    · show Steps p.tables e below (s₁.setTop (mkF m 3 #[.val (.int z0)] [(.int (-128)), (.int z0)])) _
      refine XS.icmpYes X0.here hx rfl (pc0 := 3) (pc' := 23) rfl (hb hby y8_3) rfl (tlt z9).1 (by decide) (by decide) ?_
      show Steps p.tables e below (s₁.setTop (mkF m 23 #[.val (.int z0)] [])) _
      refine zk _ ?_
      show Steps p.tables e below (z16.setTop (mkF m 26 #[.val (.int z0)] [(.ref z1)])) _
      refine XS.dup za.here hx rfl (hb hby y8_26) rfl rfl ?_
      refine XS.iloadN za.here hx rfl (hb hby y8_27) rfl ?_
      refine zp.trans ?_
      show Steps p.tables e below (zn.setTop (mkF m 31 #[.val (.int z0)] [(.ref z1)])) _
      exact retOut z4 hx Bd.returns rfl (Or.inr (Or.inr (Or.inr (Or.inr ⟨rfl, rfl, rfl⟩)))) (hb hby y8_31) hr
    · show QV Z z0 h0 n0 _ zn.heap _
      exact ⟨z1, rfl, z1e, z1f, z1c, z1d⟩
  · obtain ⟨z5, z7, zr, z1g⟩ := getS2 X0 hx hZ hown (host := "") (Or.inl (own_W hw 63 rfl)) Via.refl e0 (EN.1.2.2.1.ext OL0.2) (g := (mkF m 7 #[.val (.int z0)] [(.int z0)])) rfl (hb hby y8_7)
    have zs : ∀ t, Steps p.tables e below (z5.setTop (mkF m 10 #[.val (.int z0)] [(.int 127), (.int z0)])) t → Steps p.tables e below (s₁.setTop (entryFrame m #[(.int z0)] 1)) t := fun t k => zf t (by
      show Steps p.tables e below (s₁.setTop (mkF m 3 #[.val (.int z0)] [(.int (-128)), (.int z0)])) _
      refine XS.icmpNo X0.here hx rfl (hb hby y8_3) rfl (flt z9).1 ?_
      show Steps p.tables e below (s₁.setTop (mkF m 6 #[.val (.int z0)] [])) _
      refine XS.iloadN X0.here hx rfl (hb hby y8_6) rfl ?_
      refine z1g _ ?_
      exact k)
    by_cases zc : (127 : Int32) < z0
    · obtain ⟨z1h, zt, zd, z1i, zu, zv, zw, -, zx⟩ := newO z7 hx hZ hown (own_W hw 71 rfl) (own_W hw 72 rfl) (own_W hw 61 rfl) zr (g := (mkF m 23 #[.val (.int z0)] [])) rfl (hb hby y8_23) (by decide) (by decide)
      obtain ⟨z2, ze⟩ : ∃ z, z = h0.size := ⟨_, rfl⟩
      rw [← ze] at zv zw zx
      have zy : n0 ≤ z2 := Nat.le_trans (OL0.1 ▸ OL0.2.1) (Nat.le_of_eq ze.symm)
      have z1j : h0.size ≤ z2 := Nat.le_trans KK0.1 (Nat.le_of_eq ze.symm)
      have zz := OL0.ext zu
      have z1k := KK0.ext zu
      have z1l : Fld Z zt z2 y_s2 "value" "I" (.int 0) := zw (Or.inr (own_W hw 85 rfl)) (ty := .int) (by decide)
      obtain ⟨_, _, ⟨z10, L588, z1v, n588⟩, -, z6, ⟨Lc588, z11, l588, y588, z588⟩, z12⟩ := zd.specialBack hx (y := own_m7) rfl hown (mvT hZ (own_W hw 73 rfl)) (mvT hZ (own_W hw 74 rfl)) (mvT hZ (own_W hw 76 rfl)) (by decide) (backOf (W := 1) (rmL1 l Z a0 hw [] zt n0 A K z0 z2 EN zz z1l zv zy) hZ (own_W hw 76 rfl) (own_W hw 61 rfl) (by decide) (by decide)) (g := (mkF m 28 #[.val (.int z0)] [(.int z0), (.ref z2), (.ref z2)])) rfl (by rw [hml]; rfl) (Steps.refl _) (a := z2) (argsL := [(.int z0)]) (rest := [(.ref z2)]) (lenOf own_pd5 rfl) rfl (by show 2 * 0 + _ ≤ _; exact Nat.le_of_eq rfl) (hb hby y8_28) (fun _ _ => ⟨rfl, z1i, (by decide : 1 + 0 ≤ _), (by decide : 1 + 0 ≤ _)⟩)
      dsimp only [Pt.U, Pt.locs, Pt.cells, Pt.slots] at z6 l588 y588 z588 z12 z11
      replace z6 := own_sub z6 l588 y588 z588
      obtain ⟨rfl, z1m, z13, z1n, z1o⟩ := z11
      have z1p := Fr.app N0 z1m
      have z1w := zz.keep z13 (allS zy all0)
      have z1q := z1k.trans z13 (allS (Or.inr z1j) all0)
      obtain ⟨fs, hr, hrun, hended, hW, hsame⟩ := z6.leave (v := some (.ref z2)) (fun h => by rw [Bd.returns] at h; cases h)
      refine ⟨_, _, zs _ ?_, hrun, hended, _, _, rfl, ?_, ⟨_, rfl⟩, hW, hsame.mono (by decide) (by decide)⟩
      · show Steps p.tables e below (z5.setTop (mkF m 10 #[.val (.int z0)] [(.int 127), (.int z0)])) _
        refine XS.icmpYes z7.here hx rfl (pc0 := 10) (pc' := 23) rfl (hb hby y8_10) rfl (tlt zc).2.2.1 (by decide) (by decide) ?_
        show Steps p.tables e below (z5.setTop (mkF m 23 #[.val (.int z0)] [])) _
        refine zx _ ?_
        show Steps p.tables e below (z1h.setTop (mkF m 26 #[.val (.int z0)] [(.ref z2)])) _
        refine XS.dup zd.here hx rfl (hb hby y8_26) rfl rfl ?_
        refine XS.iloadN zd.here hx rfl (hb hby y8_27) rfl ?_
        refine z12.trans ?_
        show Steps p.tables e below (z10.setTop (mkF m 31 #[.val (.int z0)] [(.ref z2)])) _
        exact retOut z6 hx Bd.returns rfl (Or.inr (Or.inr (Or.inr (Or.inr ⟨rfl, rfl, rfl⟩)))) (hb hby y8_31) hr
      · show QV Z z0 h0 n0 _ z10.heap _
        exact ⟨z2, rfl, z1p, z1q, z1n, z1o⟩
    · obtain ⟨z8, z3, z14, z1r⟩ := getS2 z7 hx hZ hown (host := "") (Or.inl (own_W hw 65 rfl)) Via.refl zr (EN.1.1.ext OL0.2) (g := (mkF m 13 #[.val (.int z0)] [])) rfl (hb hby y8_13)
      obtain ⟨cB590, BX590⟩ := EN.1.2.2.2.1
      have z15 := own_bxin BX590.2.1 z9 zc
      obtain ⟨bx590, z1s, eb590, fb590⟩ := BX590.2.2.2 _ z15
      have fb590' : Fld Z Z.heap bx590 y_s2 "value" "I" (.int z0) := own_bxv z0 ▸ fb590
      obtain ⟨fs, hr, hrun, hended, hW, hsame⟩ := z3.leave (v := some (.ref bx590)) (fun h => by rw [Bd.returns] at h; cases h)
      refine ⟨_, _, zs _ ?_, hrun, hended, _, _, rfl, ?_, ⟨_, rfl⟩, hW, hsame.mono (by decide) (by decide)⟩
      · show Steps p.tables e below (z5.setTop (mkF m 10 #[.val (.int z0)] [(.int 127), (.int z0)])) _
        refine XS.icmpNo z7.here hx rfl (hb hby y8_10) rfl (flt zc).2.2.1 ?_
        show Steps p.tables e below (z5.setTop (mkF m 13 #[.val (.int z0)] [])) _
        refine z1r _ ?_
        show Steps p.tables e below (z8.setTop (mkF m 16 #[.val (.int z0)] [(.ref (A 0))])) _
        refine XS.iloadN z3.here hx rfl (hb hby y8_16) rfl ?_
        refine XS.sipush z3.here hx rfl (hb hby y8_17) ?_
        refine XS.iadd z3.here hx rfl (hb hby y8_20) rfl ?_
        show Steps p.tables e below (z8.setTop (mkF m 21 #[.val (.int z0)] [(.int (z0 + (128 : Int32))), (.ref (A 0))])) _
        refine z3.aaload hx (j := (z0 + (128 : Int32))) (v := (.ref bx590)) (by rw [z14]; exact (BX590.1.ext OL0.2).1) (State.isArrayOf_alike hZ.alike BX590.1.2.1) rfl BX590.1.2.2 z15 z1s (g := (mkF m 21 #[.val (.int z0)] [(.int (z0 + (128 : Int32))), (.ref (A 0))])) rfl rfl (hb hby y8_21) _ ?_
        show Steps p.tables e below (z8.setTop (mkF m 22 #[.val (.int z0)] [(.ref bx590)])) _
        exact retOut z3 hx Bd.returns rfl (Or.inr (Or.inr (Or.inr (Or.inr ⟨rfl, rfl, rfl⟩)))) (hb hby y8_22) hr
      · show QV Z z0 h0 n0 _ z8.heap _
        rw [z14]
        exact ⟨bx590, rfl, N0, KK0, (eb590.ext OL0.2), (fb590'.ext OL0.2)⟩
def Q_rmL4 (Z : State) (p1 : Int32) (p2 : Int32) (p3 : Int32) (p4 : Int32) (p5 : Int32) (p6 : Int32) (A : Nat → Addr) (K : Nat → ClassId) (z2 : Addr) (z0 : Addr) (z1 : ClassId) (h0 : Heap) (n0 : Nat) (v : Option Value) (h : Heap) (L : List Loc) : Prop := v = none ∧ Fr n0 L ∧ Keep h0 h [z0] ∧ (Arv Z h z0 z1 .int 16 [(.int 15), (.int 14), (.int 13), (.int 12), (.int 11), (.int 10), (.int 9), (.int 8), (.int 7), (.int 6), (.int 5), (.int 4), (.int 3), (.int 2), (.int 1), (.int 0)] (.int 0))
theorem y9_0 : decode prog_48_method_13_code 0 = .ok (.iload_n 1, 1) := by decide +kernel
theorem y9_1 : decode prog_48_method_13_code 1 = .ok (.istore_n 2, 1) := by decide +kernel
theorem y9_2 : decode prog_48_method_13_code 2 = .ok (.iload_n 2, 1) := by decide +kernel
theorem y9_3 : decode prog_48_method_13_code 3 = .ok (.aload_n 0, 1) := by decide +kernel
theorem y9_4 : decode prog_48_method_13_code 4 = .ok (.getfield 33, 3) := by decide +kernel
theorem y9_7 : decode prog_48_method_13_code 7 = .ok (.arraylength, 1) := by decide +kernel
theorem y9_8 : decode prog_48_method_13_code 8 = .ok (.if_icmp .ge 24, 3) := by decide +kernel
theorem y9_11 : decode prog_48_method_13_code 11 = .ok (.aload_n 0, 1) := by decide +kernel
theorem y9_12 : decode prog_48_method_13_code 12 = .ok (.getfield 33, 3) := by decide +kernel
theorem y9_15 : decode prog_48_method_13_code 15 = .ok (.aload_n 0, 1) := by decide +kernel
theorem y9_16 : decode prog_48_method_13_code 16 = .ok (.getfield 33, 3) := by decide +kernel
theorem y9_19 : decode prog_48_method_13_code 19 = .ok (.arraylength, 1) := by decide +kernel
theorem y9_20 : decode prog_48_method_13_code 20 = .ok (.iconst 1, 1) := by decide +kernel
theorem y9_21 : decode prog_48_method_13_code 21 = .ok (.isub, 1) := by decide +kernel
theorem y9_22 : decode prog_48_method_13_code 22 = .ok (.iload_n 2, 1) := by decide +kernel
theorem y9_23 : decode prog_48_method_13_code 23 = .ok (.isub, 1) := by decide +kernel
theorem y9_24 : decode prog_48_method_13_code 24 = .ok (.iload_n 2, 1) := by decide +kernel
theorem y9_25 : decode prog_48_method_13_code 25 = .ok (.iastore, 1) := by decide +kernel
theorem y9_26 : decode prog_48_method_13_code 26 = .ok (.iinc 2 1, 3) := by decide +kernel
theorem y9_29 : decode prog_48_method_13_code 29 = .ok (.goto (-27), 3) := by decide +kernel
theorem y9_32 : decode prog_48_method_13_code 32 = .ok (.return_, 1) := by decide +kernel
set_option maxRecDepth 65536 in
set_option maxHeartbeats 40000000 in
theorem rmL4 (l : Launch) (Z : State) (a0 : Array Value) (hw : ∀ d ∈ tables_1, d.before a0 Z = true) (ws : List Jvm.Cond) (h0 : Heap) (n0 : Nat) (p1 : Int32) (p2 : Int32) (p3 : Int32) (p4 : Int32) (p5 : Int32) (p6 : Int32) (A : Nat → Addr) (K : Nat → ClassId)  (z0 : Addr) (z1 : Addr) (z3 : ClassId) (EN : own_St Z A K) (OL0 : Old Z n0 h0) (z11 : Fld Z h0 z0 y_s0 "free" "[I" (.ref z1)) (z2v : Arv Z h0 z1 z3 .int 16 [] (.int 0)) (z4 : z0 ≠ z1) (z2 : n0 ≤ z1) :
    MetFree l own_m9 (head1 (Jvm.Cond.code own_m9 prog_48_method_13_code 3 none :: ws) (Room.mk 0 0 0 0)) (fun a U => a = #[(.ref z0), (.int 0)] ∧ Z.Warmed39 U.vm ∧ U.heap = h0) (fun _ _ _ _ _ => True) (fun _ U o U' => ∃ v L, o = .returned v ∧ Q_rmL4 Z p1 p2 p3 p4 p5 p6 A K z0 z1 z3 h0 n0 v U'.heap L ∧ FrameEnd U o U' L (Room.mk 0 0 0 0).cells (Room.mk 0 0 0 0).slots) := by
  refine MetFree.of_bodySF (plainFor_of_name own_pn0) hisR ?_
  intro p e s m args below meth c s₁ Bd hml0 hP hK
  obtain ⟨rfl, hZ, hh⟩ := hP
  have hx := Bd.exec
  have hby := Bd.bytes
  have hml : c.maxLocals = 3 := hml0
  have hown : s.vm.findClass y_s0 = some m.cls := findClass_of_methodNamed Bd.named
  have hnm := (name_of_methodNamed Bd.named Bd.method).1
  have X0 : Stand p l e (Room.mk 0 0 0 0) s m #[(.ref z0), (.int 0)] below meth c s₁ [] 0 0 := Stand.of_body Bd
  have e0 : s₁.heap = h0 := by rw [← hh, Bd.state]; rfl
  have N0 := Fr.nil n0
  have pre0 : ∀ t, Steps p.tables e below (s₁.setTop (mkF m 0 #[.val (.ref z0), .val (.int 0), .unset] [])) t → Steps p.tables e below (s₁.setTop (entryFrame m #[(.ref z0), (.int 0)] 3)) t := fun t k => castTop (by first | (simp [entryFrame, mkF, argsToLocals, Value.category, maxLocals]; done) | rfl) k
  have KK0 : Keep h0 h0 [z1] := Keep.refl _ _
  obtain ⟨z2w, z12, z3r, z7e⟩ := getF X0 hx hZ hown (host := "") (Or.inl (own_W hw 26 rfl)) Via.refl e0 z11 (g := (mkF m 4 #[.val (.ref z0), .val (.int 0), .val (.int 0)] [(.ref z0), (.int 0)])) rfl rfl (hb hby y9_4)
  obtain ⟨zgt, z3s, -, z7f, z7g, -, -⟩ := (id z2v)
  obtain ⟨z7h, z3t, z7i, z7j⟩ := getF z12 hx hZ hown (host := "") (Or.inl (own_W hw 26 rfl)) Via.refl z3r z11 (g := (mkF m 12 #[.val (.ref z0), .val (.int 0), .val (.int 0)] [(.ref z0)])) rfl rfl (hb hby y9_12)
  obtain ⟨z13, z5, z3u, z7k⟩ := getF z3t hx hZ hown (host := "") (Or.inl (own_W hw 26 rfl)) Via.refl z7i z11 (g := (mkF m 16 #[.val (.ref z0), .val (.int 0), .val (.int 0)] [(.ref z0), (.ref z1)])) rfl rfl (hb hby y9_16)
  obtain ⟨zgu, z3v, -, z7l, z7m, -, -⟩ := (id z2v)
  obtain ⟨z7n, z3w, z7o, z3x, z7p, z7q, z7r⟩ := (id (Arv.pad z2v (pad_rep [] (.int 0) 16)))
  have z7s : ¬ ((15 : Int32) < 0 ∨ z7n.slots.size ≤ ((15 : Int32)).toNatClampNeg) := inb_of z3x ⟨by decide, by decide⟩
  obtain ⟨z3y, z7t, zl, z7u, z14, z7v⟩ := stI z5 hx hZ z3u z3w (j := (15 : Int32)) z7s (g := (mkF m 25 #[.val (.ref z0), .val (.int 0), .val (.int 0)] [(.int 0), (.int 15), (.ref z1)])) rfl rfl (hb hby y9_25)
  have z7w := Fr.snoc zl N0 z2
  have z7x := OL0.wr z14 z2
  have z7y := KK0.wr z14 (own_Ix 0 rfl)
  have z2x : Arv Z z7t z1 z3 .int 16 [(.int 0), (.int 0), (.int 0), (.int 0), (.int 0), (.int 0), (.int 0), (.int 0), (.int 0), (.int 0), (.int 0), (.int 0), (.int 0), (.int 0), (.int 0), (.int 0)] (.int 0) := Arv.set z3w z7o z3x z7p z7q z7r rfl z14 15 (by decide) (by decide : 15 < 16)
  have z15 := (z11.other z14 (Or.inl z4))
  obtain ⟨z2y, z16, z3z, z7z⟩ := getF zl hx hZ hown (host := "") (Or.inl (own_W hw 26 rfl)) Via.refl z7u z15 (g := (mkF m 4 #[.val (.ref z0), .val (.int 0), .val (.int 1)] [(.ref z0), (.int 1)])) rfl rfl (hb hby y9_4)
  obtain ⟨zgv, z40, -, z80, z81, -, -⟩ := (id z2x)
  obtain ⟨z82, z41, z83, z84⟩ := getF z16 hx hZ hown (host := "") (Or.inl (own_W hw 26 rfl)) Via.refl z3z z15 (g := (mkF m 12 #[.val (.ref z0), .val (.int 0), .val (.int 1)] [(.ref z0)])) rfl rfl (hb hby y9_12)
  obtain ⟨z17, z6, z42, z85⟩ := getF z41 hx hZ hown (host := "") (Or.inl (own_W hw 26 rfl)) Via.refl z83 z15 (g := (mkF m 16 #[.val (.ref z0), .val (.int 0), .val (.int 1)] [(.ref z0), (.ref z1)])) rfl rfl (hb hby y9_16)
  obtain ⟨zgw, z43, -, z86, z87, -, -⟩ := (id z2x)
  obtain ⟨z88, z44, z89, z45, z8a, z8b, z8c⟩ := (id z2x)
  have z8d : ¬ ((14 : Int32) < 0 ∨ z88.slots.size ≤ ((14 : Int32)).toNatClampNeg) := inb_of z45 ⟨by decide, by decide⟩
  obtain ⟨z46, z8e, zm, z8f, z18, z8g⟩ := stI z6 hx hZ z42 z44 (j := (14 : Int32)) z8d (g := (mkF m 25 #[.val (.ref z0), .val (.int 0), .val (.int 1)] [(.int 1), (.int 14), (.ref z1)])) rfl rfl (hb hby y9_25)
  have z8h := Fr.snoc zm z7w z2
  have z8i := z7x.wr z18 z2
  have z8j := z7y.wr z18 (own_Ix 0 rfl)
  have z2z : Arv Z z8e z1 z3 .int 16 [(.int 0), (.int 0), (.int 0), (.int 0), (.int 0), (.int 0), (.int 0), (.int 0), (.int 0), (.int 0), (.int 0), (.int 0), (.int 0), (.int 0), (.int 1), (.int 0)] (.int 0) := Arv.set z44 z89 z45 z8a z8b z8c rfl z18 14 (by decide) (by decide : 14 < 16)
  have z19 := (z15.other z18 (Or.inl z4))
  obtain ⟨z30, z1a, z47, z8k⟩ := getF zm hx hZ hown (host := "") (Or.inl (own_W hw 26 rfl)) Via.refl z8f z19 (g := (mkF m 4 #[.val (.ref z0), .val (.int 0), .val (.int 2)] [(.ref z0), (.int 2)])) rfl rfl (hb hby y9_4)
  obtain ⟨zgx, z48, -, z8l, z8m, -, -⟩ := (id z2z)
  obtain ⟨z8n, z49, z8o, z8p⟩ := getF z1a hx hZ hown (host := "") (Or.inl (own_W hw 26 rfl)) Via.refl z47 z19 (g := (mkF m 12 #[.val (.ref z0), .val (.int 0), .val (.int 2)] [(.ref z0)])) rfl rfl (hb hby y9_12)
  obtain ⟨z1b, z7, z4a, z8q⟩ := getF z49 hx hZ hown (host := "") (Or.inl (own_W hw 26 rfl)) Via.refl z8o z19 (g := (mkF m 16 #[.val (.ref z0), .val (.int 0), .val (.int 2)] [(.ref z0), (.ref z1)])) rfl rfl (hb hby y9_16)
  obtain ⟨zgy, z4b, -, z8r, z8s, -, -⟩ := (id z2z)
  obtain ⟨z8t, z4c, z8u, z4d, z8v, z8w, z8x⟩ := (id z2z)
  have z8y : ¬ ((13 : Int32) < 0 ∨ z8t.slots.size ≤ ((13 : Int32)).toNatClampNeg) := inb_of z4d ⟨by decide, by decide⟩
  obtain ⟨z4e, z8z, zn, z90, z1c, z91⟩ := stI z7 hx hZ z4a z4c (j := (13 : Int32)) z8y (g := (mkF m 25 #[.val (.ref z0), .val (.int 0), .val (.int 2)] [(.int 2), (.int 13), (.ref z1)])) rfl rfl (hb hby y9_25)
  have z92 := Fr.snoc zn z8h z2
  have z93 := z8i.wr z1c z2
  have z94 := z8j.wr z1c (own_Ix 0 rfl)
  have z31 : Arv Z z8z z1 z3 .int 16 [(.int 0), (.int 0), (.int 0), (.int 0), (.int 0), (.int 0), (.int 0), (.int 0), (.int 0), (.int 0), (.int 0), (.int 0), (.int 0), (.int 2), (.int 1), (.int 0)] (.int 0) := Arv.set z4c z8u z4d z8v z8w z8x rfl z1c 13 (by decide) (by decide : 13 < 16)
  have z1d := (z19.other z1c (Or.inl z4))
  obtain ⟨z32, z1e, z4f, z95⟩ := getF zn hx hZ hown (host := "") (Or.inl (own_W hw 26 rfl)) Via.refl z90 z1d (g := (mkF m 4 #[.val (.ref z0), .val (.int 0), .val (.int 3)] [(.ref z0), (.int 3)])) rfl rfl (hb hby y9_4)
  obtain ⟨zgz, z4g, -, z96, z97, -, -⟩ := (id z31)
  obtain ⟨z98, z4h, z99, z9a⟩ := getF z1e hx hZ hown (host := "") (Or.inl (own_W hw 26 rfl)) Via.refl z4f z1d (g := (mkF m 12 #[.val (.ref z0), .val (.int 0), .val (.int 3)] [(.ref z0)])) rfl rfl (hb hby y9_12)
  obtain ⟨z1f, z8, z4i, z9b⟩ := getF z4h hx hZ hown (host := "") (Or.inl (own_W hw 26 rfl)) Via.refl z99 z1d (g := (mkF m 16 #[.val (.ref z0), .val (.int 0), .val (.int 3)] [(.ref z0), (.ref z1)])) rfl rfl (hb hby y9_16)
  obtain ⟨zh0, z4j, -, z9c, z9d, -, -⟩ := (id z31)
  obtain ⟨z9e, z4k, z9f, z4l, z9g, z9h, z9i⟩ := (id z31)
  have z9j : ¬ ((12 : Int32) < 0 ∨ z9e.slots.size ≤ ((12 : Int32)).toNatClampNeg) := inb_of z4l ⟨by decide, by decide⟩
  obtain ⟨z4m, z9k, zo, z9l, z1g, z9m⟩ := stI z8 hx hZ z4i z4k (j := (12 : Int32)) z9j (g := (mkF m 25 #[.val (.ref z0), .val (.int 0), .val (.int 3)] [(.int 3), (.int 12), (.ref z1)])) rfl rfl (hb hby y9_25)
  have z9n := Fr.snoc zo z92 z2
  have z9o := z93.wr z1g z2
  have z9p := z94.wr z1g (own_Ix 0 rfl)
  have z33 : Arv Z z9k z1 z3 .int 16 [(.int 0), (.int 0), (.int 0), (.int 0), (.int 0), (.int 0), (.int 0), (.int 0), (.int 0), (.int 0), (.int 0), (.int 0), (.int 3), (.int 2), (.int 1), (.int 0)] (.int 0) := Arv.set z4k z9f z4l z9g z9h z9i rfl z1g 12 (by decide) (by decide : 12 < 16)
  have z1h := (z1d.other z1g (Or.inl z4))
  obtain ⟨z34, z1i, z4n, z9q⟩ := getF zo hx hZ hown (host := "") (Or.inl (own_W hw 26 rfl)) Via.refl z9l z1h (g := (mkF m 4 #[.val (.ref z0), .val (.int 0), .val (.int 4)] [(.ref z0), (.int 4)])) rfl rfl (hb hby y9_4)
  obtain ⟨zh1, z4o, -, z9r, z9s, -, -⟩ := (id z33)
  obtain ⟨z9t, z4p, z9u, z9v⟩ := getF z1i hx hZ hown (host := "") (Or.inl (own_W hw 26 rfl)) Via.refl z4n z1h (g := (mkF m 12 #[.val (.ref z0), .val (.int 0), .val (.int 4)] [(.ref z0)])) rfl rfl (hb hby y9_12)
  obtain ⟨z1j, z9, z4q, z9w⟩ := getF z4p hx hZ hown (host := "") (Or.inl (own_W hw 26 rfl)) Via.refl z9u z1h (g := (mkF m 16 #[.val (.ref z0), .val (.int 0), .val (.int 4)] [(.ref z0), (.ref z1)])) rfl rfl (hb hby y9_16)
  obtain ⟨zh2, z4r, -, z9x, z9y, -, -⟩ := (id z33)
  obtain ⟨z9z, z4s, za0, z4t, za1, za2, za3⟩ := (id z33)
  have za4 : ¬ ((11 : Int32) < 0 ∨ z9z.slots.size ≤ ((11 : Int32)).toNatClampNeg) := inb_of z4t ⟨by decide, by decide⟩
  obtain ⟨z4u, za5, zp, za6, z1k, za7⟩ := stI z9 hx hZ z4q z4s (j := (11 : Int32)) za4 (g := (mkF m 25 #[.val (.ref z0), .val (.int 0), .val (.int 4)] [(.int 4), (.int 11), (.ref z1)])) rfl rfl (hb hby y9_25)
  have za8 := Fr.snoc zp z9n z2
  have za9 := z9o.wr z1k z2
  have zaa := z9p.wr z1k (own_Ix 0 rfl)
  have z35 : Arv Z za5 z1 z3 .int 16 [(.int 0), (.int 0), (.int 0), (.int 0), (.int 0), (.int 0), (.int 0), (.int 0), (.int 0), (.int 0), (.int 0), (.int 4), (.int 3), (.int 2), (.int 1), (.int 0)] (.int 0) := Arv.set z4s za0 z4t za1 za2 za3 rfl z1k 11 (by decide) (by decide : 11 < 16)
  have z1l := (z1h.other z1k (Or.inl z4))
  obtain ⟨z36, z1m, z4v, zab⟩ := getF zp hx hZ hown (host := "") (Or.inl (own_W hw 26 rfl)) Via.refl za6 z1l (g := (mkF m 4 #[.val (.ref z0), .val (.int 0), .val (.int 5)] [(.ref z0), (.int 5)])) rfl rfl (hb hby y9_4)
  obtain ⟨zh3, z4w, -, zac, zad, -, -⟩ := (id z35)
  obtain ⟨zae, z4x, zaf, zag⟩ := getF z1m hx hZ hown (host := "") (Or.inl (own_W hw 26 rfl)) Via.refl z4v z1l (g := (mkF m 12 #[.val (.ref z0), .val (.int 0), .val (.int 5)] [(.ref z0)])) rfl rfl (hb hby y9_12)
  obtain ⟨z1n, za, z4y, zah⟩ := getF z4x hx hZ hown (host := "") (Or.inl (own_W hw 26 rfl)) Via.refl zaf z1l (g := (mkF m 16 #[.val (.ref z0), .val (.int 0), .val (.int 5)] [(.ref z0), (.ref z1)])) rfl rfl (hb hby y9_16)
  obtain ⟨zh4, z4z, -, zai, zaj, -, -⟩ := (id z35)
  obtain ⟨zak, z50, zal, z51, zam, zan, zao⟩ := (id z35)
  have zap : ¬ ((10 : Int32) < 0 ∨ zak.slots.size ≤ ((10 : Int32)).toNatClampNeg) := inb_of z51 ⟨by decide, by decide⟩
  obtain ⟨z52, zaq, zq, zar, z1o, zas⟩ := stI za hx hZ z4y z50 (j := (10 : Int32)) zap (g := (mkF m 25 #[.val (.ref z0), .val (.int 0), .val (.int 5)] [(.int 5), (.int 10), (.ref z1)])) rfl rfl (hb hby y9_25)
  have zat := Fr.snoc zq za8 z2
  have zau := za9.wr z1o z2
  have zav := zaa.wr z1o (own_Ix 0 rfl)
  have z37 : Arv Z zaq z1 z3 .int 16 [(.int 0), (.int 0), (.int 0), (.int 0), (.int 0), (.int 0), (.int 0), (.int 0), (.int 0), (.int 0), (.int 5), (.int 4), (.int 3), (.int 2), (.int 1), (.int 0)] (.int 0) := Arv.set z50 zal z51 zam zan zao rfl z1o 10 (by decide) (by decide : 10 < 16)
  have z1p := (z1l.other z1o (Or.inl z4))
  obtain ⟨z38, z1q, z53, zaw⟩ := getF zq hx hZ hown (host := "") (Or.inl (own_W hw 26 rfl)) Via.refl zar z1p (g := (mkF m 4 #[.val (.ref z0), .val (.int 0), .val (.int 6)] [(.ref z0), (.int 6)])) rfl rfl (hb hby y9_4)
  obtain ⟨zh5, z54, -, zax, zay, -, -⟩ := (id z37)
  obtain ⟨zaz, z55, zb0, zb1⟩ := getF z1q hx hZ hown (host := "") (Or.inl (own_W hw 26 rfl)) Via.refl z53 z1p (g := (mkF m 12 #[.val (.ref z0), .val (.int 0), .val (.int 6)] [(.ref z0)])) rfl rfl (hb hby y9_12)
  obtain ⟨z1r, zb, z56, zb2⟩ := getF z55 hx hZ hown (host := "") (Or.inl (own_W hw 26 rfl)) Via.refl zb0 z1p (g := (mkF m 16 #[.val (.ref z0), .val (.int 0), .val (.int 6)] [(.ref z0), (.ref z1)])) rfl rfl (hb hby y9_16)
  obtain ⟨zh6, z57, -, zb3, zb4, -, -⟩ := (id z37)
  obtain ⟨zb5, z58, zb6, z59, zb7, zb8, zb9⟩ := (id z37)
  have zba : ¬ ((9 : Int32) < 0 ∨ zb5.slots.size ≤ ((9 : Int32)).toNatClampNeg) := inb_of z59 ⟨by decide, by decide⟩
  obtain ⟨z5a, zbb, zr, zbc, z1s, zbd⟩ := stI zb hx hZ z56 z58 (j := (9 : Int32)) zba (g := (mkF m 25 #[.val (.ref z0), .val (.int 0), .val (.int 6)] [(.int 6), (.int 9), (.ref z1)])) rfl rfl (hb hby y9_25)
  have zbe := Fr.snoc zr zat z2
  have zbf := zau.wr z1s z2
  have zbg := zav.wr z1s (own_Ix 0 rfl)
  have z39 : Arv Z zbb z1 z3 .int 16 [(.int 0), (.int 0), (.int 0), (.int 0), (.int 0), (.int 0), (.int 0), (.int 0), (.int 0), (.int 6), (.int 5), (.int 4), (.int 3), (.int 2), (.int 1), (.int 0)] (.int 0) := Arv.set z58 zb6 z59 zb7 zb8 zb9 rfl z1s 9 (by decide) (by decide : 9 < 16)
  have z1t := (z1p.other z1s (Or.inl z4))
  obtain ⟨z3a, z1u, z5b, zbh⟩ := getF zr hx hZ hown (host := "") (Or.inl (own_W hw 26 rfl)) Via.refl zbc z1t (g := (mkF m 4 #[.val (.ref z0), .val (.int 0), .val (.int 7)] [(.ref z0), (.int 7)])) rfl rfl (hb hby y9_4)
  obtain ⟨zh7, z5c, -, zbi, zbj, -, -⟩ := (id z39)
  obtain ⟨zbk, z5d, zbl, zbm⟩ := getF z1u hx hZ hown (host := "") (Or.inl (own_W hw 26 rfl)) Via.refl z5b z1t (g := (mkF m 12 #[.val (.ref z0), .val (.int 0), .val (.int 7)] [(.ref z0)])) rfl rfl (hb hby y9_12)
  obtain ⟨z1v, zc, z5e, zbn⟩ := getF z5d hx hZ hown (host := "") (Or.inl (own_W hw 26 rfl)) Via.refl zbl z1t (g := (mkF m 16 #[.val (.ref z0), .val (.int 0), .val (.int 7)] [(.ref z0), (.ref z1)])) rfl rfl (hb hby y9_16)
  obtain ⟨zh8, z5f, -, zbo, zbp, -, -⟩ := (id z39)
  obtain ⟨zbq, z5g, zbr, z5h, zbs, zbt, zbu⟩ := (id z39)
  have zbv : ¬ ((8 : Int32) < 0 ∨ zbq.slots.size ≤ ((8 : Int32)).toNatClampNeg) := inb_of z5h ⟨by decide, by decide⟩
  obtain ⟨z5i, zbw, zs, zbx, z1w, zby⟩ := stI zc hx hZ z5e z5g (j := (8 : Int32)) zbv (g := (mkF m 25 #[.val (.ref z0), .val (.int 0), .val (.int 7)] [(.int 7), (.int 8), (.ref z1)])) rfl rfl (hb hby y9_25)
  have zbz := Fr.snoc zs zbe z2
  have zc0 := zbf.wr z1w z2
  have zc1 := zbg.wr z1w (own_Ix 0 rfl)
  have z3b : Arv Z zbw z1 z3 .int 16 [(.int 0), (.int 0), (.int 0), (.int 0), (.int 0), (.int 0), (.int 0), (.int 0), (.int 7), (.int 6), (.int 5), (.int 4), (.int 3), (.int 2), (.int 1), (.int 0)] (.int 0) := Arv.set z5g zbr z5h zbs zbt zbu rfl z1w 8 (by decide) (by decide : 8 < 16)
  have z1x := (z1t.other z1w (Or.inl z4))
  obtain ⟨z3c, z1y, z5j, zc2⟩ := getF zs hx hZ hown (host := "") (Or.inl (own_W hw 26 rfl)) Via.refl zbx z1x (g := (mkF m 4 #[.val (.ref z0), .val (.int 0), .val (.int 8)] [(.ref z0), (.int 8)])) rfl rfl (hb hby y9_4)
  obtain ⟨zh9, z5k, -, zc3, zc4, -, -⟩ := (id z3b)
  obtain ⟨zc5, z5l, zc6, zc7⟩ := getF z1y hx hZ hown (host := "") (Or.inl (own_W hw 26 rfl)) Via.refl z5j z1x (g := (mkF m 12 #[.val (.ref z0), .val (.int 0), .val (.int 8)] [(.ref z0)])) rfl rfl (hb hby y9_12)
  obtain ⟨z1z, zd, z5m, zc8⟩ := getF z5l hx hZ hown (host := "") (Or.inl (own_W hw 26 rfl)) Via.refl zc6 z1x (g := (mkF m 16 #[.val (.ref z0), .val (.int 0), .val (.int 8)] [(.ref z0), (.ref z1)])) rfl rfl (hb hby y9_16)
  obtain ⟨zha, z5n, -, zc9, zca, -, -⟩ := (id z3b)
  obtain ⟨zcb, z5o, zcc, z5p, zcd, zce, zcf⟩ := (id z3b)
  have zcg : ¬ ((7 : Int32) < 0 ∨ zcb.slots.size ≤ ((7 : Int32)).toNatClampNeg) := inb_of z5p ⟨by decide, by decide⟩
  obtain ⟨z5q, zch, zt, zci, z20, zcj⟩ := stI zd hx hZ z5m z5o (j := (7 : Int32)) zcg (g := (mkF m 25 #[.val (.ref z0), .val (.int 0), .val (.int 8)] [(.int 8), (.int 7), (.ref z1)])) rfl rfl (hb hby y9_25)
  have zck := Fr.snoc zt zbz z2
  have zcl := zc0.wr z20 z2
  have zcm := zc1.wr z20 (own_Ix 0 rfl)
  have z3d : Arv Z zch z1 z3 .int 16 [(.int 0), (.int 0), (.int 0), (.int 0), (.int 0), (.int 0), (.int 0), (.int 8), (.int 7), (.int 6), (.int 5), (.int 4), (.int 3), (.int 2), (.int 1), (.int 0)] (.int 0) := Arv.set z5o zcc z5p zcd zce zcf rfl z20 7 (by decide) (by decide : 7 < 16)
  have z21 := (z1x.other z20 (Or.inl z4))
  obtain ⟨z3e, z22, z5r, zcn⟩ := getF zt hx hZ hown (host := "") (Or.inl (own_W hw 26 rfl)) Via.refl zci z21 (g := (mkF m 4 #[.val (.ref z0), .val (.int 0), .val (.int 9)] [(.ref z0), (.int 9)])) rfl rfl (hb hby y9_4)
  obtain ⟨zhb, z5s, -, zco, zcp, -, -⟩ := (id z3d)
  obtain ⟨zcq, z5t, zcr, zcs⟩ := getF z22 hx hZ hown (host := "") (Or.inl (own_W hw 26 rfl)) Via.refl z5r z21 (g := (mkF m 12 #[.val (.ref z0), .val (.int 0), .val (.int 9)] [(.ref z0)])) rfl rfl (hb hby y9_12)
  obtain ⟨z23, ze, z5u, zct⟩ := getF z5t hx hZ hown (host := "") (Or.inl (own_W hw 26 rfl)) Via.refl zcr z21 (g := (mkF m 16 #[.val (.ref z0), .val (.int 0), .val (.int 9)] [(.ref z0), (.ref z1)])) rfl rfl (hb hby y9_16)
  obtain ⟨zhc, z5v, -, zcu, zcv, -, -⟩ := (id z3d)
  obtain ⟨zcw, z5w, zcx, z5x, zcy, zcz, zd0⟩ := (id z3d)
  have zd1 : ¬ ((6 : Int32) < 0 ∨ zcw.slots.size ≤ ((6 : Int32)).toNatClampNeg) := inb_of z5x ⟨by decide, by decide⟩
  obtain ⟨z5y, zd2, zu, zd3, z24, zd4⟩ := stI ze hx hZ z5u z5w (j := (6 : Int32)) zd1 (g := (mkF m 25 #[.val (.ref z0), .val (.int 0), .val (.int 9)] [(.int 9), (.int 6), (.ref z1)])) rfl rfl (hb hby y9_25)
  have zd5 := Fr.snoc zu zck z2
  have zd6 := zcl.wr z24 z2
  have zd7 := zcm.wr z24 (own_Ix 0 rfl)
  have z3f : Arv Z zd2 z1 z3 .int 16 [(.int 0), (.int 0), (.int 0), (.int 0), (.int 0), (.int 0), (.int 9), (.int 8), (.int 7), (.int 6), (.int 5), (.int 4), (.int 3), (.int 2), (.int 1), (.int 0)] (.int 0) := Arv.set z5w zcx z5x zcy zcz zd0 rfl z24 6 (by decide) (by decide : 6 < 16)
  have z25 := (z21.other z24 (Or.inl z4))
  obtain ⟨z3g, z26, z5z, zd8⟩ := getF zu hx hZ hown (host := "") (Or.inl (own_W hw 26 rfl)) Via.refl zd3 z25 (g := (mkF m 4 #[.val (.ref z0), .val (.int 0), .val (.int 10)] [(.ref z0), (.int 10)])) rfl rfl (hb hby y9_4)
  obtain ⟨zhd, z60, -, zd9, zda, -, -⟩ := (id z3f)
  obtain ⟨zdb, z61, zdc, zdd⟩ := getF z26 hx hZ hown (host := "") (Or.inl (own_W hw 26 rfl)) Via.refl z5z z25 (g := (mkF m 12 #[.val (.ref z0), .val (.int 0), .val (.int 10)] [(.ref z0)])) rfl rfl (hb hby y9_12)
  obtain ⟨z27, zf, z62, zde⟩ := getF z61 hx hZ hown (host := "") (Or.inl (own_W hw 26 rfl)) Via.refl zdc z25 (g := (mkF m 16 #[.val (.ref z0), .val (.int 0), .val (.int 10)] [(.ref z0), (.ref z1)])) rfl rfl (hb hby y9_16)
  obtain ⟨zhe, z63, -, zdf, zdg, -, -⟩ := (id z3f)
  obtain ⟨zdh, z64, zdi, z65, zdj, zdk, zdl⟩ := (id z3f)
  have zdm : ¬ ((5 : Int32) < 0 ∨ zdh.slots.size ≤ ((5 : Int32)).toNatClampNeg) := inb_of z65 ⟨by decide, by decide⟩
  obtain ⟨z66, zdn, zv, zdo, z28, zdp⟩ := stI zf hx hZ z62 z64 (j := (5 : Int32)) zdm (g := (mkF m 25 #[.val (.ref z0), .val (.int 0), .val (.int 10)] [(.int 10), (.int 5), (.ref z1)])) rfl rfl (hb hby y9_25)
  have zdq := Fr.snoc zv zd5 z2
  have zdr := zd6.wr z28 z2
  have zds := zd7.wr z28 (own_Ix 0 rfl)
  have z3h : Arv Z zdn z1 z3 .int 16 [(.int 0), (.int 0), (.int 0), (.int 0), (.int 0), (.int 10), (.int 9), (.int 8), (.int 7), (.int 6), (.int 5), (.int 4), (.int 3), (.int 2), (.int 1), (.int 0)] (.int 0) := Arv.set z64 zdi z65 zdj zdk zdl rfl z28 5 (by decide) (by decide : 5 < 16)
  have z29 := (z25.other z28 (Or.inl z4))
  obtain ⟨z3i, z2a, z67, zdt⟩ := getF zv hx hZ hown (host := "") (Or.inl (own_W hw 26 rfl)) Via.refl zdo z29 (g := (mkF m 4 #[.val (.ref z0), .val (.int 0), .val (.int 11)] [(.ref z0), (.int 11)])) rfl rfl (hb hby y9_4)
  obtain ⟨zhf, z68, -, zdu, zdv, -, -⟩ := (id z3h)
  obtain ⟨zdw, z69, zdx, zdy⟩ := getF z2a hx hZ hown (host := "") (Or.inl (own_W hw 26 rfl)) Via.refl z67 z29 (g := (mkF m 12 #[.val (.ref z0), .val (.int 0), .val (.int 11)] [(.ref z0)])) rfl rfl (hb hby y9_12)
  obtain ⟨z2b, zg, z6a, zdz⟩ := getF z69 hx hZ hown (host := "") (Or.inl (own_W hw 26 rfl)) Via.refl zdx z29 (g := (mkF m 16 #[.val (.ref z0), .val (.int 0), .val (.int 11)] [(.ref z0), (.ref z1)])) rfl rfl (hb hby y9_16)
  obtain ⟨zhg, z6b, -, ze0, ze1, -, -⟩ := (id z3h)
  obtain ⟨ze2, z6c, ze3, z6d, ze4, ze5, ze6⟩ := (id z3h)
  have ze7 : ¬ ((4 : Int32) < 0 ∨ ze2.slots.size ≤ ((4 : Int32)).toNatClampNeg) := inb_of z6d ⟨by decide, by decide⟩
  obtain ⟨z6e, ze8, zw, ze9, z2c, zea⟩ := stI zg hx hZ z6a z6c (j := (4 : Int32)) ze7 (g := (mkF m 25 #[.val (.ref z0), .val (.int 0), .val (.int 11)] [(.int 11), (.int 4), (.ref z1)])) rfl rfl (hb hby y9_25)
  have zeb := Fr.snoc zw zdq z2
  have zec := zdr.wr z2c z2
  have zed := zds.wr z2c (own_Ix 0 rfl)
  have z3j : Arv Z ze8 z1 z3 .int 16 [(.int 0), (.int 0), (.int 0), (.int 0), (.int 11), (.int 10), (.int 9), (.int 8), (.int 7), (.int 6), (.int 5), (.int 4), (.int 3), (.int 2), (.int 1), (.int 0)] (.int 0) := Arv.set z6c ze3 z6d ze4 ze5 ze6 rfl z2c 4 (by decide) (by decide : 4 < 16)
  have z2d := (z29.other z2c (Or.inl z4))
  obtain ⟨z3k, z2e, z6f, zee⟩ := getF zw hx hZ hown (host := "") (Or.inl (own_W hw 26 rfl)) Via.refl ze9 z2d (g := (mkF m 4 #[.val (.ref z0), .val (.int 0), .val (.int 12)] [(.ref z0), (.int 12)])) rfl rfl (hb hby y9_4)
  obtain ⟨zhh, z6g, -, zef, zeg, -, -⟩ := (id z3j)
  obtain ⟨zeh, z6h, zei, zej⟩ := getF z2e hx hZ hown (host := "") (Or.inl (own_W hw 26 rfl)) Via.refl z6f z2d (g := (mkF m 12 #[.val (.ref z0), .val (.int 0), .val (.int 12)] [(.ref z0)])) rfl rfl (hb hby y9_12)
  obtain ⟨z2f, zh, z6i, zek⟩ := getF z6h hx hZ hown (host := "") (Or.inl (own_W hw 26 rfl)) Via.refl zei z2d (g := (mkF m 16 #[.val (.ref z0), .val (.int 0), .val (.int 12)] [(.ref z0), (.ref z1)])) rfl rfl (hb hby y9_16)
  obtain ⟨zhi, z6j, -, zel, zem, -, -⟩ := (id z3j)
  obtain ⟨zen, z6k, zeo, z6l, zep, zeq, zer⟩ := (id z3j)
  have zes : ¬ ((3 : Int32) < 0 ∨ zen.slots.size ≤ ((3 : Int32)).toNatClampNeg) := inb_of z6l ⟨by decide, by decide⟩
  obtain ⟨z6m, zet, zx, zeu, z2g, zev⟩ := stI zh hx hZ z6i z6k (j := (3 : Int32)) zes (g := (mkF m 25 #[.val (.ref z0), .val (.int 0), .val (.int 12)] [(.int 12), (.int 3), (.ref z1)])) rfl rfl (hb hby y9_25)
  have zew := Fr.snoc zx zeb z2
  have zex := zec.wr z2g z2
  have zey := zed.wr z2g (own_Ix 0 rfl)
  have z3l : Arv Z zet z1 z3 .int 16 [(.int 0), (.int 0), (.int 0), (.int 12), (.int 11), (.int 10), (.int 9), (.int 8), (.int 7), (.int 6), (.int 5), (.int 4), (.int 3), (.int 2), (.int 1), (.int 0)] (.int 0) := Arv.set z6k zeo z6l zep zeq zer rfl z2g 3 (by decide) (by decide : 3 < 16)
  have z2h := (z2d.other z2g (Or.inl z4))
  obtain ⟨z3m, z2i, z6n, zez⟩ := getF zx hx hZ hown (host := "") (Or.inl (own_W hw 26 rfl)) Via.refl zeu z2h (g := (mkF m 4 #[.val (.ref z0), .val (.int 0), .val (.int 13)] [(.ref z0), (.int 13)])) rfl rfl (hb hby y9_4)
  obtain ⟨zhj, z6o, -, zf0, zf1, -, -⟩ := (id z3l)
  obtain ⟨zf2, z6p, zf3, zf4⟩ := getF z2i hx hZ hown (host := "") (Or.inl (own_W hw 26 rfl)) Via.refl z6n z2h (g := (mkF m 12 #[.val (.ref z0), .val (.int 0), .val (.int 13)] [(.ref z0)])) rfl rfl (hb hby y9_12)
  obtain ⟨z2j, zi, z6q, zf5⟩ := getF z6p hx hZ hown (host := "") (Or.inl (own_W hw 26 rfl)) Via.refl zf3 z2h (g := (mkF m 16 #[.val (.ref z0), .val (.int 0), .val (.int 13)] [(.ref z0), (.ref z1)])) rfl rfl (hb hby y9_16)
  obtain ⟨zhk, z6r, -, zf6, zf7, -, -⟩ := (id z3l)
  obtain ⟨zf8, z6s, zf9, z6t, zfa, zfb, zfc⟩ := (id z3l)
  have zfd : ¬ ((2 : Int32) < 0 ∨ zf8.slots.size ≤ ((2 : Int32)).toNatClampNeg) := inb_of z6t ⟨by decide, by decide⟩
  obtain ⟨z6u, zfe, zy, zff, z2k, zfg⟩ := stI zi hx hZ z6q z6s (j := (2 : Int32)) zfd (g := (mkF m 25 #[.val (.ref z0), .val (.int 0), .val (.int 13)] [(.int 13), (.int 2), (.ref z1)])) rfl rfl (hb hby y9_25)
  have zfh := Fr.snoc zy zew z2
  have zfi := zex.wr z2k z2
  have zfj := zey.wr z2k (own_Ix 0 rfl)
  have z3n : Arv Z zfe z1 z3 .int 16 [(.int 0), (.int 0), (.int 13), (.int 12), (.int 11), (.int 10), (.int 9), (.int 8), (.int 7), (.int 6), (.int 5), (.int 4), (.int 3), (.int 2), (.int 1), (.int 0)] (.int 0) := Arv.set z6s zf9 z6t zfa zfb zfc rfl z2k 2 (by decide) (by decide : 2 < 16)
  have z2l := (z2h.other z2k (Or.inl z4))
  obtain ⟨z3o, z2m, z6v, zfk⟩ := getF zy hx hZ hown (host := "") (Or.inl (own_W hw 26 rfl)) Via.refl zff z2l (g := (mkF m 4 #[.val (.ref z0), .val (.int 0), .val (.int 14)] [(.ref z0), (.int 14)])) rfl rfl (hb hby y9_4)
  obtain ⟨zhl, z6w, -, zfl, zfm, -, -⟩ := (id z3n)
  obtain ⟨zfn, z6x, zfo, zfp⟩ := getF z2m hx hZ hown (host := "") (Or.inl (own_W hw 26 rfl)) Via.refl z6v z2l (g := (mkF m 12 #[.val (.ref z0), .val (.int 0), .val (.int 14)] [(.ref z0)])) rfl rfl (hb hby y9_12)
  obtain ⟨z2n, zj, z6y, zfq⟩ := getF z6x hx hZ hown (host := "") (Or.inl (own_W hw 26 rfl)) Via.refl zfo z2l (g := (mkF m 16 #[.val (.ref z0), .val (.int 0), .val (.int 14)] [(.ref z0), (.ref z1)])) rfl rfl (hb hby y9_16)
  obtain ⟨zhm, z6z, -, zfr, zfs, -, -⟩ := (id z3n)
  obtain ⟨zft, z70, zfu, z71, zfv, zfw, zfx⟩ := (id z3n)
  have zfy : ¬ ((1 : Int32) < 0 ∨ zft.slots.size ≤ ((1 : Int32)).toNatClampNeg) := inb_of z71 ⟨by decide, by decide⟩
  obtain ⟨z72, zfz, zz, zg0, z2o, zg1⟩ := stI zj hx hZ z6y z70 (j := (1 : Int32)) zfy (g := (mkF m 25 #[.val (.ref z0), .val (.int 0), .val (.int 14)] [(.int 14), (.int 1), (.ref z1)])) rfl rfl (hb hby y9_25)
  have zg2 := Fr.snoc zz zfh z2
  have zg3 := zfi.wr z2o z2
  have zg4 := zfj.wr z2o (own_Ix 0 rfl)
  have z3p : Arv Z zfz z1 z3 .int 16 [(.int 0), (.int 14), (.int 13), (.int 12), (.int 11), (.int 10), (.int 9), (.int 8), (.int 7), (.int 6), (.int 5), (.int 4), (.int 3), (.int 2), (.int 1), (.int 0)] (.int 0) := Arv.set z70 zfu z71 zfv zfw zfx rfl z2o 1 (by decide) (by decide : 1 < 16)
  have z2p := (z2l.other z2o (Or.inl z4))
  obtain ⟨z3q, z2q, z73, zg5⟩ := getF zz hx hZ hown (host := "") (Or.inl (own_W hw 26 rfl)) Via.refl zg0 z2p (g := (mkF m 4 #[.val (.ref z0), .val (.int 0), .val (.int 15)] [(.ref z0), (.int 15)])) rfl rfl (hb hby y9_4)
  obtain ⟨zhn, z74, -, zg6, zg7, -, -⟩ := (id z3p)
  obtain ⟨zg8, z75, zg9, zga⟩ := getF z2q hx hZ hown (host := "") (Or.inl (own_W hw 26 rfl)) Via.refl z73 z2p (g := (mkF m 12 #[.val (.ref z0), .val (.int 0), .val (.int 15)] [(.ref z0)])) rfl rfl (hb hby y9_12)
  obtain ⟨z2r, zk, z76, zgb⟩ := getF z75 hx hZ hown (host := "") (Or.inl (own_W hw 26 rfl)) Via.refl zg9 z2p (g := (mkF m 16 #[.val (.ref z0), .val (.int 0), .val (.int 15)] [(.ref z0), (.ref z1)])) rfl rfl (hb hby y9_16)
  obtain ⟨zho, z77, -, zgc, zgd, -, -⟩ := (id z3p)
  obtain ⟨zge, z78, zgf, z79, zgg, zgh, zgi⟩ := (id z3p)
  have zgj : ¬ ((0 : Int32) < 0 ∨ zge.slots.size ≤ ((0 : Int32)).toNatClampNeg) := inb_of z79 ⟨by decide, by decide⟩
  obtain ⟨z7a, zgk, z10, zgl, z2s, zgm⟩ := stI zk hx hZ z76 z78 (j := (0 : Int32)) zgj (g := (mkF m 25 #[.val (.ref z0), .val (.int 0), .val (.int 15)] [(.int 15), (.int 0), (.ref z1)])) rfl rfl (hb hby y9_25)
  have zgn := Fr.snoc z10 zg2 z2
  have zhp := zg3.wr z2s z2
  have zgo := zg4.wr z2s (own_Ix 0 rfl)
  have z7b : Arv Z zgk z1 z3 .int 16 [(.int 15), (.int 14), (.int 13), (.int 12), (.int 11), (.int 10), (.int 9), (.int 8), (.int 7), (.int 6), (.int 5), (.int 4), (.int 3), (.int 2), (.int 1), (.int 0)] (.int 0) := Arv.set z78 zgf z79 zgg zgh zgi rfl z2s 0 (by decide) (by decide : 0 < 16)
  have zgp := (z2p.other z2s (Or.inl z4))
  obtain ⟨z2t, z2u, z7c, zgq⟩ := getF z10 hx hZ hown (host := "") (Or.inl (own_W hw 26 rfl)) Via.refl zgl zgp (g := (mkF m 4 #[.val (.ref z0), .val (.int 0), .val (.int 16)] [(.ref z0), (.int 16)])) rfl rfl (hb hby y9_4)
  obtain ⟨zhq, z7d, -, zgr, zgs, -, -⟩ := (id z7b)
  obtain ⟨fs, hr, hrun, hended, hW, hsame⟩ := z2u.leave (v := none) (fun _ => rfl)
  refine ⟨_, _, pre0 _ ?_, hrun, hended, _, _, rfl, ?_, ⟨_, rfl⟩, hW, hsame.mono (by decide) (by decide)⟩
  · show Steps p.tables e below (s₁.setTop (mkF m 0 #[.val (.ref z0), .val (.int 0), .unset] [])) _
    refine XS.iloadN X0.here hx rfl (hb hby y9_0) rfl ?_
    refine XS.istoreN X0.here hx rfl (hb hby y9_1) rfl (l' := #[.val (.ref z0), .val (.int 0), .val (.int 0)]) rfl ?_
    refine XS.iloadN X0.here hx rfl (hb hby y9_2) rfl ?_
    refine XS.aloadN X0.here hx rfl (hb hby y9_3) rfl rfl ?_
    refine z7e _ ?_
    show Steps p.tables e below (z2w.setTop (mkF m 7 #[.val (.ref z0), .val (.int 0), .val (.int 0)] [(.ref z1), (.int 0)])) _
    refine z12.arraylength hx (by rw [z3r]; exact z3s.1) (State.isArrayOf_alike hZ.alike z3s.2.1) (g := (mkF m 7 #[.val (.ref z0), .val (.int 0), .val (.int 0)] [(.ref z1), (.int 0)])) rfl rfl (hb hby y9_7) _ ?_
    rw [len_of z7f z7g]
    show Steps p.tables e below (z2w.setTop (mkF m 8 #[.val (.ref z0), .val (.int 0), .val (.int 0)] [(.int 16), (.int 0)])) _
    refine XS.icmpNo z12.here hx rfl (hb hby y9_8) rfl (tlt (by decide : (0 : Int32) < (16 : Int32))).2.1 ?_
    show Steps p.tables e below (z2w.setTop (mkF m 11 #[.val (.ref z0), .val (.int 0), .val (.int 0)] [])) _
    refine XS.aloadN z12.here hx rfl (hb hby y9_11) rfl rfl ?_
    refine z7j _ ?_
    show Steps p.tables e below (z7h.setTop (mkF m 15 #[.val (.ref z0), .val (.int 0), .val (.int 0)] [(.ref z1)])) _
    refine XS.aloadN z3t.here hx rfl (hb hby y9_15) rfl rfl ?_
    refine z7k _ ?_
    show Steps p.tables e below (z13.setTop (mkF m 19 #[.val (.ref z0), .val (.int 0), .val (.int 0)] [(.ref z1), (.ref z1)])) _
    refine z5.arraylength hx (by rw [z3u]; exact z3v.1) (State.isArrayOf_alike hZ.alike z3v.2.1) (g := (mkF m 19 #[.val (.ref z0), .val (.int 0), .val (.int 0)] [(.ref z1), (.ref z1)])) rfl rfl (hb hby y9_19) _ ?_
    rw [len_of z7l z7m]
    show Steps p.tables e below (z13.setTop (mkF m 20 #[.val (.ref z0), .val (.int 0), .val (.int 0)] [(.int 16), (.ref z1)])) _
    refine XS.iconst z5.here hx rfl (hb hby y9_20) ?_
    refine XS.isub z5.here hx rfl (hb hby y9_21) rfl ?_
    show Steps p.tables e below (z13.setTop (mkF m 22 #[.val (.ref z0), .val (.int 0), .val (.int 0)] [(.int 15), (.ref z1)])) _
    refine XS.iloadN z5.here hx rfl (hb hby y9_22) rfl ?_
    refine XS.isub z5.here hx rfl (hb hby y9_23) rfl ?_
    show Steps p.tables e below (z13.setTop (mkF m 24 #[.val (.ref z0), .val (.int 0), .val (.int 0)] [(.int 15), (.ref z1)])) _
    refine XS.iloadN z5.here hx rfl (hb hby y9_24) rfl ?_
    refine z7v _ ?_
    show Steps p.tables e below (z3y.setTop (mkF m 26 #[.val (.ref z0), .val (.int 0), .val (.int 0)] [])) _
    refine XS.iinc zl.here hx rfl (hb hby y9_26) rfl (l' := #[.val (.ref z0), .val (.int 0), .val (.int 1)]) rfl ?_
    show Steps p.tables e below (z3y.setTop (mkF m 29 #[.val (.ref z0), .val (.int 0), .val (.int 1)] [])) _
    refine XS.goto zl.here hx rfl (pc0 := 29) (pc' := 2) rfl (hb hby y9_29) (by decide) (by decide) ?_
    refine XS.iloadN zl.here hx rfl (hb hby y9_2) rfl ?_
    refine XS.aloadN zl.here hx rfl (hb hby y9_3) rfl rfl ?_
    refine z7z _ ?_
    show Steps p.tables e below (z2y.setTop (mkF m 7 #[.val (.ref z0), .val (.int 0), .val (.int 1)] [(.ref z1), (.int 1)])) _
    refine z16.arraylength hx (by rw [z3z]; exact z40.1) (State.isArrayOf_alike hZ.alike z40.2.1) (g := (mkF m 7 #[.val (.ref z0), .val (.int 0), .val (.int 1)] [(.ref z1), (.int 1)])) rfl rfl (hb hby y9_7) _ ?_
    rw [len_of z80 z81]
    show Steps p.tables e below (z2y.setTop (mkF m 8 #[.val (.ref z0), .val (.int 0), .val (.int 1)] [(.int 16), (.int 1)])) _
    refine XS.icmpNo z16.here hx rfl (hb hby y9_8) rfl (tlt (by decide : (1 : Int32) < (16 : Int32))).2.1 ?_
    show Steps p.tables e below (z2y.setTop (mkF m 11 #[.val (.ref z0), .val (.int 0), .val (.int 1)] [])) _
    refine XS.aloadN z16.here hx rfl (hb hby y9_11) rfl rfl ?_
    refine z84 _ ?_
    show Steps p.tables e below (z82.setTop (mkF m 15 #[.val (.ref z0), .val (.int 0), .val (.int 1)] [(.ref z1)])) _
    refine XS.aloadN z41.here hx rfl (hb hby y9_15) rfl rfl ?_
    refine z85 _ ?_
    show Steps p.tables e below (z17.setTop (mkF m 19 #[.val (.ref z0), .val (.int 0), .val (.int 1)] [(.ref z1), (.ref z1)])) _
    refine z6.arraylength hx (by rw [z42]; exact z43.1) (State.isArrayOf_alike hZ.alike z43.2.1) (g := (mkF m 19 #[.val (.ref z0), .val (.int 0), .val (.int 1)] [(.ref z1), (.ref z1)])) rfl rfl (hb hby y9_19) _ ?_
    rw [len_of z86 z87]
    show Steps p.tables e below (z17.setTop (mkF m 20 #[.val (.ref z0), .val (.int 0), .val (.int 1)] [(.int 16), (.ref z1)])) _
    refine XS.iconst z6.here hx rfl (hb hby y9_20) ?_
    refine XS.isub z6.here hx rfl (hb hby y9_21) rfl ?_
    show Steps p.tables e below (z17.setTop (mkF m 22 #[.val (.ref z0), .val (.int 0), .val (.int 1)] [(.int 15), (.ref z1)])) _
    refine XS.iloadN z6.here hx rfl (hb hby y9_22) rfl ?_
    refine XS.isub z6.here hx rfl (hb hby y9_23) rfl ?_
    show Steps p.tables e below (z17.setTop (mkF m 24 #[.val (.ref z0), .val (.int 0), .val (.int 1)] [(.int 14), (.ref z1)])) _
    refine XS.iloadN z6.here hx rfl (hb hby y9_24) rfl ?_
    refine z8g _ ?_
    show Steps p.tables e below (z46.setTop (mkF m 26 #[.val (.ref z0), .val (.int 0), .val (.int 1)] [])) _
    refine XS.iinc zm.here hx rfl (hb hby y9_26) rfl (l' := #[.val (.ref z0), .val (.int 0), .val (.int 2)]) rfl ?_
    show Steps p.tables e below (z46.setTop (mkF m 29 #[.val (.ref z0), .val (.int 0), .val (.int 2)] [])) _
    refine XS.goto zm.here hx rfl (pc0 := 29) (pc' := 2) rfl (hb hby y9_29) (by decide) (by decide) ?_
    refine XS.iloadN zm.here hx rfl (hb hby y9_2) rfl ?_
    refine XS.aloadN zm.here hx rfl (hb hby y9_3) rfl rfl ?_
    refine z8k _ ?_
    show Steps p.tables e below (z30.setTop (mkF m 7 #[.val (.ref z0), .val (.int 0), .val (.int 2)] [(.ref z1), (.int 2)])) _
    refine z1a.arraylength hx (by rw [z47]; exact z48.1) (State.isArrayOf_alike hZ.alike z48.2.1) (g := (mkF m 7 #[.val (.ref z0), .val (.int 0), .val (.int 2)] [(.ref z1), (.int 2)])) rfl rfl (hb hby y9_7) _ ?_
    rw [len_of z8l z8m]
    show Steps p.tables e below (z30.setTop (mkF m 8 #[.val (.ref z0), .val (.int 0), .val (.int 2)] [(.int 16), (.int 2)])) _
    refine XS.icmpNo z1a.here hx rfl (hb hby y9_8) rfl (tlt (by decide : (2 : Int32) < (16 : Int32))).2.1 ?_
    show Steps p.tables e below (z30.setTop (mkF m 11 #[.val (.ref z0), .val (.int 0), .val (.int 2)] [])) _
    refine XS.aloadN z1a.here hx rfl (hb hby y9_11) rfl rfl ?_
    refine z8p _ ?_
    show Steps p.tables e below (z8n.setTop (mkF m 15 #[.val (.ref z0), .val (.int 0), .val (.int 2)] [(.ref z1)])) _
    refine XS.aloadN z49.here hx rfl (hb hby y9_15) rfl rfl ?_
    refine z8q _ ?_
    show Steps p.tables e below (z1b.setTop (mkF m 19 #[.val (.ref z0), .val (.int 0), .val (.int 2)] [(.ref z1), (.ref z1)])) _
    refine z7.arraylength hx (by rw [z4a]; exact z4b.1) (State.isArrayOf_alike hZ.alike z4b.2.1) (g := (mkF m 19 #[.val (.ref z0), .val (.int 0), .val (.int 2)] [(.ref z1), (.ref z1)])) rfl rfl (hb hby y9_19) _ ?_
    rw [len_of z8r z8s]
    show Steps p.tables e below (z1b.setTop (mkF m 20 #[.val (.ref z0), .val (.int 0), .val (.int 2)] [(.int 16), (.ref z1)])) _
    refine XS.iconst z7.here hx rfl (hb hby y9_20) ?_
    refine XS.isub z7.here hx rfl (hb hby y9_21) rfl ?_
    show Steps p.tables e below (z1b.setTop (mkF m 22 #[.val (.ref z0), .val (.int 0), .val (.int 2)] [(.int 15), (.ref z1)])) _
    refine XS.iloadN z7.here hx rfl (hb hby y9_22) rfl ?_
    refine XS.isub z7.here hx rfl (hb hby y9_23) rfl ?_
    show Steps p.tables e below (z1b.setTop (mkF m 24 #[.val (.ref z0), .val (.int 0), .val (.int 2)] [(.int 13), (.ref z1)])) _
    refine XS.iloadN z7.here hx rfl (hb hby y9_24) rfl ?_
    refine z91 _ ?_
    show Steps p.tables e below (z4e.setTop (mkF m 26 #[.val (.ref z0), .val (.int 0), .val (.int 2)] [])) _
    refine XS.iinc zn.here hx rfl (hb hby y9_26) rfl (l' := #[.val (.ref z0), .val (.int 0), .val (.int 3)]) rfl ?_
    show Steps p.tables e below (z4e.setTop (mkF m 29 #[.val (.ref z0), .val (.int 0), .val (.int 3)] [])) _
    refine XS.goto zn.here hx rfl (pc0 := 29) (pc' := 2) rfl (hb hby y9_29) (by decide) (by decide) ?_
    refine XS.iloadN zn.here hx rfl (hb hby y9_2) rfl ?_
    refine XS.aloadN zn.here hx rfl (hb hby y9_3) rfl rfl ?_
    refine z95 _ ?_
    show Steps p.tables e below (z32.setTop (mkF m 7 #[.val (.ref z0), .val (.int 0), .val (.int 3)] [(.ref z1), (.int 3)])) _
    refine z1e.arraylength hx (by rw [z4f]; exact z4g.1) (State.isArrayOf_alike hZ.alike z4g.2.1) (g := (mkF m 7 #[.val (.ref z0), .val (.int 0), .val (.int 3)] [(.ref z1), (.int 3)])) rfl rfl (hb hby y9_7) _ ?_
    rw [len_of z96 z97]
    show Steps p.tables e below (z32.setTop (mkF m 8 #[.val (.ref z0), .val (.int 0), .val (.int 3)] [(.int 16), (.int 3)])) _
    refine XS.icmpNo z1e.here hx rfl (hb hby y9_8) rfl (tlt (by decide : (3 : Int32) < (16 : Int32))).2.1 ?_
    show Steps p.tables e below (z32.setTop (mkF m 11 #[.val (.ref z0), .val (.int 0), .val (.int 3)] [])) _
    refine XS.aloadN z1e.here hx rfl (hb hby y9_11) rfl rfl ?_
    refine z9a _ ?_
    show Steps p.tables e below (z98.setTop (mkF m 15 #[.val (.ref z0), .val (.int 0), .val (.int 3)] [(.ref z1)])) _
    refine XS.aloadN z4h.here hx rfl (hb hby y9_15) rfl rfl ?_
    refine z9b _ ?_
    show Steps p.tables e below (z1f.setTop (mkF m 19 #[.val (.ref z0), .val (.int 0), .val (.int 3)] [(.ref z1), (.ref z1)])) _
    refine z8.arraylength hx (by rw [z4i]; exact z4j.1) (State.isArrayOf_alike hZ.alike z4j.2.1) (g := (mkF m 19 #[.val (.ref z0), .val (.int 0), .val (.int 3)] [(.ref z1), (.ref z1)])) rfl rfl (hb hby y9_19) _ ?_
    rw [len_of z9c z9d]
    show Steps p.tables e below (z1f.setTop (mkF m 20 #[.val (.ref z0), .val (.int 0), .val (.int 3)] [(.int 16), (.ref z1)])) _
    refine XS.iconst z8.here hx rfl (hb hby y9_20) ?_
    refine XS.isub z8.here hx rfl (hb hby y9_21) rfl ?_
    show Steps p.tables e below (z1f.setTop (mkF m 22 #[.val (.ref z0), .val (.int 0), .val (.int 3)] [(.int 15), (.ref z1)])) _
    refine XS.iloadN z8.here hx rfl (hb hby y9_22) rfl ?_
    refine XS.isub z8.here hx rfl (hb hby y9_23) rfl ?_
    show Steps p.tables e below (z1f.setTop (mkF m 24 #[.val (.ref z0), .val (.int 0), .val (.int 3)] [(.int 12), (.ref z1)])) _
    refine XS.iloadN z8.here hx rfl (hb hby y9_24) rfl ?_
    refine z9m _ ?_
    show Steps p.tables e below (z4m.setTop (mkF m 26 #[.val (.ref z0), .val (.int 0), .val (.int 3)] [])) _
    refine XS.iinc zo.here hx rfl (hb hby y9_26) rfl (l' := #[.val (.ref z0), .val (.int 0), .val (.int 4)]) rfl ?_
    show Steps p.tables e below (z4m.setTop (mkF m 29 #[.val (.ref z0), .val (.int 0), .val (.int 4)] [])) _
    refine XS.goto zo.here hx rfl (pc0 := 29) (pc' := 2) rfl (hb hby y9_29) (by decide) (by decide) ?_
    refine XS.iloadN zo.here hx rfl (hb hby y9_2) rfl ?_
    refine XS.aloadN zo.here hx rfl (hb hby y9_3) rfl rfl ?_
    refine z9q _ ?_
    show Steps p.tables e below (z34.setTop (mkF m 7 #[.val (.ref z0), .val (.int 0), .val (.int 4)] [(.ref z1), (.int 4)])) _
    refine z1i.arraylength hx (by rw [z4n]; exact z4o.1) (State.isArrayOf_alike hZ.alike z4o.2.1) (g := (mkF m 7 #[.val (.ref z0), .val (.int 0), .val (.int 4)] [(.ref z1), (.int 4)])) rfl rfl (hb hby y9_7) _ ?_
    rw [len_of z9r z9s]
    show Steps p.tables e below (z34.setTop (mkF m 8 #[.val (.ref z0), .val (.int 0), .val (.int 4)] [(.int 16), (.int 4)])) _
    refine XS.icmpNo z1i.here hx rfl (hb hby y9_8) rfl (tlt (by decide : (4 : Int32) < (16 : Int32))).2.1 ?_
    show Steps p.tables e below (z34.setTop (mkF m 11 #[.val (.ref z0), .val (.int 0), .val (.int 4)] [])) _
    refine XS.aloadN z1i.here hx rfl (hb hby y9_11) rfl rfl ?_
    refine z9v _ ?_
    show Steps p.tables e below (z9t.setTop (mkF m 15 #[.val (.ref z0), .val (.int 0), .val (.int 4)] [(.ref z1)])) _
    refine XS.aloadN z4p.here hx rfl (hb hby y9_15) rfl rfl ?_
    refine z9w _ ?_
    show Steps p.tables e below (z1j.setTop (mkF m 19 #[.val (.ref z0), .val (.int 0), .val (.int 4)] [(.ref z1), (.ref z1)])) _
    refine z9.arraylength hx (by rw [z4q]; exact z4r.1) (State.isArrayOf_alike hZ.alike z4r.2.1) (g := (mkF m 19 #[.val (.ref z0), .val (.int 0), .val (.int 4)] [(.ref z1), (.ref z1)])) rfl rfl (hb hby y9_19) _ ?_
    rw [len_of z9x z9y]
    show Steps p.tables e below (z1j.setTop (mkF m 20 #[.val (.ref z0), .val (.int 0), .val (.int 4)] [(.int 16), (.ref z1)])) _
    refine XS.iconst z9.here hx rfl (hb hby y9_20) ?_
    refine XS.isub z9.here hx rfl (hb hby y9_21) rfl ?_
    show Steps p.tables e below (z1j.setTop (mkF m 22 #[.val (.ref z0), .val (.int 0), .val (.int 4)] [(.int 15), (.ref z1)])) _
    refine XS.iloadN z9.here hx rfl (hb hby y9_22) rfl ?_
    refine XS.isub z9.here hx rfl (hb hby y9_23) rfl ?_
    show Steps p.tables e below (z1j.setTop (mkF m 24 #[.val (.ref z0), .val (.int 0), .val (.int 4)] [(.int 11), (.ref z1)])) _
    refine XS.iloadN z9.here hx rfl (hb hby y9_24) rfl ?_
    refine za7 _ ?_
    show Steps p.tables e below (z4u.setTop (mkF m 26 #[.val (.ref z0), .val (.int 0), .val (.int 4)] [])) _
    refine XS.iinc zp.here hx rfl (hb hby y9_26) rfl (l' := #[.val (.ref z0), .val (.int 0), .val (.int 5)]) rfl ?_
    show Steps p.tables e below (z4u.setTop (mkF m 29 #[.val (.ref z0), .val (.int 0), .val (.int 5)] [])) _
    refine XS.goto zp.here hx rfl (pc0 := 29) (pc' := 2) rfl (hb hby y9_29) (by decide) (by decide) ?_
    refine XS.iloadN zp.here hx rfl (hb hby y9_2) rfl ?_
    refine XS.aloadN zp.here hx rfl (hb hby y9_3) rfl rfl ?_
    refine zab _ ?_
    show Steps p.tables e below (z36.setTop (mkF m 7 #[.val (.ref z0), .val (.int 0), .val (.int 5)] [(.ref z1), (.int 5)])) _
    refine z1m.arraylength hx (by rw [z4v]; exact z4w.1) (State.isArrayOf_alike hZ.alike z4w.2.1) (g := (mkF m 7 #[.val (.ref z0), .val (.int 0), .val (.int 5)] [(.ref z1), (.int 5)])) rfl rfl (hb hby y9_7) _ ?_
    rw [len_of zac zad]
    show Steps p.tables e below (z36.setTop (mkF m 8 #[.val (.ref z0), .val (.int 0), .val (.int 5)] [(.int 16), (.int 5)])) _
    refine XS.icmpNo z1m.here hx rfl (hb hby y9_8) rfl (tlt (by decide : (5 : Int32) < (16 : Int32))).2.1 ?_
    show Steps p.tables e below (z36.setTop (mkF m 11 #[.val (.ref z0), .val (.int 0), .val (.int 5)] [])) _
    refine XS.aloadN z1m.here hx rfl (hb hby y9_11) rfl rfl ?_
    refine zag _ ?_
    show Steps p.tables e below (zae.setTop (mkF m 15 #[.val (.ref z0), .val (.int 0), .val (.int 5)] [(.ref z1)])) _
    refine XS.aloadN z4x.here hx rfl (hb hby y9_15) rfl rfl ?_
    refine zah _ ?_
    show Steps p.tables e below (z1n.setTop (mkF m 19 #[.val (.ref z0), .val (.int 0), .val (.int 5)] [(.ref z1), (.ref z1)])) _
    refine za.arraylength hx (by rw [z4y]; exact z4z.1) (State.isArrayOf_alike hZ.alike z4z.2.1) (g := (mkF m 19 #[.val (.ref z0), .val (.int 0), .val (.int 5)] [(.ref z1), (.ref z1)])) rfl rfl (hb hby y9_19) _ ?_
    rw [len_of zai zaj]
    show Steps p.tables e below (z1n.setTop (mkF m 20 #[.val (.ref z0), .val (.int 0), .val (.int 5)] [(.int 16), (.ref z1)])) _
    refine XS.iconst za.here hx rfl (hb hby y9_20) ?_
    refine XS.isub za.here hx rfl (hb hby y9_21) rfl ?_
    show Steps p.tables e below (z1n.setTop (mkF m 22 #[.val (.ref z0), .val (.int 0), .val (.int 5)] [(.int 15), (.ref z1)])) _
    refine XS.iloadN za.here hx rfl (hb hby y9_22) rfl ?_
    refine XS.isub za.here hx rfl (hb hby y9_23) rfl ?_
    show Steps p.tables e below (z1n.setTop (mkF m 24 #[.val (.ref z0), .val (.int 0), .val (.int 5)] [(.int 10), (.ref z1)])) _
    refine XS.iloadN za.here hx rfl (hb hby y9_24) rfl ?_
    refine zas _ ?_
    show Steps p.tables e below (z52.setTop (mkF m 26 #[.val (.ref z0), .val (.int 0), .val (.int 5)] [])) _
    refine XS.iinc zq.here hx rfl (hb hby y9_26) rfl (l' := #[.val (.ref z0), .val (.int 0), .val (.int 6)]) rfl ?_
    show Steps p.tables e below (z52.setTop (mkF m 29 #[.val (.ref z0), .val (.int 0), .val (.int 6)] [])) _
    refine XS.goto zq.here hx rfl (pc0 := 29) (pc' := 2) rfl (hb hby y9_29) (by decide) (by decide) ?_
    refine XS.iloadN zq.here hx rfl (hb hby y9_2) rfl ?_
    refine XS.aloadN zq.here hx rfl (hb hby y9_3) rfl rfl ?_
    refine zaw _ ?_
    show Steps p.tables e below (z38.setTop (mkF m 7 #[.val (.ref z0), .val (.int 0), .val (.int 6)] [(.ref z1), (.int 6)])) _
    refine z1q.arraylength hx (by rw [z53]; exact z54.1) (State.isArrayOf_alike hZ.alike z54.2.1) (g := (mkF m 7 #[.val (.ref z0), .val (.int 0), .val (.int 6)] [(.ref z1), (.int 6)])) rfl rfl (hb hby y9_7) _ ?_
    rw [len_of zax zay]
    show Steps p.tables e below (z38.setTop (mkF m 8 #[.val (.ref z0), .val (.int 0), .val (.int 6)] [(.int 16), (.int 6)])) _
    refine XS.icmpNo z1q.here hx rfl (hb hby y9_8) rfl (tlt (by decide : (6 : Int32) < (16 : Int32))).2.1 ?_
    show Steps p.tables e below (z38.setTop (mkF m 11 #[.val (.ref z0), .val (.int 0), .val (.int 6)] [])) _
    refine XS.aloadN z1q.here hx rfl (hb hby y9_11) rfl rfl ?_
    refine zb1 _ ?_
    show Steps p.tables e below (zaz.setTop (mkF m 15 #[.val (.ref z0), .val (.int 0), .val (.int 6)] [(.ref z1)])) _
    refine XS.aloadN z55.here hx rfl (hb hby y9_15) rfl rfl ?_
    refine zb2 _ ?_
    show Steps p.tables e below (z1r.setTop (mkF m 19 #[.val (.ref z0), .val (.int 0), .val (.int 6)] [(.ref z1), (.ref z1)])) _
    refine zb.arraylength hx (by rw [z56]; exact z57.1) (State.isArrayOf_alike hZ.alike z57.2.1) (g := (mkF m 19 #[.val (.ref z0), .val (.int 0), .val (.int 6)] [(.ref z1), (.ref z1)])) rfl rfl (hb hby y9_19) _ ?_
    rw [len_of zb3 zb4]
    show Steps p.tables e below (z1r.setTop (mkF m 20 #[.val (.ref z0), .val (.int 0), .val (.int 6)] [(.int 16), (.ref z1)])) _
    refine XS.iconst zb.here hx rfl (hb hby y9_20) ?_
    refine XS.isub zb.here hx rfl (hb hby y9_21) rfl ?_
    show Steps p.tables e below (z1r.setTop (mkF m 22 #[.val (.ref z0), .val (.int 0), .val (.int 6)] [(.int 15), (.ref z1)])) _
    refine XS.iloadN zb.here hx rfl (hb hby y9_22) rfl ?_
    refine XS.isub zb.here hx rfl (hb hby y9_23) rfl ?_
    show Steps p.tables e below (z1r.setTop (mkF m 24 #[.val (.ref z0), .val (.int 0), .val (.int 6)] [(.int 9), (.ref z1)])) _
    refine XS.iloadN zb.here hx rfl (hb hby y9_24) rfl ?_
    refine zbd _ ?_
    show Steps p.tables e below (z5a.setTop (mkF m 26 #[.val (.ref z0), .val (.int 0), .val (.int 6)] [])) _
    refine XS.iinc zr.here hx rfl (hb hby y9_26) rfl (l' := #[.val (.ref z0), .val (.int 0), .val (.int 7)]) rfl ?_
    show Steps p.tables e below (z5a.setTop (mkF m 29 #[.val (.ref z0), .val (.int 0), .val (.int 7)] [])) _
    refine XS.goto zr.here hx rfl (pc0 := 29) (pc' := 2) rfl (hb hby y9_29) (by decide) (by decide) ?_
    refine XS.iloadN zr.here hx rfl (hb hby y9_2) rfl ?_
    refine XS.aloadN zr.here hx rfl (hb hby y9_3) rfl rfl ?_
    refine zbh _ ?_
    show Steps p.tables e below (z3a.setTop (mkF m 7 #[.val (.ref z0), .val (.int 0), .val (.int 7)] [(.ref z1), (.int 7)])) _
    refine z1u.arraylength hx (by rw [z5b]; exact z5c.1) (State.isArrayOf_alike hZ.alike z5c.2.1) (g := (mkF m 7 #[.val (.ref z0), .val (.int 0), .val (.int 7)] [(.ref z1), (.int 7)])) rfl rfl (hb hby y9_7) _ ?_
    rw [len_of zbi zbj]
    show Steps p.tables e below (z3a.setTop (mkF m 8 #[.val (.ref z0), .val (.int 0), .val (.int 7)] [(.int 16), (.int 7)])) _
    refine XS.icmpNo z1u.here hx rfl (hb hby y9_8) rfl (tlt (by decide : (7 : Int32) < (16 : Int32))).2.1 ?_
    show Steps p.tables e below (z3a.setTop (mkF m 11 #[.val (.ref z0), .val (.int 0), .val (.int 7)] [])) _
    refine XS.aloadN z1u.here hx rfl (hb hby y9_11) rfl rfl ?_
    refine zbm _ ?_
    show Steps p.tables e below (zbk.setTop (mkF m 15 #[.val (.ref z0), .val (.int 0), .val (.int 7)] [(.ref z1)])) _
    refine XS.aloadN z5d.here hx rfl (hb hby y9_15) rfl rfl ?_
    refine zbn _ ?_
    show Steps p.tables e below (z1v.setTop (mkF m 19 #[.val (.ref z0), .val (.int 0), .val (.int 7)] [(.ref z1), (.ref z1)])) _
    refine zc.arraylength hx (by rw [z5e]; exact z5f.1) (State.isArrayOf_alike hZ.alike z5f.2.1) (g := (mkF m 19 #[.val (.ref z0), .val (.int 0), .val (.int 7)] [(.ref z1), (.ref z1)])) rfl rfl (hb hby y9_19) _ ?_
    rw [len_of zbo zbp]
    show Steps p.tables e below (z1v.setTop (mkF m 20 #[.val (.ref z0), .val (.int 0), .val (.int 7)] [(.int 16), (.ref z1)])) _
    refine XS.iconst zc.here hx rfl (hb hby y9_20) ?_
    refine XS.isub zc.here hx rfl (hb hby y9_21) rfl ?_
    show Steps p.tables e below (z1v.setTop (mkF m 22 #[.val (.ref z0), .val (.int 0), .val (.int 7)] [(.int 15), (.ref z1)])) _
    refine XS.iloadN zc.here hx rfl (hb hby y9_22) rfl ?_
    refine XS.isub zc.here hx rfl (hb hby y9_23) rfl ?_
    show Steps p.tables e below (z1v.setTop (mkF m 24 #[.val (.ref z0), .val (.int 0), .val (.int 7)] [(.int 8), (.ref z1)])) _
    refine XS.iloadN zc.here hx rfl (hb hby y9_24) rfl ?_
    refine zby _ ?_
    show Steps p.tables e below (z5i.setTop (mkF m 26 #[.val (.ref z0), .val (.int 0), .val (.int 7)] [])) _
    refine XS.iinc zs.here hx rfl (hb hby y9_26) rfl (l' := #[.val (.ref z0), .val (.int 0), .val (.int 8)]) rfl ?_
    show Steps p.tables e below (z5i.setTop (mkF m 29 #[.val (.ref z0), .val (.int 0), .val (.int 8)] [])) _
    refine XS.goto zs.here hx rfl (pc0 := 29) (pc' := 2) rfl (hb hby y9_29) (by decide) (by decide) ?_
    refine XS.iloadN zs.here hx rfl (hb hby y9_2) rfl ?_
    refine XS.aloadN zs.here hx rfl (hb hby y9_3) rfl rfl ?_
    refine zc2 _ ?_
    show Steps p.tables e below (z3c.setTop (mkF m 7 #[.val (.ref z0), .val (.int 0), .val (.int 8)] [(.ref z1), (.int 8)])) _
    refine z1y.arraylength hx (by rw [z5j]; exact z5k.1) (State.isArrayOf_alike hZ.alike z5k.2.1) (g := (mkF m 7 #[.val (.ref z0), .val (.int 0), .val (.int 8)] [(.ref z1), (.int 8)])) rfl rfl (hb hby y9_7) _ ?_
    rw [len_of zc3 zc4]
    show Steps p.tables e below (z3c.setTop (mkF m 8 #[.val (.ref z0), .val (.int 0), .val (.int 8)] [(.int 16), (.int 8)])) _
    refine XS.icmpNo z1y.here hx rfl (hb hby y9_8) rfl (tlt (by decide : (8 : Int32) < (16 : Int32))).2.1 ?_
    show Steps p.tables e below (z3c.setTop (mkF m 11 #[.val (.ref z0), .val (.int 0), .val (.int 8)] [])) _
    refine XS.aloadN z1y.here hx rfl (hb hby y9_11) rfl rfl ?_
    refine zc7 _ ?_
    show Steps p.tables e below (zc5.setTop (mkF m 15 #[.val (.ref z0), .val (.int 0), .val (.int 8)] [(.ref z1)])) _
    refine XS.aloadN z5l.here hx rfl (hb hby y9_15) rfl rfl ?_
    refine zc8 _ ?_
    show Steps p.tables e below (z1z.setTop (mkF m 19 #[.val (.ref z0), .val (.int 0), .val (.int 8)] [(.ref z1), (.ref z1)])) _
    refine zd.arraylength hx (by rw [z5m]; exact z5n.1) (State.isArrayOf_alike hZ.alike z5n.2.1) (g := (mkF m 19 #[.val (.ref z0), .val (.int 0), .val (.int 8)] [(.ref z1), (.ref z1)])) rfl rfl (hb hby y9_19) _ ?_
    rw [len_of zc9 zca]
    show Steps p.tables e below (z1z.setTop (mkF m 20 #[.val (.ref z0), .val (.int 0), .val (.int 8)] [(.int 16), (.ref z1)])) _
    refine XS.iconst zd.here hx rfl (hb hby y9_20) ?_
    refine XS.isub zd.here hx rfl (hb hby y9_21) rfl ?_
    show Steps p.tables e below (z1z.setTop (mkF m 22 #[.val (.ref z0), .val (.int 0), .val (.int 8)] [(.int 15), (.ref z1)])) _
    refine XS.iloadN zd.here hx rfl (hb hby y9_22) rfl ?_
    refine XS.isub zd.here hx rfl (hb hby y9_23) rfl ?_
    show Steps p.tables e below (z1z.setTop (mkF m 24 #[.val (.ref z0), .val (.int 0), .val (.int 8)] [(.int 7), (.ref z1)])) _
    refine XS.iloadN zd.here hx rfl (hb hby y9_24) rfl ?_
    refine zcj _ ?_
    show Steps p.tables e below (z5q.setTop (mkF m 26 #[.val (.ref z0), .val (.int 0), .val (.int 8)] [])) _
    refine XS.iinc zt.here hx rfl (hb hby y9_26) rfl (l' := #[.val (.ref z0), .val (.int 0), .val (.int 9)]) rfl ?_
    show Steps p.tables e below (z5q.setTop (mkF m 29 #[.val (.ref z0), .val (.int 0), .val (.int 9)] [])) _
    refine XS.goto zt.here hx rfl (pc0 := 29) (pc' := 2) rfl (hb hby y9_29) (by decide) (by decide) ?_
    refine XS.iloadN zt.here hx rfl (hb hby y9_2) rfl ?_
    refine XS.aloadN zt.here hx rfl (hb hby y9_3) rfl rfl ?_
    refine zcn _ ?_
    show Steps p.tables e below (z3e.setTop (mkF m 7 #[.val (.ref z0), .val (.int 0), .val (.int 9)] [(.ref z1), (.int 9)])) _
    refine z22.arraylength hx (by rw [z5r]; exact z5s.1) (State.isArrayOf_alike hZ.alike z5s.2.1) (g := (mkF m 7 #[.val (.ref z0), .val (.int 0), .val (.int 9)] [(.ref z1), (.int 9)])) rfl rfl (hb hby y9_7) _ ?_
    rw [len_of zco zcp]
    show Steps p.tables e below (z3e.setTop (mkF m 8 #[.val (.ref z0), .val (.int 0), .val (.int 9)] [(.int 16), (.int 9)])) _
    refine XS.icmpNo z22.here hx rfl (hb hby y9_8) rfl (tlt (by decide : (9 : Int32) < (16 : Int32))).2.1 ?_
    show Steps p.tables e below (z3e.setTop (mkF m 11 #[.val (.ref z0), .val (.int 0), .val (.int 9)] [])) _
    refine XS.aloadN z22.here hx rfl (hb hby y9_11) rfl rfl ?_
    refine zcs _ ?_
    show Steps p.tables e below (zcq.setTop (mkF m 15 #[.val (.ref z0), .val (.int 0), .val (.int 9)] [(.ref z1)])) _
    refine XS.aloadN z5t.here hx rfl (hb hby y9_15) rfl rfl ?_
    refine zct _ ?_
    show Steps p.tables e below (z23.setTop (mkF m 19 #[.val (.ref z0), .val (.int 0), .val (.int 9)] [(.ref z1), (.ref z1)])) _
    refine ze.arraylength hx (by rw [z5u]; exact z5v.1) (State.isArrayOf_alike hZ.alike z5v.2.1) (g := (mkF m 19 #[.val (.ref z0), .val (.int 0), .val (.int 9)] [(.ref z1), (.ref z1)])) rfl rfl (hb hby y9_19) _ ?_
    rw [len_of zcu zcv]
    show Steps p.tables e below (z23.setTop (mkF m 20 #[.val (.ref z0), .val (.int 0), .val (.int 9)] [(.int 16), (.ref z1)])) _
    refine XS.iconst ze.here hx rfl (hb hby y9_20) ?_
    refine XS.isub ze.here hx rfl (hb hby y9_21) rfl ?_
    show Steps p.tables e below (z23.setTop (mkF m 22 #[.val (.ref z0), .val (.int 0), .val (.int 9)] [(.int 15), (.ref z1)])) _
    refine XS.iloadN ze.here hx rfl (hb hby y9_22) rfl ?_
    refine XS.isub ze.here hx rfl (hb hby y9_23) rfl ?_
    show Steps p.tables e below (z23.setTop (mkF m 24 #[.val (.ref z0), .val (.int 0), .val (.int 9)] [(.int 6), (.ref z1)])) _
    refine XS.iloadN ze.here hx rfl (hb hby y9_24) rfl ?_
    refine zd4 _ ?_
    show Steps p.tables e below (z5y.setTop (mkF m 26 #[.val (.ref z0), .val (.int 0), .val (.int 9)] [])) _
    refine XS.iinc zu.here hx rfl (hb hby y9_26) rfl (l' := #[.val (.ref z0), .val (.int 0), .val (.int 10)]) rfl ?_
    show Steps p.tables e below (z5y.setTop (mkF m 29 #[.val (.ref z0), .val (.int 0), .val (.int 10)] [])) _
    refine XS.goto zu.here hx rfl (pc0 := 29) (pc' := 2) rfl (hb hby y9_29) (by decide) (by decide) ?_
    refine XS.iloadN zu.here hx rfl (hb hby y9_2) rfl ?_
    refine XS.aloadN zu.here hx rfl (hb hby y9_3) rfl rfl ?_
    refine zd8 _ ?_
    show Steps p.tables e below (z3g.setTop (mkF m 7 #[.val (.ref z0), .val (.int 0), .val (.int 10)] [(.ref z1), (.int 10)])) _
    refine z26.arraylength hx (by rw [z5z]; exact z60.1) (State.isArrayOf_alike hZ.alike z60.2.1) (g := (mkF m 7 #[.val (.ref z0), .val (.int 0), .val (.int 10)] [(.ref z1), (.int 10)])) rfl rfl (hb hby y9_7) _ ?_
    rw [len_of zd9 zda]
    show Steps p.tables e below (z3g.setTop (mkF m 8 #[.val (.ref z0), .val (.int 0), .val (.int 10)] [(.int 16), (.int 10)])) _
    refine XS.icmpNo z26.here hx rfl (hb hby y9_8) rfl (tlt (by decide : (10 : Int32) < (16 : Int32))).2.1 ?_
    show Steps p.tables e below (z3g.setTop (mkF m 11 #[.val (.ref z0), .val (.int 0), .val (.int 10)] [])) _
    refine XS.aloadN z26.here hx rfl (hb hby y9_11) rfl rfl ?_
    refine zdd _ ?_
    show Steps p.tables e below (zdb.setTop (mkF m 15 #[.val (.ref z0), .val (.int 0), .val (.int 10)] [(.ref z1)])) _
    refine XS.aloadN z61.here hx rfl (hb hby y9_15) rfl rfl ?_
    refine zde _ ?_
    show Steps p.tables e below (z27.setTop (mkF m 19 #[.val (.ref z0), .val (.int 0), .val (.int 10)] [(.ref z1), (.ref z1)])) _
    refine zf.arraylength hx (by rw [z62]; exact z63.1) (State.isArrayOf_alike hZ.alike z63.2.1) (g := (mkF m 19 #[.val (.ref z0), .val (.int 0), .val (.int 10)] [(.ref z1), (.ref z1)])) rfl rfl (hb hby y9_19) _ ?_
    rw [len_of zdf zdg]
    show Steps p.tables e below (z27.setTop (mkF m 20 #[.val (.ref z0), .val (.int 0), .val (.int 10)] [(.int 16), (.ref z1)])) _
    refine XS.iconst zf.here hx rfl (hb hby y9_20) ?_
    refine XS.isub zf.here hx rfl (hb hby y9_21) rfl ?_
    show Steps p.tables e below (z27.setTop (mkF m 22 #[.val (.ref z0), .val (.int 0), .val (.int 10)] [(.int 15), (.ref z1)])) _
    refine XS.iloadN zf.here hx rfl (hb hby y9_22) rfl ?_
    refine XS.isub zf.here hx rfl (hb hby y9_23) rfl ?_
    show Steps p.tables e below (z27.setTop (mkF m 24 #[.val (.ref z0), .val (.int 0), .val (.int 10)] [(.int 5), (.ref z1)])) _
    refine XS.iloadN zf.here hx rfl (hb hby y9_24) rfl ?_
    refine zdp _ ?_
    show Steps p.tables e below (z66.setTop (mkF m 26 #[.val (.ref z0), .val (.int 0), .val (.int 10)] [])) _
    refine XS.iinc zv.here hx rfl (hb hby y9_26) rfl (l' := #[.val (.ref z0), .val (.int 0), .val (.int 11)]) rfl ?_
    show Steps p.tables e below (z66.setTop (mkF m 29 #[.val (.ref z0), .val (.int 0), .val (.int 11)] [])) _
    refine XS.goto zv.here hx rfl (pc0 := 29) (pc' := 2) rfl (hb hby y9_29) (by decide) (by decide) ?_
    refine XS.iloadN zv.here hx rfl (hb hby y9_2) rfl ?_
    refine XS.aloadN zv.here hx rfl (hb hby y9_3) rfl rfl ?_
    refine zdt _ ?_
    show Steps p.tables e below (z3i.setTop (mkF m 7 #[.val (.ref z0), .val (.int 0), .val (.int 11)] [(.ref z1), (.int 11)])) _
    refine z2a.arraylength hx (by rw [z67]; exact z68.1) (State.isArrayOf_alike hZ.alike z68.2.1) (g := (mkF m 7 #[.val (.ref z0), .val (.int 0), .val (.int 11)] [(.ref z1), (.int 11)])) rfl rfl (hb hby y9_7) _ ?_
    rw [len_of zdu zdv]
    show Steps p.tables e below (z3i.setTop (mkF m 8 #[.val (.ref z0), .val (.int 0), .val (.int 11)] [(.int 16), (.int 11)])) _
    refine XS.icmpNo z2a.here hx rfl (hb hby y9_8) rfl (tlt (by decide : (11 : Int32) < (16 : Int32))).2.1 ?_
    show Steps p.tables e below (z3i.setTop (mkF m 11 #[.val (.ref z0), .val (.int 0), .val (.int 11)] [])) _
    refine XS.aloadN z2a.here hx rfl (hb hby y9_11) rfl rfl ?_
    refine zdy _ ?_
    show Steps p.tables e below (zdw.setTop (mkF m 15 #[.val (.ref z0), .val (.int 0), .val (.int 11)] [(.ref z1)])) _
    refine XS.aloadN z69.here hx rfl (hb hby y9_15) rfl rfl ?_
    refine zdz _ ?_
    show Steps p.tables e below (z2b.setTop (mkF m 19 #[.val (.ref z0), .val (.int 0), .val (.int 11)] [(.ref z1), (.ref z1)])) _
    refine zg.arraylength hx (by rw [z6a]; exact z6b.1) (State.isArrayOf_alike hZ.alike z6b.2.1) (g := (mkF m 19 #[.val (.ref z0), .val (.int 0), .val (.int 11)] [(.ref z1), (.ref z1)])) rfl rfl (hb hby y9_19) _ ?_
    rw [len_of ze0 ze1]
    show Steps p.tables e below (z2b.setTop (mkF m 20 #[.val (.ref z0), .val (.int 0), .val (.int 11)] [(.int 16), (.ref z1)])) _
    refine XS.iconst zg.here hx rfl (hb hby y9_20) ?_
    refine XS.isub zg.here hx rfl (hb hby y9_21) rfl ?_
    show Steps p.tables e below (z2b.setTop (mkF m 22 #[.val (.ref z0), .val (.int 0), .val (.int 11)] [(.int 15), (.ref z1)])) _
    refine XS.iloadN zg.here hx rfl (hb hby y9_22) rfl ?_
    refine XS.isub zg.here hx rfl (hb hby y9_23) rfl ?_
    show Steps p.tables e below (z2b.setTop (mkF m 24 #[.val (.ref z0), .val (.int 0), .val (.int 11)] [(.int 4), (.ref z1)])) _
    refine XS.iloadN zg.here hx rfl (hb hby y9_24) rfl ?_
    refine zea _ ?_
    show Steps p.tables e below (z6e.setTop (mkF m 26 #[.val (.ref z0), .val (.int 0), .val (.int 11)] [])) _
    refine XS.iinc zw.here hx rfl (hb hby y9_26) rfl (l' := #[.val (.ref z0), .val (.int 0), .val (.int 12)]) rfl ?_
    show Steps p.tables e below (z6e.setTop (mkF m 29 #[.val (.ref z0), .val (.int 0), .val (.int 12)] [])) _
    refine XS.goto zw.here hx rfl (pc0 := 29) (pc' := 2) rfl (hb hby y9_29) (by decide) (by decide) ?_
    refine XS.iloadN zw.here hx rfl (hb hby y9_2) rfl ?_
    refine XS.aloadN zw.here hx rfl (hb hby y9_3) rfl rfl ?_
    refine zee _ ?_
    show Steps p.tables e below (z3k.setTop (mkF m 7 #[.val (.ref z0), .val (.int 0), .val (.int 12)] [(.ref z1), (.int 12)])) _
    refine z2e.arraylength hx (by rw [z6f]; exact z6g.1) (State.isArrayOf_alike hZ.alike z6g.2.1) (g := (mkF m 7 #[.val (.ref z0), .val (.int 0), .val (.int 12)] [(.ref z1), (.int 12)])) rfl rfl (hb hby y9_7) _ ?_
    rw [len_of zef zeg]
    show Steps p.tables e below (z3k.setTop (mkF m 8 #[.val (.ref z0), .val (.int 0), .val (.int 12)] [(.int 16), (.int 12)])) _
    refine XS.icmpNo z2e.here hx rfl (hb hby y9_8) rfl (tlt (by decide : (12 : Int32) < (16 : Int32))).2.1 ?_
    show Steps p.tables e below (z3k.setTop (mkF m 11 #[.val (.ref z0), .val (.int 0), .val (.int 12)] [])) _
    refine XS.aloadN z2e.here hx rfl (hb hby y9_11) rfl rfl ?_
    refine zej _ ?_
    show Steps p.tables e below (zeh.setTop (mkF m 15 #[.val (.ref z0), .val (.int 0), .val (.int 12)] [(.ref z1)])) _
    refine XS.aloadN z6h.here hx rfl (hb hby y9_15) rfl rfl ?_
    refine zek _ ?_
    show Steps p.tables e below (z2f.setTop (mkF m 19 #[.val (.ref z0), .val (.int 0), .val (.int 12)] [(.ref z1), (.ref z1)])) _
    refine zh.arraylength hx (by rw [z6i]; exact z6j.1) (State.isArrayOf_alike hZ.alike z6j.2.1) (g := (mkF m 19 #[.val (.ref z0), .val (.int 0), .val (.int 12)] [(.ref z1), (.ref z1)])) rfl rfl (hb hby y9_19) _ ?_
    rw [len_of zel zem]
    show Steps p.tables e below (z2f.setTop (mkF m 20 #[.val (.ref z0), .val (.int 0), .val (.int 12)] [(.int 16), (.ref z1)])) _
    refine XS.iconst zh.here hx rfl (hb hby y9_20) ?_
    refine XS.isub zh.here hx rfl (hb hby y9_21) rfl ?_
    show Steps p.tables e below (z2f.setTop (mkF m 22 #[.val (.ref z0), .val (.int 0), .val (.int 12)] [(.int 15), (.ref z1)])) _
    refine XS.iloadN zh.here hx rfl (hb hby y9_22) rfl ?_
    refine XS.isub zh.here hx rfl (hb hby y9_23) rfl ?_
    show Steps p.tables e below (z2f.setTop (mkF m 24 #[.val (.ref z0), .val (.int 0), .val (.int 12)] [(.int 3), (.ref z1)])) _
    refine XS.iloadN zh.here hx rfl (hb hby y9_24) rfl ?_
    refine zev _ ?_
    show Steps p.tables e below (z6m.setTop (mkF m 26 #[.val (.ref z0), .val (.int 0), .val (.int 12)] [])) _
    refine XS.iinc zx.here hx rfl (hb hby y9_26) rfl (l' := #[.val (.ref z0), .val (.int 0), .val (.int 13)]) rfl ?_
    show Steps p.tables e below (z6m.setTop (mkF m 29 #[.val (.ref z0), .val (.int 0), .val (.int 13)] [])) _
    refine XS.goto zx.here hx rfl (pc0 := 29) (pc' := 2) rfl (hb hby y9_29) (by decide) (by decide) ?_
    refine XS.iloadN zx.here hx rfl (hb hby y9_2) rfl ?_
    refine XS.aloadN zx.here hx rfl (hb hby y9_3) rfl rfl ?_
    refine zez _ ?_
    show Steps p.tables e below (z3m.setTop (mkF m 7 #[.val (.ref z0), .val (.int 0), .val (.int 13)] [(.ref z1), (.int 13)])) _
    refine z2i.arraylength hx (by rw [z6n]; exact z6o.1) (State.isArrayOf_alike hZ.alike z6o.2.1) (g := (mkF m 7 #[.val (.ref z0), .val (.int 0), .val (.int 13)] [(.ref z1), (.int 13)])) rfl rfl (hb hby y9_7) _ ?_
    rw [len_of zf0 zf1]
    show Steps p.tables e below (z3m.setTop (mkF m 8 #[.val (.ref z0), .val (.int 0), .val (.int 13)] [(.int 16), (.int 13)])) _
    refine XS.icmpNo z2i.here hx rfl (hb hby y9_8) rfl (tlt (by decide : (13 : Int32) < (16 : Int32))).2.1 ?_
    show Steps p.tables e below (z3m.setTop (mkF m 11 #[.val (.ref z0), .val (.int 0), .val (.int 13)] [])) _
    refine XS.aloadN z2i.here hx rfl (hb hby y9_11) rfl rfl ?_
    refine zf4 _ ?_
    show Steps p.tables e below (zf2.setTop (mkF m 15 #[.val (.ref z0), .val (.int 0), .val (.int 13)] [(.ref z1)])) _
    refine XS.aloadN z6p.here hx rfl (hb hby y9_15) rfl rfl ?_
    refine zf5 _ ?_
    show Steps p.tables e below (z2j.setTop (mkF m 19 #[.val (.ref z0), .val (.int 0), .val (.int 13)] [(.ref z1), (.ref z1)])) _
    refine zi.arraylength hx (by rw [z6q]; exact z6r.1) (State.isArrayOf_alike hZ.alike z6r.2.1) (g := (mkF m 19 #[.val (.ref z0), .val (.int 0), .val (.int 13)] [(.ref z1), (.ref z1)])) rfl rfl (hb hby y9_19) _ ?_
    rw [len_of zf6 zf7]
    show Steps p.tables e below (z2j.setTop (mkF m 20 #[.val (.ref z0), .val (.int 0), .val (.int 13)] [(.int 16), (.ref z1)])) _
    refine XS.iconst zi.here hx rfl (hb hby y9_20) ?_
    refine XS.isub zi.here hx rfl (hb hby y9_21) rfl ?_
    show Steps p.tables e below (z2j.setTop (mkF m 22 #[.val (.ref z0), .val (.int 0), .val (.int 13)] [(.int 15), (.ref z1)])) _
    refine XS.iloadN zi.here hx rfl (hb hby y9_22) rfl ?_
    refine XS.isub zi.here hx rfl (hb hby y9_23) rfl ?_
    show Steps p.tables e below (z2j.setTop (mkF m 24 #[.val (.ref z0), .val (.int 0), .val (.int 13)] [(.int 2), (.ref z1)])) _
    refine XS.iloadN zi.here hx rfl (hb hby y9_24) rfl ?_
    refine zfg _ ?_
    show Steps p.tables e below (z6u.setTop (mkF m 26 #[.val (.ref z0), .val (.int 0), .val (.int 13)] [])) _
    refine XS.iinc zy.here hx rfl (hb hby y9_26) rfl (l' := #[.val (.ref z0), .val (.int 0), .val (.int 14)]) rfl ?_
    show Steps p.tables e below (z6u.setTop (mkF m 29 #[.val (.ref z0), .val (.int 0), .val (.int 14)] [])) _
    refine XS.goto zy.here hx rfl (pc0 := 29) (pc' := 2) rfl (hb hby y9_29) (by decide) (by decide) ?_
    refine XS.iloadN zy.here hx rfl (hb hby y9_2) rfl ?_
    refine XS.aloadN zy.here hx rfl (hb hby y9_3) rfl rfl ?_
    refine zfk _ ?_
    show Steps p.tables e below (z3o.setTop (mkF m 7 #[.val (.ref z0), .val (.int 0), .val (.int 14)] [(.ref z1), (.int 14)])) _
    refine z2m.arraylength hx (by rw [z6v]; exact z6w.1) (State.isArrayOf_alike hZ.alike z6w.2.1) (g := (mkF m 7 #[.val (.ref z0), .val (.int 0), .val (.int 14)] [(.ref z1), (.int 14)])) rfl rfl (hb hby y9_7) _ ?_
    rw [len_of zfl zfm]
    show Steps p.tables e below (z3o.setTop (mkF m 8 #[.val (.ref z0), .val (.int 0), .val (.int 14)] [(.int 16), (.int 14)])) _
    refine XS.icmpNo z2m.here hx rfl (hb hby y9_8) rfl (tlt (by decide : (14 : Int32) < (16 : Int32))).2.1 ?_
    show Steps p.tables e below (z3o.setTop (mkF m 11 #[.val (.ref z0), .val (.int 0), .val (.int 14)] [])) _
    refine XS.aloadN z2m.here hx rfl (hb hby y9_11) rfl rfl ?_
    refine zfp _ ?_
    show Steps p.tables e below (zfn.setTop (mkF m 15 #[.val (.ref z0), .val (.int 0), .val (.int 14)] [(.ref z1)])) _
    refine XS.aloadN z6x.here hx rfl (hb hby y9_15) rfl rfl ?_
    refine zfq _ ?_
    show Steps p.tables e below (z2n.setTop (mkF m 19 #[.val (.ref z0), .val (.int 0), .val (.int 14)] [(.ref z1), (.ref z1)])) _
    refine zj.arraylength hx (by rw [z6y]; exact z6z.1) (State.isArrayOf_alike hZ.alike z6z.2.1) (g := (mkF m 19 #[.val (.ref z0), .val (.int 0), .val (.int 14)] [(.ref z1), (.ref z1)])) rfl rfl (hb hby y9_19) _ ?_
    rw [len_of zfr zfs]
    show Steps p.tables e below (z2n.setTop (mkF m 20 #[.val (.ref z0), .val (.int 0), .val (.int 14)] [(.int 16), (.ref z1)])) _
    refine XS.iconst zj.here hx rfl (hb hby y9_20) ?_
    refine XS.isub zj.here hx rfl (hb hby y9_21) rfl ?_
    show Steps p.tables e below (z2n.setTop (mkF m 22 #[.val (.ref z0), .val (.int 0), .val (.int 14)] [(.int 15), (.ref z1)])) _
    refine XS.iloadN zj.here hx rfl (hb hby y9_22) rfl ?_
    refine XS.isub zj.here hx rfl (hb hby y9_23) rfl ?_
    show Steps p.tables e below (z2n.setTop (mkF m 24 #[.val (.ref z0), .val (.int 0), .val (.int 14)] [(.int 1), (.ref z1)])) _
    refine XS.iloadN zj.here hx rfl (hb hby y9_24) rfl ?_
    refine zg1 _ ?_
    show Steps p.tables e below (z72.setTop (mkF m 26 #[.val (.ref z0), .val (.int 0), .val (.int 14)] [])) _
    refine XS.iinc zz.here hx rfl (hb hby y9_26) rfl (l' := #[.val (.ref z0), .val (.int 0), .val (.int 15)]) rfl ?_
    show Steps p.tables e below (z72.setTop (mkF m 29 #[.val (.ref z0), .val (.int 0), .val (.int 15)] [])) _
    refine XS.goto zz.here hx rfl (pc0 := 29) (pc' := 2) rfl (hb hby y9_29) (by decide) (by decide) ?_
    refine XS.iloadN zz.here hx rfl (hb hby y9_2) rfl ?_
    refine XS.aloadN zz.here hx rfl (hb hby y9_3) rfl rfl ?_
    refine zg5 _ ?_
    show Steps p.tables e below (z3q.setTop (mkF m 7 #[.val (.ref z0), .val (.int 0), .val (.int 15)] [(.ref z1), (.int 15)])) _
    refine z2q.arraylength hx (by rw [z73]; exact z74.1) (State.isArrayOf_alike hZ.alike z74.2.1) (g := (mkF m 7 #[.val (.ref z0), .val (.int 0), .val (.int 15)] [(.ref z1), (.int 15)])) rfl rfl (hb hby y9_7) _ ?_
    rw [len_of zg6 zg7]
    show Steps p.tables e below (z3q.setTop (mkF m 8 #[.val (.ref z0), .val (.int 0), .val (.int 15)] [(.int 16), (.int 15)])) _
    refine XS.icmpNo z2q.here hx rfl (hb hby y9_8) rfl (tlt (by decide : (15 : Int32) < (16 : Int32))).2.1 ?_
    show Steps p.tables e below (z3q.setTop (mkF m 11 #[.val (.ref z0), .val (.int 0), .val (.int 15)] [])) _
    refine XS.aloadN z2q.here hx rfl (hb hby y9_11) rfl rfl ?_
    refine zga _ ?_
    show Steps p.tables e below (zg8.setTop (mkF m 15 #[.val (.ref z0), .val (.int 0), .val (.int 15)] [(.ref z1)])) _
    refine XS.aloadN z75.here hx rfl (hb hby y9_15) rfl rfl ?_
    refine zgb _ ?_
    show Steps p.tables e below (z2r.setTop (mkF m 19 #[.val (.ref z0), .val (.int 0), .val (.int 15)] [(.ref z1), (.ref z1)])) _
    refine zk.arraylength hx (by rw [z76]; exact z77.1) (State.isArrayOf_alike hZ.alike z77.2.1) (g := (mkF m 19 #[.val (.ref z0), .val (.int 0), .val (.int 15)] [(.ref z1), (.ref z1)])) rfl rfl (hb hby y9_19) _ ?_
    rw [len_of zgc zgd]
    show Steps p.tables e below (z2r.setTop (mkF m 20 #[.val (.ref z0), .val (.int 0), .val (.int 15)] [(.int 16), (.ref z1)])) _
    refine XS.iconst zk.here hx rfl (hb hby y9_20) ?_
    refine XS.isub zk.here hx rfl (hb hby y9_21) rfl ?_
    show Steps p.tables e below (z2r.setTop (mkF m 22 #[.val (.ref z0), .val (.int 0), .val (.int 15)] [(.int 15), (.ref z1)])) _
    refine XS.iloadN zk.here hx rfl (hb hby y9_22) rfl ?_
    refine XS.isub zk.here hx rfl (hb hby y9_23) rfl ?_
    show Steps p.tables e below (z2r.setTop (mkF m 24 #[.val (.ref z0), .val (.int 0), .val (.int 15)] [(.int 0), (.ref z1)])) _
    refine XS.iloadN zk.here hx rfl (hb hby y9_24) rfl ?_
    refine zgm _ ?_
    show Steps p.tables e below (z7a.setTop (mkF m 26 #[.val (.ref z0), .val (.int 0), .val (.int 15)] [])) _
    refine XS.iinc z10.here hx rfl (hb hby y9_26) rfl (l' := #[.val (.ref z0), .val (.int 0), .val (.int 16)]) rfl ?_
    show Steps p.tables e below (z7a.setTop (mkF m 29 #[.val (.ref z0), .val (.int 0), .val (.int 16)] [])) _
    refine XS.goto z10.here hx rfl (pc0 := 29) (pc' := 2) rfl (hb hby y9_29) (by decide) (by decide) ?_
    refine XS.iloadN z10.here hx rfl (hb hby y9_2) rfl ?_
    refine XS.aloadN z10.here hx rfl (hb hby y9_3) rfl rfl ?_
    refine zgq _ ?_
    show Steps p.tables e below (z2t.setTop (mkF m 7 #[.val (.ref z0), .val (.int 0), .val (.int 16)] [(.ref z1), (.int 16)])) _
    refine z2u.arraylength hx (by rw [z7c]; exact z7d.1) (State.isArrayOf_alike hZ.alike z7d.2.1) (g := (mkF m 7 #[.val (.ref z0), .val (.int 0), .val (.int 16)] [(.ref z1), (.int 16)])) rfl rfl (hb hby y9_7) _ ?_
    rw [len_of zgr zgs]
    show Steps p.tables e below (z2t.setTop (mkF m 8 #[.val (.ref z0), .val (.int 0), .val (.int 16)] [(.int 16), (.int 16)])) _
    refine XS.icmpYes z2u.here hx rfl (pc0 := 8) (pc' := 32) rfl (hb hby y9_8) rfl (flt (by decide : ¬ ((16 : Int32) < (16 : Int32)))).2.1 (by decide) (by decide) ?_
    show Steps p.tables e below (z2t.setTop (mkF m 32 #[.val (.ref z0), .val (.int 0), .val (.int 16)] [])) _
    exact z2u.returnOut hx Bd.returns (hb hby y9_32) hr
  · show Q_rmL4 Z p1 p2 p3 p4 p5 p6 A K z0 z1 z3 h0 n0 _ z2t.heap _
    rw [z7c]
    exact ⟨rfl, zgn, zgo, z7b⟩
def Q_rmL3 (Z : State) (p1 : Int32) (p2 : Int32) (p3 : Int32) (p4 : Int32) (p5 : Int32) (p6 : Int32) (A : Nat → Addr) (K : Nat → ClassId) (z0 : Addr) (h0 : Heap) (n0 : Nat) (v : Option Value) (h : Heap) (L : List Loc) : Prop := ∃ z6 : Addr, ∃ z1 : Addr, ∃ z2 : Addr, ∃ z3 : Addr, ∃ z4 : Addr, ∃ z5 : Addr, ∃ z7 : Addr, ∃ z9 : ClassId, ∃ za : ClassId, ∃ zb : ClassId, ∃ zc : ClassId, ∃ zd : ClassId, ∃ z8 : ClassId, ∃ ze : ClassId, v = none ∧ Fr n0 L ∧ Keep h0 h [z0] ∧ (n0 ≤ z6 ∧ h0.size ≤ z6) ∧ (n0 ≤ z1 ∧ h0.size ≤ z1) ∧ (n0 ≤ z2 ∧ h0.size ≤ z2) ∧ (n0 ≤ z3 ∧ h0.size ≤ z3) ∧ (n0 ≤ z4 ∧ h0.size ≤ z4) ∧ (n0 ≤ z5 ∧ h0.size ≤ z5) ∧ (n0 ≤ z7 ∧ h0.size ≤ z7) ∧ z6 < z1 ∧ z1 < z2 ∧ z2 < z3 ∧ z3 < z4 ∧ z4 < z5 ∧ z5 < z7 ∧ (Exa Z h z0 y_s0) ∧ (Fld Z h z0 y_s0 "at" "[D" (.ref z6)) ∧ (Fld Z h z0 y_s0 "added" "[J" (.ref z1)) ∧ (Fld Z h z0 y_s0 "slot" "[I" (.ref z2)) ∧ (Fld Z h z0 y_s0 "from" "[I" (.ref z3)) ∧ (Fld Z h z0 y_s0 "to" "[I" (.ref z4)) ∧ (Fld Z h z0 y_s0 "message" y_s1 (.ref z5)) ∧ (Fld Z h z0 y_s0 "free" "[I" (.ref z7)) ∧ (Fld Z h z0 y_s0 "size" "I" (.int 0)) ∧ (Fld Z h z0 y_s0 "additions" "J" (.long 0)) ∧ (Arv Z h z6 z9 .double (16 : Int32) [] (.double (Jvm.FP.l2d ((0 : Int32).toInt64)))) ∧ (Arv Z h z1 za .long (16 : Int32) [] (.long 0)) ∧ (Arv Z h z2 zb .int 16 [] (.int 0)) ∧ (Arv Z h z3 zc .int 16 [] (.int 0)) ∧ (Arv Z h z4 zd .int 16 [] (.int 0)) ∧ (Arv Z h z5 z8 (.object y_s3) (16 : Int32) [] .null) ∧ (Ovr Z z8 y_s3) ∧ (Arv Z h z7 ze .int 16 [(.int 15), (.int 14), (.int 13), (.int 12), (.int 11), (.int 10), (.int 9), (.int 8), (.int 7), (.int 6), (.int 5), (.int 4), (.int 3), (.int 2), (.int 1), (.int 0)] (.int 0))
theorem ya_0 : decode prog_48_method_1_code 0 = .ok (.aload_n 0, 1) := by decide +kernel
theorem ya_1 : decode prog_48_method_1_code 1 = .ok (.invokespecial 3, 3) := by decide +kernel
theorem ya_4 : decode prog_48_method_1_code 4 = .ok (.aload_n 0, 1) := by decide +kernel
theorem ya_5 : decode prog_48_method_1_code 5 = .ok (.bipush 16, 2) := by decide +kernel
theorem ya_7 : decode prog_48_method_1_code 7 = .ok (.newarray .double, 2) := by decide +kernel
theorem ya_9 : decode prog_48_method_1_code 9 = .ok (.putfield 9, 3) := by decide +kernel
theorem ya_12 : decode prog_48_method_1_code 12 = .ok (.aload_n 0, 1) := by decide +kernel
theorem ya_13 : decode prog_48_method_1_code 13 = .ok (.bipush 16, 2) := by decide +kernel
theorem ya_15 : decode prog_48_method_1_code 15 = .ok (.newarray .long, 2) := by decide +kernel
theorem ya_17 : decode prog_48_method_1_code 17 = .ok (.putfield 15, 3) := by decide +kernel
theorem ya_20 : decode prog_48_method_1_code 20 = .ok (.aload_n 0, 1) := by decide +kernel
theorem ya_21 : decode prog_48_method_1_code 21 = .ok (.bipush 16, 2) := by decide +kernel
theorem ya_23 : decode prog_48_method_1_code 23 = .ok (.newarray .int, 2) := by decide +kernel
theorem ya_25 : decode prog_48_method_1_code 25 = .ok (.putfield 19, 3) := by decide +kernel
theorem ya_28 : decode prog_48_method_1_code 28 = .ok (.aload_n 0, 1) := by decide +kernel
theorem ya_29 : decode prog_48_method_1_code 29 = .ok (.bipush 16, 2) := by decide +kernel
theorem ya_31 : decode prog_48_method_1_code 31 = .ok (.newarray .int, 2) := by decide +kernel
theorem ya_33 : decode prog_48_method_1_code 33 = .ok (.putfield 23, 3) := by decide +kernel
theorem ya_36 : decode prog_48_method_1_code 36 = .ok (.aload_n 0, 1) := by decide +kernel
theorem ya_37 : decode prog_48_method_1_code 37 = .ok (.bipush 16, 2) := by decide +kernel
theorem ya_39 : decode prog_48_method_1_code 39 = .ok (.newarray .int, 2) := by decide +kernel
theorem ya_41 : decode prog_48_method_1_code 41 = .ok (.putfield 26, 3) := by decide +kernel
theorem ya_44 : decode prog_48_method_1_code 44 = .ok (.aload_n 0, 1) := by decide +kernel
theorem ya_45 : decode prog_48_method_1_code 45 = .ok (.bipush 16, 2) := by decide +kernel
theorem ya_47 : decode prog_48_method_1_code 47 = .ok (.anewarray 4, 3) := by decide +kernel
theorem ya_50 : decode prog_48_method_1_code 50 = .ok (.putfield 29, 3) := by decide +kernel
theorem ya_53 : decode prog_48_method_1_code 53 = .ok (.aload_n 0, 1) := by decide +kernel
theorem ya_54 : decode prog_48_method_1_code 54 = .ok (.bipush 16, 2) := by decide +kernel
theorem ya_56 : decode prog_48_method_1_code 56 = .ok (.newarray .int, 2) := by decide +kernel
theorem ya_58 : decode prog_48_method_1_code 58 = .ok (.putfield 33, 3) := by decide +kernel
theorem ya_61 : decode prog_48_method_1_code 61 = .ok (.aload_n 0, 1) := by decide +kernel
theorem ya_62 : decode prog_48_method_1_code 62 = .ok (.iconst 0, 1) := by decide +kernel
theorem ya_63 : decode prog_48_method_1_code 63 = .ok (.invokevirtual 36, 3) := by decide +kernel
theorem ya_66 : decode prog_48_method_1_code 66 = .ok (.return_, 1) := by decide +kernel
set_option maxRecDepth 65536 in
set_option maxHeartbeats 40000000 in
theorem rmL3 (l : Launch) (Z : State) (a0 : Array Value) (hw : ∀ d ∈ tables_1, d.before a0 Z = true) (ws : List Jvm.Cond) (h0 : Heap) (n0 : Nat) (p1 : Int32) (p2 : Int32) (p3 : Int32) (p4 : Int32) (p5 : Int32) (p6 : Int32) (A : Nat → Addr) (K : Nat → ClassId)  (z0 : Addr) (EN : own_St Z A K) (OL0 : Old Z n0 h0) (z1i : Exa Z h0 z0 y_s0) (z3v : Fld Z h0 z0 y_s0 "at" "[D" .null) (z3w : Fld Z h0 z0 y_s0 "added" "[J" .null) (z3x : Fld Z h0 z0 y_s0 "slot" "[I" .null) (z3y : Fld Z h0 z0 y_s0 "from" "[I" .null) (z3z : Fld Z h0 z0 y_s0 "to" "[I" .null) (z40 : Fld Z h0 z0 y_s0 "message" y_s1 .null) (z41 : Fld Z h0 z0 y_s0 "free" "[I" .null) (z42 : Fld Z h0 z0 y_s0 "size" "I" (.int 0)) (z43 : Fld Z h0 z0 y_s0 "additions" "J" (.long 0)) (zc : n0 ≤ z0) :
    MetFree l own_m11 (head1 (Jvm.Cond.code own_m11 prog_48_method_1_code 1 none :: ws) (Room.mk 1 7 112 14)) (fun a U => a = #[(.ref z0)] ∧ Z.Warmed39 U.vm ∧ U.heap = h0) (fun _ _ _ _ _ => True) (fun _ U o U' => ∃ v L, o = .returned v ∧ Q_rmL3 Z p1 p2 p3 p4 p5 p6 A K z0 h0 n0 v U'.heap L ∧ FrameEnd U o U' L (Room.mk 1 7 112 14).cells (Room.mk 1 7 112 14).slots) := by
  refine MetFree.of_bodySF (plainFor_of_name own_pn0) hisR ?_
  intro p e s m args below meth c s₁ Bd hml0 hP hK
  obtain ⟨rfl, hZ, hh⟩ := hP
  have hx := Bd.exec
  have hby := Bd.bytes
  have hml : c.maxLocals = 1 := hml0
  have hown : s.vm.findClass y_s0 = some m.cls := findClass_of_methodNamed Bd.named
  have hnm := (name_of_methodNamed Bd.named Bd.method).1
  have X0 : Stand p l e (Room.mk 1 7 112 14) s m #[(.ref z0)] below meth c s₁ [] 0 0 := Stand.of_body Bd
  have e0 : s₁.heap = h0 := by rw [← hh, Bd.state]; rfl
  have N0 := Fr.nil n0
  have pre0 : ∀ t, Steps p.tables e below (s₁.setTop (mkF m 0 #[.val (.ref z0)] [])) t → Steps p.tables e below (s₁.setTop (entryFrame m #[(.ref z0)] 1)) t := fun t k => castTop (by first | (simp [entryFrame, mkF, argsToLocals, Value.category, maxLocals]; done) | rfl) k
  have KK0 : Keep h0 h0 [z0] := Keep.refl _ _
  obtain ⟨z44, z18, z45, z46⟩ := initO X0 hx hZ hown (own_W hw 6 rfl) (own_W hw 7 rfl) (own_W hw 8 rfl) e0 (g := (mkF m 1 #[.val (.ref z0)] [(.ref z0)])) rfl (by rw [hml]; rfl) rfl (hb hby ya_1) (by decide) (W := 0) (by show 2 * 0 + _ ≤ _; exact Nat.le_of_eq rfl) (by decide)
  obtain ⟨z47, z48, z1j, z49, z4a, zn, z1k, z1l⟩ := newP z18 hx hZ (own_W hw 9 rfl) z45 (g := (mkF m 7 #[.val (.ref z0)] [(.int 16), (.ref z0)])) rfl (hb hby ya_7) rfl (by decide) (cap := 16) (by decide) (by decide) (by decide) (by decide)
  obtain ⟨zd, zz⟩ : ∃ z, z = h0.size := ⟨_, rfl⟩
  rw [← zz] at z1k z1l
  have z4b : n0 ≤ zd := Nat.le_trans (OL0.1 ▸ OL0.2.1) (Nat.le_of_eq zz.symm)
  have z4c : h0.size ≤ zd := Nat.le_trans KK0.1 (Nat.le_of_eq zz.symm)
  have zs : z0 < zd := Nat.lt_of_lt_of_le z1i.lt (Nat.le_of_eq zz.symm)
  have z4d := OL0.ext zn
  have z4e := KK0.ext zn
  have z4f : Arv Z z48 zd z1j .double (16 : Int32) [] (.double (Jvm.FP.l2d ((0 : Int32).toInt64))) := own_newD z1k (by decide)
  have z1m := (z3v.ext zn)
  have z1n := (z1i.ext zn)
  obtain ⟨z4g, z1o, z10, z4h, zl, z4i⟩ := putF z49 hx hZ hown (host := "") (Or.inl (own_W hw 10 rfl)) Via.refl z4a z1m z1n (Or.inl (own_W hw 11 rfl)) (own_W hw 1 rfl) (ty := (.array .double)) (by decide) rfl rfl (g := (mkF m 9 #[.val (.ref z0)] [(.ref zd), (.ref z0)])) rfl rfl (hb hby ya_9)
  have z4j := Fr.snoc z10 N0 zc
  have z19 := z4d.wr zl zc
  have z1p := z4e.wr zl (own_Ix 0 rfl)
  have z4k : Fld Z z1o z0 y_s0 "at" "[D" (.ref zd) := z1m.same zl
  obtain ⟨z4l, z4m, z1q, z4n, z4o, zm, z1r, z1s⟩ := newP z10 hx hZ (own_W hw 12 rfl) z4h (g := (mkF m 15 #[.val (.ref z0)] [(.int 16), (.ref z0)])) rfl (hb hby ya_15) rfl (by decide) (cap := 16) (by decide) (by decide) (by decide) (by decide)
  obtain ⟨ze, zw⟩ : ∃ z, z = z1o.size := ⟨_, rfl⟩
  rw [← zw] at z1r z1s
  have z4p : n0 ≤ ze := Nat.le_trans (z19.1 ▸ z19.2.1) (Nat.le_of_eq zw.symm)
  have z4q : h0.size ≤ ze := Nat.le_trans z1p.1 (Nat.le_of_eq zw.symm)
  have z1t := (z1n.wr zl)
  have z1u := (z4f.other zl (Ne.symm (Nat.ne_of_lt zs)))
  have zu : z0 < ze := Nat.lt_of_lt_of_le z1t.lt (Nat.le_of_eq zw.symm)
  have z4r : zd < ze := Nat.lt_of_lt_of_le z1u.lt (Nat.le_of_eq zw.symm)
  have z4s := z19.ext zm
  have z4t := z1p.ext zm
  have z4u : Arv Z z4m ze z1q .long (16 : Int32) [] (.long 0) := Arv.new z1r (by decide)
  have z1v := (((z3w.ext zn).other zl (Or.inr (slot_ne (Or.inl (own_W hw 14 rfl)) (Or.inl (own_W hw 11 rfl)) (by decide) (t := (.array .long)) (t' := (.array .double)) (by decide) (by decide)))).ext zm)
  have z1w := (z1t.ext zm)
  obtain ⟨z4v, z1x, z11, z4w, zf, z4x⟩ := putF z4n hx hZ hown (host := "") (Or.inl (own_W hw 13 rfl)) Via.refl z4o z1v z1w (Or.inl (own_W hw 14 rfl)) (own_W hw 1 rfl) (ty := (.array .long)) (by decide) rfl rfl (g := (mkF m 17 #[.val (.ref z0)] [(.ref ze), (.ref z0)])) rfl rfl (hb hby ya_17)
  have z4y := Fr.snoc z11 z4j zc
  have z1a := z4s.wr zf zc
  have z1y := z4t.wr zf (own_Ix 0 rfl)
  have z4z : Fld Z z1x z0 y_s0 "added" "[J" (.ref ze) := z1v.same zf
  obtain ⟨z50, z51, z1z, z52, z53, zg, z20, z21⟩ := newP z11 hx hZ (own_W hw 15 rfl) z4w (g := (mkF m 23 #[.val (.ref z0)] [(.int 16), (.ref z0)])) rfl (hb hby ya_23) rfl (by decide) (cap := 16) (by decide) (by decide) (by decide) (by decide)
  obtain ⟨zh, zv⟩ : ∃ z, z = z1x.size := ⟨_, rfl⟩
  rw [← zv] at z20 z21
  have z54 : n0 ≤ zh := Nat.le_trans (z1a.1 ▸ z1a.2.1) (Nat.le_of_eq zv.symm)
  have z55 : h0.size ≤ zh := Nat.le_trans z1y.1 (Nat.le_of_eq zv.symm)
  have z22 := (z1w.wr zf)
  have z23 := ((z1u.ext zm).other zf (Ne.symm (Nat.ne_of_lt zs)))
  have z24 := (z4u.other zf (Ne.symm (Nat.ne_of_lt zu)))
  have zx : z0 < zh := Nat.lt_of_lt_of_le z22.lt (Nat.le_of_eq zv.symm)
  have z7r : zd < zh := Nat.lt_of_lt_of_le z23.lt (Nat.le_of_eq zv.symm)
  have z56 : ze < zh := Nat.lt_of_lt_of_le z24.lt (Nat.le_of_eq zv.symm)
  have z57 := z1a.ext zg
  have z58 := z1y.ext zg
  have z59 : Arv Z z51 zh z1z .int 16 [] (.int 0) := Arv.new z20 (by decide)
  have z25 := (((((z3x.ext zn).other zl (Or.inr (slot_ne (Or.inl (own_W hw 17 rfl)) (Or.inl (own_W hw 11 rfl)) (by decide) (t := (.array .int)) (t' := (.array .double)) (by decide) (by decide)))).ext zm).other zf (Or.inr (slot_ne (Or.inl (own_W hw 17 rfl)) (Or.inl (own_W hw 14 rfl)) (by decide) (t := (.array .int)) (t' := (.array .long)) (by decide) (by decide)))).ext zg)
  have z26 := (z22.ext zg)
  obtain ⟨z5a, z27, z12, z5b, z9, z5c⟩ := putF z52 hx hZ hown (host := "") (Or.inl (own_W hw 16 rfl)) Via.refl z53 z25 z26 (Or.inl (own_W hw 17 rfl)) (own_W hw 1 rfl) (ty := (.array .int)) (by decide) rfl rfl (g := (mkF m 25 #[.val (.ref z0)] [(.ref zh), (.ref z0)])) rfl rfl (hb hby ya_25)
  have z5d := Fr.snoc z12 z4y zc
  have z1b := z57.wr z9 zc
  have z28 := z58.wr z9 (own_Ix 0 rfl)
  have z5e : Fld Z z27 z0 y_s0 "slot" "[I" (.ref zh) := z25.same z9
  obtain ⟨z5f, z5g, z29, z5h, z5i, za, z2a, z2b⟩ := newP z12 hx hZ (own_W hw 15 rfl) z5b (g := (mkF m 31 #[.val (.ref z0)] [(.int 16), (.ref z0)])) rfl (hb hby ya_31) rfl (by decide) (cap := 16) (by decide) (by decide) (by decide) (by decide)
  obtain ⟨zi, zt⟩ : ∃ z, z = z27.size := ⟨_, rfl⟩
  rw [← zt] at z2a z2b
  have z5j : n0 ≤ zi := Nat.le_trans (z1b.1 ▸ z1b.2.1) (Nat.le_of_eq zt.symm)
  have z5k : h0.size ≤ zi := Nat.le_trans z28.1 (Nat.le_of_eq zt.symm)
  have z2c := (z26.wr z9)
  have z2d := ((z23.ext zg).other z9 (Ne.symm (Nat.ne_of_lt zs)))
  have z2e := ((z24.ext zg).other z9 (Ne.symm (Nat.ne_of_lt zu)))
  have z2f := (z59.other z9 (Ne.symm (Nat.ne_of_lt zx)))
  have z13 : z0 < zi := Nat.lt_of_lt_of_le z2c.lt (Nat.le_of_eq zt.symm)
  have z7s : zd < zi := Nat.lt_of_lt_of_le z2d.lt (Nat.le_of_eq zt.symm)
  have z7t : ze < zi := Nat.lt_of_lt_of_le z2e.lt (Nat.le_of_eq zt.symm)
  have z5l : zh < zi := Nat.lt_of_lt_of_le z2f.lt (Nat.le_of_eq zt.symm)
  have z5m := z1b.ext za
  have z5n := z28.ext za
  have z5o : Arv Z z5g zi z29 .int 16 [] (.int 0) := Arv.new z2a (by decide)
  have z2g := (((((((z3y.ext zn).other zl (Or.inr (slot_ne (Or.inl (own_W hw 19 rfl)) (Or.inl (own_W hw 11 rfl)) (by decide) (t := (.array .int)) (t' := (.array .double)) (by decide) (by decide)))).ext zm).other zf (Or.inr (slot_ne (Or.inl (own_W hw 19 rfl)) (Or.inl (own_W hw 14 rfl)) (by decide) (t := (.array .int)) (t' := (.array .long)) (by decide) (by decide)))).ext zg).other z9 (Or.inr (slot_ne (Or.inl (own_W hw 19 rfl)) (Or.inl (own_W hw 17 rfl)) (by decide) (t := (.array .int)) (t' := (.array .int)) (by decide) (by decide)))).ext za)
  have z2h := (z2c.ext za)
  obtain ⟨z5p, z2i, z14, z5q, z7, z5r⟩ := putF z5h hx hZ hown (host := "") (Or.inl (own_W hw 18 rfl)) Via.refl z5i z2g z2h (Or.inl (own_W hw 19 rfl)) (own_W hw 1 rfl) (ty := (.array .int)) (by decide) rfl rfl (g := (mkF m 33 #[.val (.ref z0)] [(.ref zi), (.ref z0)])) rfl rfl (hb hby ya_33)
  have z5s := Fr.snoc z14 z5d zc
  have z1c := z5m.wr z7 zc
  have z2j := z5n.wr z7 (own_Ix 0 rfl)
  have z5t : Fld Z z2i z0 y_s0 "from" "[I" (.ref zi) := z2g.same z7
  obtain ⟨z5u, z5v, z2k, z5w, z5x, z8, z2l, z2m⟩ := newP z14 hx hZ (own_W hw 15 rfl) z5q (g := (mkF m 39 #[.val (.ref z0)] [(.int 16), (.ref z0)])) rfl (hb hby ya_39) rfl (by decide) (cap := 16) (by decide) (by decide) (by decide) (by decide)
  obtain ⟨zj, zr⟩ : ∃ z, z = z2i.size := ⟨_, rfl⟩
  rw [← zr] at z2l z2m
  have z5y : n0 ≤ zj := Nat.le_trans (z1c.1 ▸ z1c.2.1) (Nat.le_of_eq zr.symm)
  have z5z : h0.size ≤ zj := Nat.le_trans z2j.1 (Nat.le_of_eq zr.symm)
  have z2n := (z2h.wr z7)
  have z2o := ((z2d.ext za).other z7 (Ne.symm (Nat.ne_of_lt zs)))
  have z2p := ((z2e.ext za).other z7 (Ne.symm (Nat.ne_of_lt zu)))
  have z2q := ((z2f.ext za).other z7 (Ne.symm (Nat.ne_of_lt zx)))
  have z2r := (z5o.other z7 (Ne.symm (Nat.ne_of_lt z13)))
  have z1d : z0 < zj := Nat.lt_of_lt_of_le z2n.lt (Nat.le_of_eq zr.symm)
  have z7u : zd < zj := Nat.lt_of_lt_of_le z2o.lt (Nat.le_of_eq zr.symm)
  have z7v : ze < zj := Nat.lt_of_lt_of_le z2p.lt (Nat.le_of_eq zr.symm)
  have z7w : zh < zj := Nat.lt_of_lt_of_le z2q.lt (Nat.le_of_eq zr.symm)
  have z60 : zi < zj := Nat.lt_of_lt_of_le z2r.lt (Nat.le_of_eq zr.symm)
  have z61 := z1c.ext z8
  have z62 := z2j.ext z8
  have z63 : Arv Z z5v zj z2k .int 16 [] (.int 0) := Arv.new z2l (by decide)
  have z2s := (((((((((z3z.ext zn).other zl (Or.inr (slot_ne (Or.inl (own_W hw 21 rfl)) (Or.inl (own_W hw 11 rfl)) (by decide) (t := (.array .int)) (t' := (.array .double)) (by decide) (by decide)))).ext zm).other zf (Or.inr (slot_ne (Or.inl (own_W hw 21 rfl)) (Or.inl (own_W hw 14 rfl)) (by decide) (t := (.array .int)) (t' := (.array .long)) (by decide) (by decide)))).ext zg).other z9 (Or.inr (slot_ne (Or.inl (own_W hw 21 rfl)) (Or.inl (own_W hw 17 rfl)) (by decide) (t := (.array .int)) (t' := (.array .int)) (by decide) (by decide)))).ext za).other z7 (Or.inr (slot_ne (Or.inl (own_W hw 21 rfl)) (Or.inl (own_W hw 19 rfl)) (by decide) (t := (.array .int)) (t' := (.array .int)) (by decide) (by decide)))).ext z8)
  have z2t := (z2n.ext z8)
  obtain ⟨z64, z2u, z15, z65, z5, z66⟩ := putF z5w hx hZ hown (host := "") (Or.inl (own_W hw 20 rfl)) Via.refl z5x z2s z2t (Or.inl (own_W hw 21 rfl)) (own_W hw 1 rfl) (ty := (.array .int)) (by decide) rfl rfl (g := (mkF m 41 #[.val (.ref z0)] [(.ref zj), (.ref z0)])) rfl rfl (hb hby ya_41)
  have z67 := Fr.snoc z15 z5s zc
  have z1e := z61.wr z5 zc
  have z2v := z62.wr z5 (own_Ix 0 rfl)
  have z68 : Fld Z z2u z0 y_s0 "to" "[I" (.ref zj) := z2s.same z5
  obtain ⟨z69, z6a, z2w, z6b, z6c, z6, z2x, z6d, z2y⟩ := newR z15 hx hZ hown (own_W hw 22 rfl) (own_W hw 23 rfl) z65 (g := (mkF m 47 #[.val (.ref z0)] [(.int 16), (.ref z0)])) rfl (hb hby ya_47) rfl (by decide) (cap := 16) (by decide) (by decide) (by decide) (by decide)
  obtain ⟨zk, zq⟩ : ∃ z, z = z2u.size := ⟨_, rfl⟩
  rw [← zq] at z2x z2y
  have z6e : n0 ≤ zk := Nat.le_trans (z1e.1 ▸ z1e.2.1) (Nat.le_of_eq zq.symm)
  have z6f : h0.size ≤ zk := Nat.le_trans z2v.1 (Nat.le_of_eq zq.symm)
  have z2z := (z2t.wr z5)
  have z30 := ((z2o.ext z8).other z5 (Ne.symm (Nat.ne_of_lt zs)))
  have z31 := ((z2p.ext z8).other z5 (Ne.symm (Nat.ne_of_lt zu)))
  have z32 := ((z2q.ext z8).other z5 (Ne.symm (Nat.ne_of_lt zx)))
  have z33 := ((z2r.ext z8).other z5 (Ne.symm (Nat.ne_of_lt z13)))
  have z34 := (z63.other z5 (Ne.symm (Nat.ne_of_lt z1d)))
  have z35 : z0 < zk := Nat.lt_of_lt_of_le z2z.lt (Nat.le_of_eq zq.symm)
  have z7x : zd < zk := Nat.lt_of_lt_of_le z30.lt (Nat.le_of_eq zq.symm)
  have z7y : ze < zk := Nat.lt_of_lt_of_le z31.lt (Nat.le_of_eq zq.symm)
  have z7z : zh < zk := Nat.lt_of_lt_of_le z32.lt (Nat.le_of_eq zq.symm)
  have z80 : zi < zk := Nat.lt_of_lt_of_le z33.lt (Nat.le_of_eq zq.symm)
  have z6g : zj < zk := Nat.lt_of_lt_of_le z34.lt (Nat.le_of_eq zq.symm)
  have z6h := z1e.ext z6
  have z6i := z2v.ext z6
  have z6j : Arv Z z6a zk z2w (.object y_s3) (16 : Int32) [] .null := Arv.new z2x (by decide)
  have z36 := (((((((((((z40.ext zn).other zl (Or.inr (slot_ne (Or.inl (own_W hw 25 rfl)) (Or.inl (own_W hw 11 rfl)) (by decide) (t := (.array (.object y_s3))) (t' := (.array .double)) (by decide) (by decide)))).ext zm).other zf (Or.inr (slot_ne (Or.inl (own_W hw 25 rfl)) (Or.inl (own_W hw 14 rfl)) (by decide) (t := (.array (.object y_s3))) (t' := (.array .long)) (by decide) (by decide)))).ext zg).other z9 (Or.inr (slot_ne (Or.inl (own_W hw 25 rfl)) (Or.inl (own_W hw 17 rfl)) (by decide) (t := (.array (.object y_s3))) (t' := (.array .int)) (by decide) (by decide)))).ext za).other z7 (Or.inr (slot_ne (Or.inl (own_W hw 25 rfl)) (Or.inl (own_W hw 19 rfl)) (by decide) (t := (.array (.object y_s3))) (t' := (.array .int)) (by decide) (by decide)))).ext z8).other z5 (Or.inr (slot_ne (Or.inl (own_W hw 25 rfl)) (Or.inl (own_W hw 21 rfl)) (by decide) (t := (.array (.object y_s3))) (t' := (.array .int)) (by decide) (by decide)))).ext z6)
  have z37 := (z2z.ext z6)
  obtain ⟨z6k, z38, z16, z6l, z2, z6m⟩ := putF z6b hx hZ hown (host := "") (Or.inl (own_W hw 24 rfl)) Via.refl z6c z36 z37 (Or.inl (own_W hw 25 rfl)) (own_W hw 1 rfl) (ty := (.array (.object y_s3))) (by decide) rfl rfl (g := (mkF m 50 #[.val (.ref z0)] [(.ref zk), (.ref z0)])) rfl rfl (hb hby ya_50)
  have z6n := Fr.snoc z16 z67 zc
  have z1f := z6h.wr z2 zc
  have z39 := z6i.wr z2 (own_Ix 0 rfl)
  have z6o : Fld Z z38 z0 y_s0 "message" y_s1 (.ref zk) := z36.same z2
  obtain ⟨z6p, z6q, z1g, z6r, z6s, z3, z3a, z3b⟩ := newP z16 hx hZ (own_W hw 15 rfl) z6l (g := (mkF m 56 #[.val (.ref z0)] [(.int 16), (.ref z0)])) rfl (hb hby ya_56) rfl (by decide) (cap := 16) (by decide) (by decide) (by decide) (by decide)
  obtain ⟨zb, zp⟩ : ∃ z, z = z38.size := ⟨_, rfl⟩
  rw [← zp] at z3a z3b
  have z1h : n0 ≤ zb := Nat.le_trans (z1f.1 ▸ z1f.2.1) (Nat.le_of_eq zp.symm)
  have z3c : h0.size ≤ zb := Nat.le_trans z39.1 (Nat.le_of_eq zp.symm)
  have z3d := (z37.wr z2)
  have z3e := ((z30.ext z6).other z2 (Ne.symm (Nat.ne_of_lt zs)))
  have z3f := ((z31.ext z6).other z2 (Ne.symm (Nat.ne_of_lt zu)))
  have z3g := ((z32.ext z6).other z2 (Ne.symm (Nat.ne_of_lt zx)))
  have z3h := ((z33.ext z6).other z2 (Ne.symm (Nat.ne_of_lt z13)))
  have z3i := ((z34.ext z6).other z2 (Ne.symm (Nat.ne_of_lt z1d)))
  have z3j := (z6j.other z2 (Ne.symm (Nat.ne_of_lt z35)))
  have zo : z0 < zb := Nat.lt_of_lt_of_le z3d.lt (Nat.le_of_eq zp.symm)
  have z6t : zd < zb := Nat.lt_of_lt_of_le z3e.lt (Nat.le_of_eq zp.symm)
  have z6u : ze < zb := Nat.lt_of_lt_of_le z3f.lt (Nat.le_of_eq zp.symm)
  have z6v : zh < zb := Nat.lt_of_lt_of_le z3g.lt (Nat.le_of_eq zp.symm)
  have z6w : zi < zb := Nat.lt_of_lt_of_le z3h.lt (Nat.le_of_eq zp.symm)
  have z6x : zj < zb := Nat.lt_of_lt_of_le z3i.lt (Nat.le_of_eq zp.symm)
  have z3k : zk < zb := Nat.lt_of_lt_of_le z3j.lt (Nat.le_of_eq zp.symm)
  have z6y := z1f.ext z3
  have z6z := z39.ext z3
  have z70 : Arv Z z6q zb z1g .int 16 [] (.int 0) := Arv.new z3a (by decide)
  have z3l := (((((((((((((z41.ext zn).other zl (Or.inr (slot_ne (Or.inl (own_W hw 27 rfl)) (Or.inl (own_W hw 11 rfl)) (by decide) (t := (.array .int)) (t' := (.array .double)) (by decide) (by decide)))).ext zm).other zf (Or.inr (slot_ne (Or.inl (own_W hw 27 rfl)) (Or.inl (own_W hw 14 rfl)) (by decide) (t := (.array .int)) (t' := (.array .long)) (by decide) (by decide)))).ext zg).other z9 (Or.inr (slot_ne (Or.inl (own_W hw 27 rfl)) (Or.inl (own_W hw 17 rfl)) (by decide) (t := (.array .int)) (t' := (.array .int)) (by decide) (by decide)))).ext za).other z7 (Or.inr (slot_ne (Or.inl (own_W hw 27 rfl)) (Or.inl (own_W hw 19 rfl)) (by decide) (t := (.array .int)) (t' := (.array .int)) (by decide) (by decide)))).ext z8).other z5 (Or.inr (slot_ne (Or.inl (own_W hw 27 rfl)) (Or.inl (own_W hw 21 rfl)) (by decide) (t := (.array .int)) (t' := (.array .int)) (by decide) (by decide)))).ext z6).other z2 (Or.inr (slot_ne (Or.inl (own_W hw 27 rfl)) (Or.inl (own_W hw 25 rfl)) (by decide) (t := (.array .int)) (t' := (.array (.object y_s3))) (by decide) (by decide)))).ext z3)
  have z3m := (z3d.ext z3)
  obtain ⟨z71, z3n, z17, z3o, z1, z72⟩ := putF z6r hx hZ hown (host := "") (Or.inl (own_W hw 26 rfl)) Via.refl z6s z3l z3m (Or.inl (own_W hw 27 rfl)) (own_W hw 1 rfl) (ty := (.array .int)) (by decide) rfl rfl (g := (mkF m 58 #[.val (.ref z0)] [(.ref zb), (.ref z0)])) rfl rfl (hb hby ya_58)
  have z73 := Fr.snoc z17 z6n zc
  have z3p := z6y.wr z1 zc
  have z74 := z6z.wr z1 (own_Ix 0 rfl)
  have z3q : Fld Z z3n z0 y_s0 "free" "[I" (.ref zb) := z3l.same z1
  have z75 := (z70.other z1 (Ne.symm (Nat.ne_of_lt zo)))
  have z3r := (z3m.wr z1)
  obtain ⟨cq779, z76, q779'⟩ := z3r.cell
  obtain ⟨_, _, ⟨z3s, L779, z81, n779⟩, -, zy, ⟨Lc779, z3t, l779, y779, z779⟩, z3u⟩ := z17.privateBack hx (y := own_m9) hown (mvT hZ (own_W hw 28 rfl)) (mvT hZ (own_W hw 29 rfl)) (own_selpS (y := own_m9) (mvT hZ (own_W hw 35 rfl)) rfl (mvP (args := #[]) hZ (own_W hw 30 rfl)) (mvT hZ (own_W hw 29 rfl)) (by decide)) (Cond.privateMethod_at (mvP hZ (own_W hw 30 rfl) (args := #[]))) (mvT hZ (own_W hw 31 rfl)) (by decide) (backOf (W := 0) (rmL4 l Z a0 hw [] z3n n0 p1 p2 p3 p4 p5 p6 A K z0 zb z1g EN z3p z3q z75 (Nat.ne_of_lt zo) z1h) hZ (own_W hw 31 rfl) (own_W hw 2 rfl) (by decide) (by decide)) (g := (mkF m 63 #[.val (.ref z0)] [(.int 0), (.ref z0)])) rfl (by rw [hml]; rfl) (Steps.refl _) (a := z0) (by rw [z3o]; exact z76) q779' (argsL := [(.int 0)]) (rest := []) (lenOf own_pd5 rfl) rfl (by show 2 * 0 + _ ≤ _; exact Nat.le_of_eq rfl) (hb hby ya_63) (fun _ _ => ⟨rfl, z3o, (by decide : 7 + 0 ≤ _), (by decide : 112 + 0 ≤ _)⟩)
  dsimp only [Pt.U, Pt.locs, Pt.cells, Pt.slots] at zy l779 y779 z779 z3u z3t
  replace zy := own_sub zy l779 y779 z779
  obtain ⟨rfl, z77, z4, z78⟩ := z3t
  have z79 := Fr.app z73 z77
  have z82 := z3p.keep z4 (allS z1h all0)
  have z7a := z74.trans z4 (allS (Or.inr z3c) all0)
  have z7b := (z3r.keep z4)
  have z7c := (((((((((((((z4k.ext zm).other zf (Or.inr (slot_ne (Or.inl (own_W hw 11 rfl)) (Or.inl (own_W hw 14 rfl)) (by decide) (t := (.array .double)) (t' := (.array .long)) (by decide) (by decide)))).ext zg).other z9 (Or.inr (slot_ne (Or.inl (own_W hw 11 rfl)) (Or.inl (own_W hw 17 rfl)) (by decide) (t := (.array .double)) (t' := (.array .int)) (by decide) (by decide)))).ext za).other z7 (Or.inr (slot_ne (Or.inl (own_W hw 11 rfl)) (Or.inl (own_W hw 19 rfl)) (by decide) (t := (.array .double)) (t' := (.array .int)) (by decide) (by decide)))).ext z8).other z5 (Or.inr (slot_ne (Or.inl (own_W hw 11 rfl)) (Or.inl (own_W hw 21 rfl)) (by decide) (t := (.array .double)) (t' := (.array .int)) (by decide) (by decide)))).ext z6).other z2 (Or.inr (slot_ne (Or.inl (own_W hw 11 rfl)) (Or.inl (own_W hw 25 rfl)) (by decide) (t := (.array .double)) (t' := (.array (.object y_s3))) (by decide) (by decide)))).ext z3).other z1 (Or.inr (slot_ne (Or.inl (own_W hw 11 rfl)) (Or.inl (own_W hw 27 rfl)) (by decide) (t := (.array .double)) (t' := (.array .int)) (by decide) (by decide)))).keep z4 (ninS (Nat.ne_of_lt zo) nin0))
  have z7d := (((((((((((z4z.ext zg).other z9 (Or.inr (slot_ne (Or.inl (own_W hw 14 rfl)) (Or.inl (own_W hw 17 rfl)) (by decide) (t := (.array .long)) (t' := (.array .int)) (by decide) (by decide)))).ext za).other z7 (Or.inr (slot_ne (Or.inl (own_W hw 14 rfl)) (Or.inl (own_W hw 19 rfl)) (by decide) (t := (.array .long)) (t' := (.array .int)) (by decide) (by decide)))).ext z8).other z5 (Or.inr (slot_ne (Or.inl (own_W hw 14 rfl)) (Or.inl (own_W hw 21 rfl)) (by decide) (t := (.array .long)) (t' := (.array .int)) (by decide) (by decide)))).ext z6).other z2 (Or.inr (slot_ne (Or.inl (own_W hw 14 rfl)) (Or.inl (own_W hw 25 rfl)) (by decide) (t := (.array .long)) (t' := (.array (.object y_s3))) (by decide) (by decide)))).ext z3).other z1 (Or.inr (slot_ne (Or.inl (own_W hw 14 rfl)) (Or.inl (own_W hw 27 rfl)) (by decide) (t := (.array .long)) (t' := (.array .int)) (by decide) (by decide)))).keep z4 (ninS (Nat.ne_of_lt zo) nin0))
  have z7e := (((((((((z5e.ext za).other z7 (Or.inr (slot_ne (Or.inl (own_W hw 17 rfl)) (Or.inl (own_W hw 19 rfl)) (by decide) (t := (.array .int)) (t' := (.array .int)) (by decide) (by decide)))).ext z8).other z5 (Or.inr (slot_ne (Or.inl (own_W hw 17 rfl)) (Or.inl (own_W hw 21 rfl)) (by decide) (t := (.array .int)) (t' := (.array .int)) (by decide) (by decide)))).ext z6).other z2 (Or.inr (slot_ne (Or.inl (own_W hw 17 rfl)) (Or.inl (own_W hw 25 rfl)) (by decide) (t := (.array .int)) (t' := (.array (.object y_s3))) (by decide) (by decide)))).ext z3).other z1 (Or.inr (slot_ne (Or.inl (own_W hw 17 rfl)) (Or.inl (own_W hw 27 rfl)) (by decide) (t := (.array .int)) (t' := (.array .int)) (by decide) (by decide)))).keep z4 (ninS (Nat.ne_of_lt zo) nin0))
  have z7f := (((((((z5t.ext z8).other z5 (Or.inr (slot_ne (Or.inl (own_W hw 19 rfl)) (Or.inl (own_W hw 21 rfl)) (by decide) (t := (.array .int)) (t' := (.array .int)) (by decide) (by decide)))).ext z6).other z2 (Or.inr (slot_ne (Or.inl (own_W hw 19 rfl)) (Or.inl (own_W hw 25 rfl)) (by decide) (t := (.array .int)) (t' := (.array (.object y_s3))) (by decide) (by decide)))).ext z3).other z1 (Or.inr (slot_ne (Or.inl (own_W hw 19 rfl)) (Or.inl (own_W hw 27 rfl)) (by decide) (t := (.array .int)) (t' := (.array .int)) (by decide) (by decide)))).keep z4 (ninS (Nat.ne_of_lt zo) nin0))
  have z7g := (((((z68.ext z6).other z2 (Or.inr (slot_ne (Or.inl (own_W hw 21 rfl)) (Or.inl (own_W hw 25 rfl)) (by decide) (t := (.array .int)) (t' := (.array (.object y_s3))) (by decide) (by decide)))).ext z3).other z1 (Or.inr (slot_ne (Or.inl (own_W hw 21 rfl)) (Or.inl (own_W hw 27 rfl)) (by decide) (t := (.array .int)) (t' := (.array .int)) (by decide) (by decide)))).keep z4 (ninS (Nat.ne_of_lt zo) nin0))
  have z7h := (((z6o.ext z3).other z1 (Or.inr (slot_ne (Or.inl (own_W hw 25 rfl)) (Or.inl (own_W hw 27 rfl)) (by decide) (t := (.array (.object y_s3))) (t' := (.array .int)) (by decide) (by decide)))).keep z4 (ninS (Nat.ne_of_lt zo) nin0))
  have z7i := (z3q.keep z4 (ninS (Nat.ne_of_lt zo) nin0))
  have z7j := (((((((((((((((z42.ext zn).other zl (Or.inr (slot_ne (Or.inl (own_W hw 38 rfl)) (Or.inl (own_W hw 11 rfl)) (by decide) (t := .int) (t' := (.array .double)) (by decide) (by decide)))).ext zm).other zf (Or.inr (slot_ne (Or.inl (own_W hw 38 rfl)) (Or.inl (own_W hw 14 rfl)) (by decide) (t := .int) (t' := (.array .long)) (by decide) (by decide)))).ext zg).other z9 (Or.inr (slot_ne (Or.inl (own_W hw 38 rfl)) (Or.inl (own_W hw 17 rfl)) (by decide) (t := .int) (t' := (.array .int)) (by decide) (by decide)))).ext za).other z7 (Or.inr (slot_ne (Or.inl (own_W hw 38 rfl)) (Or.inl (own_W hw 19 rfl)) (by decide) (t := .int) (t' := (.array .int)) (by decide) (by decide)))).ext z8).other z5 (Or.inr (slot_ne (Or.inl (own_W hw 38 rfl)) (Or.inl (own_W hw 21 rfl)) (by decide) (t := .int) (t' := (.array .int)) (by decide) (by decide)))).ext z6).other z2 (Or.inr (slot_ne (Or.inl (own_W hw 38 rfl)) (Or.inl (own_W hw 25 rfl)) (by decide) (t := .int) (t' := (.array (.object y_s3))) (by decide) (by decide)))).ext z3).other z1 (Or.inr (slot_ne (Or.inl (own_W hw 38 rfl)) (Or.inl (own_W hw 27 rfl)) (by decide) (t := .int) (t' := (.array .int)) (by decide) (by decide)))).keep z4 (ninS (Nat.ne_of_lt zo) nin0))
  have z7k := (((((((((((((((z43.ext zn).other zl (Or.inr (slot_ne (Or.inl (own_W hw 49 rfl)) (Or.inl (own_W hw 11 rfl)) (by decide) (t := .long) (t' := (.array .double)) (by decide) (by decide)))).ext zm).other zf (Or.inr (slot_ne (Or.inl (own_W hw 49 rfl)) (Or.inl (own_W hw 14 rfl)) (by decide) (t := .long) (t' := (.array .long)) (by decide) (by decide)))).ext zg).other z9 (Or.inr (slot_ne (Or.inl (own_W hw 49 rfl)) (Or.inl (own_W hw 17 rfl)) (by decide) (t := .long) (t' := (.array .int)) (by decide) (by decide)))).ext za).other z7 (Or.inr (slot_ne (Or.inl (own_W hw 49 rfl)) (Or.inl (own_W hw 19 rfl)) (by decide) (t := .long) (t' := (.array .int)) (by decide) (by decide)))).ext z8).other z5 (Or.inr (slot_ne (Or.inl (own_W hw 49 rfl)) (Or.inl (own_W hw 21 rfl)) (by decide) (t := .long) (t' := (.array .int)) (by decide) (by decide)))).ext z6).other z2 (Or.inr (slot_ne (Or.inl (own_W hw 49 rfl)) (Or.inl (own_W hw 25 rfl)) (by decide) (t := .long) (t' := (.array (.object y_s3))) (by decide) (by decide)))).ext z3).other z1 (Or.inr (slot_ne (Or.inl (own_W hw 49 rfl)) (Or.inl (own_W hw 27 rfl)) (by decide) (t := .long) (t' := (.array .int)) (by decide) (by decide)))).keep z4 (ninS (Nat.ne_of_lt zo) nin0))
  have z7l := (((z3e.ext z3).other z1 (Ne.symm (Nat.ne_of_lt zs))).keep z4 (ninS (Nat.ne_of_lt z6t) nin0))
  have z7m := (((z3f.ext z3).other z1 (Ne.symm (Nat.ne_of_lt zu))).keep z4 (ninS (Nat.ne_of_lt z6u) nin0))
  have z7n := (((z3g.ext z3).other z1 (Ne.symm (Nat.ne_of_lt zx))).keep z4 (ninS (Nat.ne_of_lt z6v) nin0))
  have z7o := (((z3h.ext z3).other z1 (Ne.symm (Nat.ne_of_lt z13))).keep z4 (ninS (Nat.ne_of_lt z6w) nin0))
  have z7p := (((z3i.ext z3).other z1 (Ne.symm (Nat.ne_of_lt z1d))).keep z4 (ninS (Nat.ne_of_lt z6x) nin0))
  have z7q := (((z3j.ext z3).other z1 (Ne.symm (Nat.ne_of_lt z35))).keep z4 (ninS (Nat.ne_of_lt z3k) nin0))
  obtain ⟨fs, hr, hrun, hended, hW, hsame⟩ := zy.leave (v := none) (fun _ => rfl)
  refine ⟨_, _, pre0 _ ?_, hrun, hended, _, _, rfl, ?_, ⟨_, rfl⟩, hW, hsame.mono (by decide) (by decide)⟩
  · show Steps p.tables e below (s₁.setTop (mkF m 0 #[.val (.ref z0)] [])) _
    refine XS.aloadN X0.here hx rfl (hb hby ya_0) rfl rfl ?_
    refine z46 _ ?_
    show Steps p.tables e below (z44.setTop (mkF m 4 #[.val (.ref z0)] [])) _
    refine XS.aloadN z18.here hx rfl (hb hby ya_4) rfl rfl ?_
    refine XS.bipush z18.here hx rfl (hb hby ya_5) ?_
    refine z1l _ ?_
    show Steps p.tables e below (z47.setTop (mkF m 9 #[.val (.ref z0)] [(.ref zd), (.ref z0)])) _
    refine z4i _ ?_
    show Steps p.tables e below (z4g.setTop (mkF m 12 #[.val (.ref z0)] [])) _
    refine XS.aloadN z10.here hx rfl (hb hby ya_12) rfl rfl ?_
    refine XS.bipush z10.here hx rfl (hb hby ya_13) ?_
    refine z1s _ ?_
    show Steps p.tables e below (z4l.setTop (mkF m 17 #[.val (.ref z0)] [(.ref ze), (.ref z0)])) _
    refine z4x _ ?_
    show Steps p.tables e below (z4v.setTop (mkF m 20 #[.val (.ref z0)] [])) _
    refine XS.aloadN z11.here hx rfl (hb hby ya_20) rfl rfl ?_
    refine XS.bipush z11.here hx rfl (hb hby ya_21) ?_
    refine z21 _ ?_
    show Steps p.tables e below (z50.setTop (mkF m 25 #[.val (.ref z0)] [(.ref zh), (.ref z0)])) _
    refine z5c _ ?_
    show Steps p.tables e below (z5a.setTop (mkF m 28 #[.val (.ref z0)] [])) _
    refine XS.aloadN z12.here hx rfl (hb hby ya_28) rfl rfl ?_
    refine XS.bipush z12.here hx rfl (hb hby ya_29) ?_
    refine z2b _ ?_
    show Steps p.tables e below (z5f.setTop (mkF m 33 #[.val (.ref z0)] [(.ref zi), (.ref z0)])) _
    refine z5r _ ?_
    show Steps p.tables e below (z5p.setTop (mkF m 36 #[.val (.ref z0)] [])) _
    refine XS.aloadN z14.here hx rfl (hb hby ya_36) rfl rfl ?_
    refine XS.bipush z14.here hx rfl (hb hby ya_37) ?_
    refine z2m _ ?_
    show Steps p.tables e below (z5u.setTop (mkF m 41 #[.val (.ref z0)] [(.ref zj), (.ref z0)])) _
    refine z66 _ ?_
    show Steps p.tables e below (z64.setTop (mkF m 44 #[.val (.ref z0)] [])) _
    refine XS.aloadN z15.here hx rfl (hb hby ya_44) rfl rfl ?_
    refine XS.bipush z15.here hx rfl (hb hby ya_45) ?_
    refine z2y _ ?_
    show Steps p.tables e below (z69.setTop (mkF m 50 #[.val (.ref z0)] [(.ref zk), (.ref z0)])) _
    refine z6m _ ?_
    show Steps p.tables e below (z6k.setTop (mkF m 53 #[.val (.ref z0)] [])) _
    refine XS.aloadN z16.here hx rfl (hb hby ya_53) rfl rfl ?_
    refine XS.bipush z16.here hx rfl (hb hby ya_54) ?_
    refine z3b _ ?_
    show Steps p.tables e below (z6p.setTop (mkF m 58 #[.val (.ref z0)] [(.ref zb), (.ref z0)])) _
    refine z72 _ ?_
    show Steps p.tables e below (z71.setTop (mkF m 61 #[.val (.ref z0)] [])) _
    refine XS.aloadN z17.here hx rfl (hb hby ya_61) rfl rfl ?_
    refine XS.iconst z17.here hx rfl (hb hby ya_62) ?_
    refine z3u.trans ?_
    show Steps p.tables e below (z3s.setTop (mkF m 66 #[.val (.ref z0)] [])) _
    exact zy.returnOut hx Bd.returns (hb hby ya_66) hr
  · show Q_rmL3 Z p1 p2 p3 p4 p5 p6 A K z0 h0 n0 _ z3s.heap _
    exact ⟨zd, ze, zh, zi, zj, zk, zb, z1j, z1q, z1z, z29, z2k, z2w, z1g, rfl, z79, z7a, ⟨z4b, z4c⟩, ⟨z4p, z4q⟩, ⟨z54, z55⟩, ⟨z5j, z5k⟩, ⟨z5y, z5z⟩, ⟨z6e, z6f⟩, ⟨z1h, z3c⟩, z4r, z56, z5l, z60, z6g, z3k, z7b, z7c, z7d, z7e, z7f, z7g, z7h, z7i, z7j, z7k, z7l, z7m, z7n, z7o, z7p, z7q, z6d, z78⟩
theorem yb_0 : decode prog_48_method_3_code 0 = .ok (.aload_n 0, 1) := by decide +kernel
theorem yb_1 : decode prog_48_method_3_code 1 = .ok (.getfield 40, 3) := by decide +kernel
theorem yb_4 : decode prog_48_method_3_code 4 = .ok (.ifCond .ne 7, 3) := by decide +kernel
theorem yb_7 : decode prog_48_method_3_code 7 = .ok (.iconst 1, 1) := by decide +kernel
theorem yb_8 : decode prog_48_method_3_code 8 = .ok (.goto 4, 3) := by decide +kernel
theorem yb_12 : decode prog_48_method_3_code 12 = .ok (.ireturn, 1) := by decide +kernel
set_option maxRecDepth 65536 in
set_option maxHeartbeats 40000000 in
theorem rmL5 (l : Launch) (Z : State) (a0 : Array Value) (hw : ∀ d ∈ tables_1, d.before a0 Z = true) (ws : List Jvm.Cond) (h0 : Heap) (n0 : Nat) (p1 : Int32) (p2 : Int32) (p3 : Int32) (p4 : Int32) (p5 : Int32) (p6 : Int32) (A : Nat → Addr) (K : Nat → ClassId)  (z0 : Addr) (EN : own_St Z A K) (OL0 : Old Z n0 h0) (z3 : Fld Z h0 z0 y_s0 "size" "I" (.int 0)) :
    MetFree l own_m0 (head1 (Jvm.Cond.code own_m0 prog_48_method_3_code 1 (some .boolean) :: ws) (Room.mk 0 0 0 0)) (fun a U => a = #[(.ref z0)] ∧ Z.Warmed39 U.vm ∧ U.heap = h0) (fun _ _ _ _ _ => True) (fun _ U o U' => ∃ v L, o = .returned v ∧ (PQ (some (.int 1)) h0 n0) v U'.heap L ∧ FrameEnd U o U' L (Room.mk 0 0 0 0).cells (Room.mk 0 0 0 0).slots) := by
  refine MetFree.of_bodySF (plainFor_of_name own_pn0) hisR ?_
  intro p e s m args below meth c s₁ Bd hml0 hP hK
  obtain ⟨rfl, hZ, hh⟩ := hP
  have hx := Bd.exec
  have hby := Bd.bytes
  have hml : c.maxLocals = 1 := hml0
  have hown : s.vm.findClass y_s0 = some m.cls := findClass_of_methodNamed Bd.named
  have hnm := (name_of_methodNamed Bd.named Bd.method).1
  have X0 : Stand p l e (Room.mk 0 0 0 0) s m #[(.ref z0)] below meth c s₁ [] 0 0 := Stand.of_body Bd
  have e0 : s₁.heap = h0 := by rw [← hh, Bd.state]; rfl
  have N0 := Fr.nil n0
  have pre0 : ∀ t, Steps p.tables e below (s₁.setTop (mkF m 0 #[.val (.ref z0)] [])) t → Steps p.tables e below (s₁.setTop (entryFrame m #[(.ref z0)] 1)) t := fun t k => castTop (by first | (simp [entryFrame, mkF, argsToLocals, Value.category, maxLocals]; done) | rfl) k
  have KK0 : Keep h0 h0 [] := Keep.refl _ _
  obtain ⟨z2, z1, z4, z5⟩ := getF X0 hx hZ hown (host := "") (Or.inl (own_W hw 37 rfl)) Via.refl e0 z3 (g := (mkF m 1 #[.val (.ref z0)] [(.ref z0)])) rfl rfl (hb hby yb_1)
  obtain ⟨fs, hr, hrun, hended, hW, hsame⟩ := z1.leave (v := some (.int 1)) (fun h => by rw [Bd.returns] at h; cases h)
  refine ⟨_, _, pre0 _ ?_, hrun, hended, _, _, rfl, ?_, ⟨_, rfl⟩, hW, hsame.mono (by decide) (by decide)⟩
  · show Steps p.tables e below (s₁.setTop (mkF m 0 #[.val (.ref z0)] [])) _
    refine XS.aloadN X0.here hx rfl (hb hby yb_0) rfl rfl ?_
    refine z5 _ ?_
    show Steps p.tables e below (z2.setTop (mkF m 4 #[.val (.ref z0)] [(.int 0)])) _
    refine XS.ifNo z1.here hx rfl (hb hby yb_4) rfl ((if0 _ _).trans (teq (by decide : (0 : Int32) = (0 : Int32))).2) ?_
    show Steps p.tables e below (z2.setTop (mkF m 7 #[.val (.ref z0)] [])) _
    refine XS.iconst z1.here hx rfl (hb hby yb_7) ?_
    refine XS.goto z1.here hx rfl (pc0 := 8) (pc' := 12) rfl (hb hby yb_8) (by decide) (by decide) ?_
    exact retN z1 hx (t := .boolean) Bd.returns (by simp) (hb hby yb_12) hr
  · show PQ (some (.int 1)) h0 n0 _ z2.heap _
    rw [z4]
    exact ⟨rfl, N0, rfl⟩
theorem yb_11 : decode prog_48_method_3_code 11 = .ok (.iconst 0, 1) := by decide +kernel
set_option maxRecDepth 65536 in
set_option maxHeartbeats 40000000 in
theorem rmL6 (l : Launch) (Z : State) (a0 : Array Value) (hw : ∀ d ∈ tables_1, d.before a0 Z = true) (ws : List Jvm.Cond) (h0 : Heap) (n0 : Nat) (p1 : Int32) (p2 : Int32) (p3 : Int32) (p4 : Int32) (p5 : Int32) (p6 : Int32) (A : Nat → Addr) (K : Nat → ClassId)  (z0 : Addr) (EN : own_St Z A K) (OL0 : Old Z n0 h0) (z3 : Fld Z h0 z0 y_s0 "size" "I" (.int 1)) :
    MetFree l own_m0 (head1 (Jvm.Cond.code own_m0 prog_48_method_3_code 1 (some .boolean) :: ws) (Room.mk 0 0 0 0)) (fun a U => a = #[(.ref z0)] ∧ Z.Warmed39 U.vm ∧ U.heap = h0) (fun _ _ _ _ _ => True) (fun _ U o U' => ∃ v L, o = .returned v ∧ (PQ (some (.int 0)) h0 n0) v U'.heap L ∧ FrameEnd U o U' L (Room.mk 0 0 0 0).cells (Room.mk 0 0 0 0).slots) := by
  refine MetFree.of_bodySF (plainFor_of_name own_pn0) hisR ?_
  intro p e s m args below meth c s₁ Bd hml0 hP hK
  obtain ⟨rfl, hZ, hh⟩ := hP
  have hx := Bd.exec
  have hby := Bd.bytes
  have hml : c.maxLocals = 1 := hml0
  have hown : s.vm.findClass y_s0 = some m.cls := findClass_of_methodNamed Bd.named
  have hnm := (name_of_methodNamed Bd.named Bd.method).1
  have X0 : Stand p l e (Room.mk 0 0 0 0) s m #[(.ref z0)] below meth c s₁ [] 0 0 := Stand.of_body Bd
  have e0 : s₁.heap = h0 := by rw [← hh, Bd.state]; rfl
  have N0 := Fr.nil n0
  have pre0 : ∀ t, Steps p.tables e below (s₁.setTop (mkF m 0 #[.val (.ref z0)] [])) t → Steps p.tables e below (s₁.setTop (entryFrame m #[(.ref z0)] 1)) t := fun t k => castTop (by first | (simp [entryFrame, mkF, argsToLocals, Value.category, maxLocals]; done) | rfl) k
  have KK0 : Keep h0 h0 [] := Keep.refl _ _
  obtain ⟨z2, z1, z4, z5⟩ := getF X0 hx hZ hown (host := "") (Or.inl (own_W hw 37 rfl)) Via.refl e0 z3 (g := (mkF m 1 #[.val (.ref z0)] [(.ref z0)])) rfl rfl (hb hby yb_1)
  obtain ⟨fs, hr, hrun, hended, hW, hsame⟩ := z1.leave (v := some (.int 0)) (fun h => by rw [Bd.returns] at h; cases h)
  refine ⟨_, _, pre0 _ ?_, hrun, hended, _, _, rfl, ?_, ⟨_, rfl⟩, hW, hsame.mono (by decide) (by decide)⟩
  · show Steps p.tables e below (s₁.setTop (mkF m 0 #[.val (.ref z0)] [])) _
    refine XS.aloadN X0.here hx rfl (hb hby yb_0) rfl rfl ?_
    refine z5 _ ?_
    show Steps p.tables e below (z2.setTop (mkF m 4 #[.val (.ref z0)] [(.int 1)])) _
    refine XS.ifYes z1.here hx rfl (pc0 := 4) (pc' := 11) rfl (hb hby yb_4) rfl ((if0 _ _).trans (feq (by decide : ¬ ((1 : Int32) = (0 : Int32)))).2) (by decide) (by decide) ?_
    show Steps p.tables e below (z2.setTop (mkF m 11 #[.val (.ref z0)] [])) _
    refine XS.iconst z1.here hx rfl (hb hby yb_11) ?_
    exact retN z1 hx (t := .boolean) Bd.returns (by simp) (hb hby yb_12) hr
  · show PQ (some (.int 0)) h0 n0 _ z2.heap _
    rw [z4]
    exact ⟨rfl, N0, rfl⟩
set_option maxRecDepth 65536 in
set_option maxHeartbeats 40000000 in
theorem rmL7 (l : Launch) (Z : State) (a0 : Array Value) (hw : ∀ d ∈ tables_1, d.before a0 Z = true) (ws : List Jvm.Cond) (h0 : Heap) (n0 : Nat) (p1 : Int32) (p2 : Int32) (p3 : Int32) (p4 : Int32) (p5 : Int32) (p6 : Int32) (A : Nat → Addr) (K : Nat → ClassId)  (z0 : Addr) (EN : own_St Z A K) (OL0 : Old Z n0 h0) (z3 : Fld Z h0 z0 y_s0 "size" "I" (.int 2)) :
    MetFree l own_m0 (head1 (Jvm.Cond.code own_m0 prog_48_method_3_code 1 (some .boolean) :: ws) (Room.mk 0 0 0 0)) (fun a U => a = #[(.ref z0)] ∧ Z.Warmed39 U.vm ∧ U.heap = h0) (fun _ _ _ _ _ => True) (fun _ U o U' => ∃ v L, o = .returned v ∧ (PQ (some (.int 0)) h0 n0) v U'.heap L ∧ FrameEnd U o U' L (Room.mk 0 0 0 0).cells (Room.mk 0 0 0 0).slots) := by
  refine MetFree.of_bodySF (plainFor_of_name own_pn0) hisR ?_
  intro p e s m args below meth c s₁ Bd hml0 hP hK
  obtain ⟨rfl, hZ, hh⟩ := hP
  have hx := Bd.exec
  have hby := Bd.bytes
  have hml : c.maxLocals = 1 := hml0
  have hown : s.vm.findClass y_s0 = some m.cls := findClass_of_methodNamed Bd.named
  have hnm := (name_of_methodNamed Bd.named Bd.method).1
  have X0 : Stand p l e (Room.mk 0 0 0 0) s m #[(.ref z0)] below meth c s₁ [] 0 0 := Stand.of_body Bd
  have e0 : s₁.heap = h0 := by rw [← hh, Bd.state]; rfl
  have N0 := Fr.nil n0
  have pre0 : ∀ t, Steps p.tables e below (s₁.setTop (mkF m 0 #[.val (.ref z0)] [])) t → Steps p.tables e below (s₁.setTop (entryFrame m #[(.ref z0)] 1)) t := fun t k => castTop (by first | (simp [entryFrame, mkF, argsToLocals, Value.category, maxLocals]; done) | rfl) k
  have KK0 : Keep h0 h0 [] := Keep.refl _ _
  obtain ⟨z2, z1, z4, z5⟩ := getF X0 hx hZ hown (host := "") (Or.inl (own_W hw 37 rfl)) Via.refl e0 z3 (g := (mkF m 1 #[.val (.ref z0)] [(.ref z0)])) rfl rfl (hb hby yb_1)
  obtain ⟨fs, hr, hrun, hended, hW, hsame⟩ := z1.leave (v := some (.int 0)) (fun h => by rw [Bd.returns] at h; cases h)
  refine ⟨_, _, pre0 _ ?_, hrun, hended, _, _, rfl, ?_, ⟨_, rfl⟩, hW, hsame.mono (by decide) (by decide)⟩
  · show Steps p.tables e below (s₁.setTop (mkF m 0 #[.val (.ref z0)] [])) _
    refine XS.aloadN X0.here hx rfl (hb hby yb_0) rfl rfl ?_
    refine z5 _ ?_
    show Steps p.tables e below (z2.setTop (mkF m 4 #[.val (.ref z0)] [(.int 2)])) _
    refine XS.ifYes z1.here hx rfl (pc0 := 4) (pc' := 11) rfl (hb hby yb_4) rfl ((if0 _ _).trans (feq (by decide : ¬ ((2 : Int32) = (0 : Int32)))).2) (by decide) (by decide) ?_
    show Steps p.tables e below (z2.setTop (mkF m 11 #[.val (.ref z0)] [])) _
    refine XS.iconst z1.here hx rfl (hb hby yb_11) ?_
    exact retN z1 hx (t := .boolean) Bd.returns (by simp) (hb hby yb_12) hr
  · show PQ (some (.int 0)) h0 n0 _ z2.heap _
    rw [z4]
    exact ⟨rfl, N0, rfl⟩
set_option maxRecDepth 65536 in
set_option maxHeartbeats 40000000 in
theorem rmL8 (l : Launch) (Z : State) (a0 : Array Value) (hw : ∀ d ∈ tables_1, d.before a0 Z = true) (ws : List Jvm.Cond) (h0 : Heap) (n0 : Nat) (p1 : Int32) (p2 : Int32) (p3 : Int32) (p4 : Int32) (p5 : Int32) (p6 : Int32) (A : Nat → Addr) (K : Nat → ClassId)  (z0 : Addr) (EN : own_St Z A K) (OL0 : Old Z n0 h0) (z3 : Fld Z h0 z0 y_s0 "size" "I" (.int 3)) :
    MetFree l own_m0 (head1 (Jvm.Cond.code own_m0 prog_48_method_3_code 1 (some .boolean) :: ws) (Room.mk 0 0 0 0)) (fun a U => a = #[(.ref z0)] ∧ Z.Warmed39 U.vm ∧ U.heap = h0) (fun _ _ _ _ _ => True) (fun _ U o U' => ∃ v L, o = .returned v ∧ (PQ (some (.int 0)) h0 n0) v U'.heap L ∧ FrameEnd U o U' L (Room.mk 0 0 0 0).cells (Room.mk 0 0 0 0).slots) := by
  refine MetFree.of_bodySF (plainFor_of_name own_pn0) hisR ?_
  intro p e s m args below meth c s₁ Bd hml0 hP hK
  obtain ⟨rfl, hZ, hh⟩ := hP
  have hx := Bd.exec
  have hby := Bd.bytes
  have hml : c.maxLocals = 1 := hml0
  have hown : s.vm.findClass y_s0 = some m.cls := findClass_of_methodNamed Bd.named
  have hnm := (name_of_methodNamed Bd.named Bd.method).1
  have X0 : Stand p l e (Room.mk 0 0 0 0) s m #[(.ref z0)] below meth c s₁ [] 0 0 := Stand.of_body Bd
  have e0 : s₁.heap = h0 := by rw [← hh, Bd.state]; rfl
  have N0 := Fr.nil n0
  have pre0 : ∀ t, Steps p.tables e below (s₁.setTop (mkF m 0 #[.val (.ref z0)] [])) t → Steps p.tables e below (s₁.setTop (entryFrame m #[(.ref z0)] 1)) t := fun t k => castTop (by first | (simp [entryFrame, mkF, argsToLocals, Value.category, maxLocals]; done) | rfl) k
  have KK0 : Keep h0 h0 [] := Keep.refl _ _
  obtain ⟨z2, z1, z4, z5⟩ := getF X0 hx hZ hown (host := "") (Or.inl (own_W hw 37 rfl)) Via.refl e0 z3 (g := (mkF m 1 #[.val (.ref z0)] [(.ref z0)])) rfl rfl (hb hby yb_1)
  obtain ⟨fs, hr, hrun, hended, hW, hsame⟩ := z1.leave (v := some (.int 0)) (fun h => by rw [Bd.returns] at h; cases h)
  refine ⟨_, _, pre0 _ ?_, hrun, hended, _, _, rfl, ?_, ⟨_, rfl⟩, hW, hsame.mono (by decide) (by decide)⟩
  · show Steps p.tables e below (s₁.setTop (mkF m 0 #[.val (.ref z0)] [])) _
    refine XS.aloadN X0.here hx rfl (hb hby yb_0) rfl rfl ?_
    refine z5 _ ?_
    show Steps p.tables e below (z2.setTop (mkF m 4 #[.val (.ref z0)] [(.int 3)])) _
    refine XS.ifYes z1.here hx rfl (pc0 := 4) (pc' := 11) rfl (hb hby yb_4) rfl ((if0 _ _).trans (feq (by decide : ¬ ((3 : Int32) = (0 : Int32)))).2) (by decide) (by decide) ?_
    show Steps p.tables e below (z2.setTop (mkF m 11 #[.val (.ref z0)] [])) _
    refine XS.iconst z1.here hx rfl (hb hby yb_11) ?_
    exact retN z1 hx (t := .boolean) Bd.returns (by simp) (hb hby yb_12) hr
  · show PQ (some (.int 0)) h0 n0 _ z2.heap _
    rw [z4]
    exact ⟨rfl, N0, rfl⟩
theorem own_pn3 : plainName "com/example/ringleader/ringleader/engine/EventQueueIsEmptyPinLaw" = true := by first | (simp [plainName, overriddenIn]; done) | decide +kernel
set_option maxRecDepth 65536 in
set_option maxHeartbeats 40000000 in
theorem rm0 (l : Launch) (Z : State) (a0 : Array Value) (hw : ∀ d ∈ tables_1, d.before a0 Z = true) (ws : List Jvm.Cond) (h0 : Heap) (n0 : Nat) (p1 : Int32) (p2 : Int32) (p3 : Int32) (p4 : Int32) (p5 : Int32) (p6 : Int32) (A : Nat → Addr) (K : Nat → ClassId) (EN : own_St Z A K) (OL0 : Old Z n0 h0) :
    MetFree l x (head1 (Jvm.Cond.code x code maxLocals ret :: ws) room_1) (fun a U => a = #[(.int p1), (.int p2), (.int p3), (.int p4), (.int p5), (.int p6)] ∧ Z.Warmed39 U.vm ∧ U.heap = h0) (fun _ _ _ _ _ => True) (fun _ U o U' => ∃ v L, o = .returned v ∧ (LQ n0) v U'.heap L ∧ FrameEnd U o U' L room_1.cells room_1.slots) := by
  refine MetFree.of_bodySF (plainFor_of_name own_pn3) hisR ?_
  intro p e s m args below meth c s₁ Bd hml0 hP hK
  obtain ⟨rfl, hZ, hh⟩ := hP
  have hx := Bd.exec
  have hby := Bd.bytes
  have hml : c.maxLocals = 10 := hml0
  have hown : s.vm.findClass "com/example/ringleader/ringleader/engine/EventQueueIsEmptyPinLaw" = some m.cls := findClass_of_methodNamed Bd.named
  have hnm := (name_of_methodNamed Bd.named Bd.method).1
  have X0 : Stand p l e room_1 s m #[(.int p1), (.int p2), (.int p3), (.int p4), (.int p5), (.int p6)] below meth c s₁ [] 0 0 := Stand.of_body Bd
  have e0 : s₁.heap = h0 := by rw [← hh, Bd.state]; rfl
  have N0 := Fr.nil n0
  have pre0 : ∀ t, Steps p.tables e below (s₁.setTop (mkF m 0 #[.val (.int p1), .val (.int p2), .val (.int p3), .val (.int p4), .val (.int p5), .val (.int p6), .unset, .unset, .unset, .unset] [])) t → Steps p.tables e below (s₁.setTop (entryFrame m #[(.int p1), (.int p2), (.int p3), (.int p4), (.int p5), (.int p6)] maxLocals)) t := fun t k => castTop (by first | (simp [entryFrame, mkF, argsToLocals, Value.category, maxLocals]; done) | rfl) k
  have KK0 : Keep h0 h0 [] := Keep.refl _ _
  obtain ⟨z8c, z22, z57, z8d, z58, z2a, z23, -, z59⟩ := newO X0 hx hZ hown (own_W hw 0 rfl) (own_W hw 1 rfl) (own_W hw 2 rfl) e0 (g := (mkF m 0 #[.val (.int p1), .val (.int p2), .val (.int p3), .val (.int p4), .val (.int p5), .val (.int p6), .unset, .unset, .unset, .unset] [])) rfl (hb hby at_0) (by decide) (by decide)
  obtain ⟨z0, z41⟩ : ∃ z, z = h0.size := ⟨_, rfl⟩
  rw [← z41] at z2a z23 z59
  have z9 : n0 ≤ z0 := Nat.le_trans (OL0.1 ▸ OL0.2.1) (Nat.le_of_eq z41.symm)
  have z12 : h0.size ≤ z0 := Nat.le_trans KK0.1 (Nat.le_of_eq z41.symm)
  have z5a := OL0.ext z58
  have z2e := KK0.ext z58
  have z8e : Fld Z z22 z0 y_s0 "at" "[D" .null := z23 (Or.inl (own_W hw 11 rfl)) (ty := (.array .double)) (by decide)
  have z8f : Fld Z z22 z0 y_s0 "added" "[J" .null := z23 (Or.inl (own_W hw 14 rfl)) (ty := (.array .long)) (by decide)
  have z8g : Fld Z z22 z0 y_s0 "slot" "[I" .null := z23 (Or.inl (own_W hw 17 rfl)) (ty := (.array .int)) (by decide)
  have z8h : Fld Z z22 z0 y_s0 "from" "[I" .null := z23 (Or.inl (own_W hw 19 rfl)) (ty := (.array .int)) (by decide)
  have z8i : Fld Z z22 z0 y_s0 "to" "[I" .null := z23 (Or.inl (own_W hw 21 rfl)) (ty := (.array .int)) (by decide)
  have z8j : Fld Z z22 z0 y_s0 "message" y_s1 .null := z23 (Or.inl (own_W hw 25 rfl)) (ty := (.array (.object y_s3))) (by decide)
  have z8k : Fld Z z22 z0 y_s0 "free" "[I" .null := z23 (Or.inl (own_W hw 27 rfl)) (ty := (.array .int)) (by decide)
  have z8l : Fld Z z22 z0 y_s0 "size" "I" (.int 0) := z23 (Or.inl (own_W hw 38 rfl)) (ty := .int) (by decide)
  have z8m : Fld Z z22 z0 y_s0 "additions" "J" (.long 0) := z23 (Or.inl (own_W hw 49 rfl)) (ty := .long) (by decide)
  obtain ⟨_, _, ⟨za, L797, zel, n797⟩, -, z2q, ⟨Lc797, z5b, l797, y797, z797⟩, z5c⟩ := z57.specialBack hx (y := own_m11) rfl hown (mvT hZ (own_W hw 3 rfl)) (mvT hZ (own_W hw 4 rfl)) (mvT hZ (own_W hw 5 rfl)) (by decide) (backOf (W := 1) (rmL3 l Z a0 hw [] z22 n0 p1 p2 p3 p4 p5 p6 A K z0 EN z5a z2a z8e z8f z8g z8h z8i z8j z8k z8l z8m z9) hZ (own_W hw 5 rfl) (own_W hw 2 rfl) (by decide) (by decide)) (g := (mkF m 4 #[.val (.int p1), .val (.int p2), .val (.int p3), .val (.int p4), .val (.int p5), .val (.int p6), .unset, .unset, .unset, .unset] [(.ref z0), (.ref z0)])) rfl (by rw [hml]; rfl) (Steps.refl _) (a := z0) (argsL := []) (rest := [(.ref z0)]) (lenOf own_pd4 rfl) rfl (by show 2 * 0 + _ ≤ _; exact Nat.le_of_eq rfl) (hb hby at_4) (fun _ _ => ⟨rfl, z8d, (by decide : 1 + 7 ≤ _), (by decide : 9 + 112 ≤ _)⟩)
  dsimp only [Pt.U, Pt.locs, Pt.cells, Pt.slots] at z2q l797 y797 z797 z5c z5b
  replace z2q := own_sub z2q l797 y797 z797
  obtain ⟨zi, zj, zk, zl, zm, zn, zg, zq, zr, zs, zt, zu, zv, zx, rfl, z8n, z5d, ⟨zb, z5e⟩, ⟨zc, z5f⟩, ⟨zd, z5g⟩, ⟨zy, z5h⟩, ⟨zz, z5i⟩, ⟨ze, z5j⟩, ⟨zo, z5k⟩, z6, z4, z2, z1, z3, z5, z21, z42, z43, z44, z45, z46, z47, z48, z2r, z49, z4a, z4b, z4c, z4d, z4e, z4f, z4g, z2s⟩ := z5b
  have z8o := Fr.app N0 z8n
  have z14 : z0 < zi := Nat.lt_of_lt_of_le z2a.lt z5e
  have z15 : z0 < zj := Nat.lt_of_lt_of_le z2a.lt z5f
  have z16 : z0 < zk := Nat.lt_of_lt_of_le z2a.lt z5g
  have z17 : z0 < zl := Nat.lt_of_lt_of_le z2a.lt z5h
  have z18 : z0 < zm := Nat.lt_of_lt_of_le z2a.lt z5i
  have z19 : z0 < zn := Nat.lt_of_lt_of_le z2a.lt z5j
  have zp : z0 < zg := Nat.lt_of_lt_of_le z2a.lt z5k
  have z1a : h0.size ≤ zi := Nat.le_trans z2e.1 z5e
  have z1b : h0.size ≤ zj := Nat.le_trans z2e.1 z5f
  have z1c : h0.size ≤ zk := Nat.le_trans z2e.1 z5g
  have z2t : h0.size ≤ zl := Nat.le_trans z2e.1 z5h
  have z2u : h0.size ≤ zm := Nat.le_trans z2e.1 z5i
  have z1d : h0.size ≤ zn := Nat.le_trans z2e.1 z5j
  have z24 : h0.size ≤ zg := Nat.le_trans z2e.1 z5k
  have z1s := z5a.keep z5d (allS z9 all0)
  have z4h := z2e.trans z5d (allS (Or.inr z12) all0)
  obtain ⟨cq799, kq799, z8p, zem, z8q⟩ := isOf hZ rfl z21
  obtain ⟨_, _, ⟨z11, L799, zen, n799⟩, -, z7, ⟨Lc799, z5l, l799, y799, z799⟩, z5m⟩ := z2q.virtualBack hx (y := own_m0) (z := own_m0) hown (mvT hZ (own_W hw 32 rfl)) (mvT hZ (own_W hw 33 rfl)) (notFace_of_selects (args := #[]) (mvT hZ (own_W hw 35 rfl))) (mvT hZ (own_W hw 35 rfl)) (mvT hZ (own_W hw 34 rfl)) (by decide) (backOf (W := 0) (rmL5 l Z a0 hw [] za.heap n0 p1 p2 p3 p4 p5 p6 A K z0 EN z1s z2r) hZ (own_W hw 36 rfl) (own_W hw 2 rfl) (by decide) (by decide)) z8p z8q (g := (mkF m 11 #[.val (.int p1), .val (.int p2), .val (.int p3), .val (.int p4), .val (.int p5), .val (.int p6), .val (.ref z0), .unset, .unset, .unset] [(.ref z0)])) rfl (by rw [hml]; rfl) (Steps.refl _) (argsL := []) (rest := []) (lenOf own_pd6 rfl) rfl (by show 2 * 0 + _ ≤ _; exact Nat.le_of_eq rfl) (hb hby at_11) (fun _ _ => ⟨rfl, rfl, (by decide : 8 + 0 ≤ _), (by decide : 121 + 0 ≤ _)⟩)
  dsimp only [Pt.U, Pt.locs, Pt.cells, Pt.slots] at z7 l799 y799 z799 z5m z5l
  replace z7 := own_sub z7 l799 y799 z799
  obtain ⟨rfl, z8r, z37⟩ := z5l
  have z38 := Fr.app z8o z8r
  have z39 : ∀ t, Steps p.tables e below (z11.setTop (mkF m 19 #[.val (.int p1), .val (.int p2), .val (.int p3), .val (.int p4), .val (.int p5), .val (.int p6), .val (.ref z0), .val (.int 1), .unset, .unset] [(.int (p1 &&& (3 : Int32)))])) t → Steps p.tables e below (s₁.setTop (entryFrame m #[(.int p1), (.int p2), (.int p3), (.int p4), (.int p5), (.int p6)] maxLocals)) t := fun t k => pre0 t (by
    show Steps p.tables e below (s₁.setTop (mkF m 0 #[.val (.int p1), .val (.int p2), .val (.int p3), .val (.int p4), .val (.int p5), .val (.int p6), .unset, .unset, .unset, .unset] [])) _
    refine z59 _ ?_
    show Steps p.tables e below (z8c.setTop (mkF m 3 #[.val (.int p1), .val (.int p2), .val (.int p3), .val (.int p4), .val (.int p5), .val (.int p6), .unset, .unset, .unset, .unset] [(.ref z0)])) _
    refine XS.dup z57.here hx rfl (hb hby at_3) rfl rfl ?_
    refine z5c.trans ?_
    show Steps p.tables e below (za.setTop (mkF m 7 #[.val (.int p1), .val (.int p2), .val (.int p3), .val (.int p4), .val (.int p5), .val (.int p6), .unset, .unset, .unset, .unset] [(.ref z0)])) _
    refine XS.astore z2q.here hx rfl (hb hby at_7) rfl rfl (l' := #[.val (.int p1), .val (.int p2), .val (.int p3), .val (.int p4), .val (.int p5), .val (.int p6), .val (.ref z0), .unset, .unset, .unset]) rfl ?_
    refine XS.aload z2q.here hx rfl (hb hby at_9) rfl rfl ?_
    refine z5m.trans ?_
    show Steps p.tables e below (z11.setTop (mkF m 14 #[.val (.int p1), .val (.int p2), .val (.int p3), .val (.int p4), .val (.int p5), .val (.int p6), .val (.ref z0), .unset, .unset, .unset] [(.int 1)])) _
    refine XS.istore z7.here hx rfl (hb hby at_14) rfl (l' := #[.val (.int p1), .val (.int p2), .val (.int p3), .val (.int p4), .val (.int p5), .val (.int p6), .val (.ref z0), .val (.int 1), .unset, .unset]) rfl ?_
    refine XS.iloadN z7.here hx rfl (hb hby at_16) rfl ?_
    refine XS.iconst z7.here hx rfl (hb hby at_17) ?_
    refine XS.iand z7.here hx rfl (hb hby at_18) rfl ?_
    exact k)
  obtain ⟨z8s, z8t, z2b⟩ := own_k p1
  match z8s, z8t, z2b with
  | 0, _, z2b =>
    obtain ⟨_, _, ⟨z2z, L802, zeo, n802⟩, -, z13, ⟨Lc802, z5n, l802, y802, z802⟩, z5o⟩ := Jvm.LawKit.callS z7 hx (y := own_m5) hown (mvT hZ (own_W hw 39 rfl)) (mvT hZ (own_W hw 40 rfl)) (mvT hZ (own_W hw 41 rfl)) (mvT hZ (own_W hw 42 rfl)) (by decide) (backOf (W := 0) (rmMin l Z a0 hw [] za.heap n0 A K (((p1.toUInt32 >>> ((2 : Int32) &&& 31).toUInt32).toInt32) &&& (3 : Int32)) (0 : Int32) EN z1s) hZ (own_W hw 42 rfl) (own_W hw 41 rfl) (by decide) (by decide)) (g := (mkF m 28 #[.val (.int p1), .val (.int p2), .val (.int p3), .val (.int p4), .val (.int p5), .val (.int p6), .val (.ref z0), .val (.int 1), .val (.int 0), .unset] [(.int 0), (.int (((p1.toUInt32 >>> ((2 : Int32) &&& 31).toUInt32).toInt32) &&& (3 : Int32)))])) rfl (by rw [hml]; rfl) (argsL := [(.int (((p1.toUInt32 >>> ((2 : Int32) &&& 31).toUInt32).toInt32) &&& (3 : Int32))), (.int 0)]) (rest := []) (lenOf own_pd2 rfl) rfl (by show 2 * 0 + _ ≤ _; exact Nat.le_of_eq rfl) (hb hby at_28) (fun _ _ => ⟨rfl, z37, (by decide : 8 + 0 ≤ _), (by decide : 121 + 0 ≤ _)⟩)
    dsimp only [Pt.U, Pt.locs, Pt.cells, Pt.slots] at z13 l802 y802 z802 z5o z5n
    replace z13 := own_sub z13 l802 y802 z802
    obtain ⟨rfl, z8u, z5p⟩ := z5n
    have z8v := Fr.app z38 z8u
    obtain ⟨cq803, kq803, z8w, zep, z8x⟩ := isOf hZ z5p z21
    obtain ⟨_, _, ⟨z25, L803, zeq, n803⟩, -, zw, ⟨Lc803, z5q, l803, y803, z803⟩, z5r⟩ := z13.virtualBack hx (y := own_m0) (z := own_m0) hown (mvT hZ (own_W hw 32 rfl)) (mvT hZ (own_W hw 33 rfl)) (notFace_of_selects (args := #[]) (mvT hZ (own_W hw 35 rfl))) (mvT hZ (own_W hw 35 rfl)) (mvT hZ (own_W hw 34 rfl)) (by decide) (backOf (W := 0) (rmL5 l Z a0 hw [] za.heap n0 p1 p2 p3 p4 p5 p6 A K z0 EN z1s z2r) hZ (own_W hw 36 rfl) (own_W hw 2 rfl) (by decide) (by decide)) z8w z8x (g := (mkF m 97 #[.val (.int p1), .val (.int p2), .val (.int p3), .val (.int p4), .val (.int p5), .val (.int p6), .val (.ref z0), .val (.int 1), .val (.int 0), .val (.int (own_f_rmMin (((p1.toUInt32 >>> ((2 : Int32) &&& 31).toUInt32).toInt32) &&& (3 : Int32)) (0 : Int32)))] [(.ref z0)])) rfl (by rw [hml]; rfl) (Steps.refl _) (argsL := []) (rest := []) (lenOf own_pd6 rfl) rfl (by show 2 * 0 + _ ≤ _; exact Nat.le_of_eq rfl) (hb hby at_97) (fun _ _ => ⟨rfl, z5p, (by decide : 8 + 0 ≤ _), (by decide : 121 + 0 ≤ _)⟩)
    dsimp only [Pt.U, Pt.locs, Pt.cells, Pt.slots] at zw l803 y803 z803 z5r z5q
    replace zw := own_sub zw l803 y803 z803
    obtain ⟨rfl, z8y, z5s⟩ := z5q
    have z8z := Fr.app z8v z8y
    have z90 : ∀ t, Steps p.tables e below (z25.setTop (mkF m 122 #[.val (.int p1), .val (.int p2), .val (.int p3), .val (.int p4), .val (.int p5), .val (.int p6), .val (.ref z0), .val (.int 1), .val (.int 0), .val (.int (own_f_rmMin (((p1.toUInt32 >>> ((2 : Int32) &&& 31).toUInt32).toInt32) &&& (3 : Int32)) (0 : Int32)))] [(.int (own_f_rmMin (((p1.toUInt32 >>> ((2 : Int32) &&& 31).toUInt32).toInt32) &&& (3 : Int32)) (0 : Int32)))])) t → Steps p.tables e below (s₁.setTop (entryFrame m #[(.int p1), (.int p2), (.int p3), (.int p4), (.int p5), (.int p6)] maxLocals)) t := fun t k => z39 t (by
      show Steps p.tables e below (z11.setTop (mkF m 19 #[.val (.int p1), .val (.int p2), .val (.int p3), .val (.int p4), .val (.int p5), .val (.int p6), .val (.ref z0), .val (.int 1), .unset, .unset] [(.int (p1 &&& (3 : Int32)))])) _
      rw [z2b]
      show Steps p.tables e below (z11.setTop (mkF m 19 #[.val (.int p1), .val (.int p2), .val (.int p3), .val (.int p4), .val (.int p5), .val (.int p6), .val (.ref z0), .val (.int 1), .unset, .unset] [(.int 0)])) _
      refine XS.istore z7.here hx rfl (hb hby at_19) rfl (l' := #[.val (.int p1), .val (.int p2), .val (.int p3), .val (.int p4), .val (.int p5), .val (.int p6), .val (.ref z0), .val (.int 1), .val (.int 0), .unset]) rfl ?_
      refine XS.iloadN z7.here hx rfl (hb hby at_21) rfl ?_
      refine XS.iconst z7.here hx rfl (hb hby at_22) ?_
      refine XS.iushr z7.here hx rfl (hb hby at_23) rfl ?_
      show Steps p.tables e below (z11.setTop (mkF m 24 #[.val (.int p1), .val (.int p2), .val (.int p3), .val (.int p4), .val (.int p5), .val (.int p6), .val (.ref z0), .val (.int 1), .val (.int 0), .unset] [(.int ((p1.toUInt32 >>> ((2 : Int32) &&& 31).toUInt32).toInt32))])) _
      refine XS.iconst z7.here hx rfl (hb hby at_24) ?_
      refine XS.iand z7.here hx rfl (hb hby at_25) rfl ?_
      show Steps p.tables e below (z11.setTop (mkF m 26 #[.val (.int p1), .val (.int p2), .val (.int p3), .val (.int p4), .val (.int p5), .val (.int p6), .val (.ref z0), .val (.int 1), .val (.int 0), .unset] [(.int (((p1.toUInt32 >>> ((2 : Int32) &&& 31).toUInt32).toInt32) &&& (3 : Int32)))])) _
      refine XS.iload z7.here hx rfl (hb hby at_26) rfl ?_
      refine z5o _ ?_
      show Steps p.tables e below (z2z.setTop (mkF m 31 #[.val (.int p1), .val (.int p2), .val (.int p3), .val (.int p4), .val (.int p5), .val (.int p6), .val (.ref z0), .val (.int 1), .val (.int 0), .unset] [(.int (own_f_rmMin (((p1.toUInt32 >>> ((2 : Int32) &&& 31).toUInt32).toInt32) &&& (3 : Int32)) (0 : Int32)))])) _
      refine XS.istore z13.here hx rfl (hb hby at_31) rfl (l' := #[.val (.int p1), .val (.int p2), .val (.int p3), .val (.int p4), .val (.int p5), .val (.int p6), .val (.ref z0), .val (.int 1), .val (.int 0), .val (.int (own_f_rmMin (((p1.toUInt32 >>> ((2 : Int32) &&& 31).toUInt32).toInt32) &&& (3 : Int32)) (0 : Int32)))]) rfl ?_
      refine XS.iload z13.here hx rfl (hb hby at_33) rfl ?_
      refine XS.iconst z13.here hx rfl (hb hby at_35) ?_
      refine XS.icmpYes z13.here hx rfl (pc0 := 36) (pc' := 51) rfl (hb hby at_36) rfl (tlt (by decide : (0 : Int32) < (1 : Int32))).1 (by decide) (by decide) ?_
      show Steps p.tables e below (z2z.setTop (mkF m 51 #[.val (.int p1), .val (.int p2), .val (.int p3), .val (.int p4), .val (.int p5), .val (.int p6), .val (.ref z0), .val (.int 1), .val (.int 0), .val (.int (own_f_rmMin (((p1.toUInt32 >>> ((2 : Int32) &&& 31).toUInt32).toInt32) &&& (3 : Int32)) (0 : Int32)))] [])) _
      refine XS.iload z13.here hx rfl (hb hby at_51) rfl ?_
      refine XS.iconst z13.here hx rfl (hb hby at_53) ?_
      refine XS.icmpYes z13.here hx rfl (pc0 := 54) (pc' := 72) rfl (hb hby at_54) rfl (tlt (by decide : (0 : Int32) < (2 : Int32))).1 (by decide) (by decide) ?_
      show Steps p.tables e below (z2z.setTop (mkF m 72 #[.val (.int p1), .val (.int p2), .val (.int p3), .val (.int p4), .val (.int p5), .val (.int p6), .val (.ref z0), .val (.int 1), .val (.int 0), .val (.int (own_f_rmMin (((p1.toUInt32 >>> ((2 : Int32) &&& 31).toUInt32).toInt32) &&& (3 : Int32)) (0 : Int32)))] [])) _
      refine XS.iload z13.here hx rfl (hb hby at_72) rfl ?_
      refine XS.iconst z13.here hx rfl (hb hby at_74) ?_
      refine XS.icmpYes z13.here hx rfl (pc0 := 75) (pc' := 90) rfl (hb hby at_75) rfl (tlt (by decide : (0 : Int32) < (3 : Int32))).1 (by decide) (by decide) ?_
      show Steps p.tables e below (z2z.setTop (mkF m 90 #[.val (.int p1), .val (.int p2), .val (.int p3), .val (.int p4), .val (.int p5), .val (.int p6), .val (.ref z0), .val (.int 1), .val (.int 0), .val (.int (own_f_rmMin (((p1.toUInt32 >>> ((2 : Int32) &&& 31).toUInt32).toInt32) &&& (3 : Int32)) (0 : Int32)))] [])) _
      refine XS.iload z13.here hx rfl (hb hby at_90) rfl ?_
      refine XS.ifNo z13.here hx rfl (hb hby at_92) rfl ((if0 _ _).trans (feq (by decide : ¬ ((1 : Int32) = (0 : Int32)))).1) ?_
      show Steps p.tables e below (z2z.setTop (mkF m 95 #[.val (.int p1), .val (.int p2), .val (.int p3), .val (.int p4), .val (.int p5), .val (.int p6), .val (.ref z0), .val (.int 1), .val (.int 0), .val (.int (own_f_rmMin (((p1.toUInt32 >>> ((2 : Int32) &&& 31).toUInt32).toInt32) &&& (3 : Int32)) (0 : Int32)))] [])) _
      refine XS.aload z13.here hx rfl (hb hby at_95) rfl rfl ?_
      refine z5r.trans ?_
      show Steps p.tables e below (z25.setTop (mkF m 100 #[.val (.int p1), .val (.int p2), .val (.int p3), .val (.int p4), .val (.int p5), .val (.int p6), .val (.ref z0), .val (.int 1), .val (.int 0), .val (.int (own_f_rmMin (((p1.toUInt32 >>> ((2 : Int32) &&& 31).toUInt32).toInt32) &&& (3 : Int32)) (0 : Int32)))] [(.int 1)])) _
      refine XS.iload zw.here hx rfl (hb hby at_100) rfl ?_
      refine XS.ifNo zw.here hx rfl (hb hby at_102) rfl ((if0 _ _).trans (teq (by decide : (0 : Int32) = (0 : Int32))).2) ?_
      show Steps p.tables e below (z25.setTop (mkF m 105 #[.val (.int p1), .val (.int p2), .val (.int p3), .val (.int p4), .val (.int p5), .val (.int p6), .val (.ref z0), .val (.int 1), .val (.int 0), .val (.int (own_f_rmMin (((p1.toUInt32 >>> ((2 : Int32) &&& 31).toUInt32).toInt32) &&& (3 : Int32)) (0 : Int32)))] [(.int 1)])) _
      refine XS.iconst zw.here hx rfl (hb hby at_105) ?_
      refine XS.goto zw.here hx rfl (pc0 := 106) (pc' := 110) rfl (hb hby at_106) (by decide) (by decide) ?_
      refine XS.icmpNo zw.here hx rfl (hb hby at_110) rfl (teq (by decide : (1 : Int32) = (1 : Int32))).2 ?_
      show Steps p.tables e below (z25.setTop (mkF m 113 #[.val (.int p1), .val (.int p2), .val (.int p3), .val (.int p4), .val (.int p5), .val (.int p6), .val (.ref z0), .val (.int 1), .val (.int 0), .val (.int (own_f_rmMin (((p1.toUInt32 >>> ((2 : Int32) &&& 31).toUInt32).toInt32) &&& (3 : Int32)) (0 : Int32)))] [])) _
      refine XS.iconst zw.here hx rfl (hb hby at_113) ?_
      refine XS.goto zw.here hx rfl (pc0 := 114) (pc' := 118) rfl (hb hby at_114) (by decide) (by decide) ?_
      refine XS.istore zw.here hx rfl (hb hby at_118) rfl (l' := #[.val (.int p1), .val (.int p2), .val (.int p3), .val (.int p4), .val (.int p5), .val (.int p6), .val (.ref z0), .val (.int 1), .val (.int 0), .val (.int (own_f_rmMin (((p1.toUInt32 >>> ((2 : Int32) &&& 31).toUInt32).toInt32) &&& (3 : Int32)) (0 : Int32)))]) rfl ?_
      refine XS.iload zw.here hx rfl (hb hby at_120) rfl ?_
      exact k)
    obtain ⟨z91, z92, z4i⟩ := own_r0 _ (own_k ((p1.toUInt32 >>> ((2 : Int32) &&& 31).toUInt32).toInt32))
    match z91, z92, z4i with
    | 0, _, z4i =>
      obtain ⟨cq806, kq806, z93, zer, z94⟩ := isOf hZ z5s z21
      obtain ⟨_, _, ⟨z3a, L806, zes, n806⟩, -, z1f, ⟨Lc806, z5t, l806, y806, z806⟩, z5u⟩ := zw.virtualBack hx (y := own_m0) (z := own_m0) hown (mvT hZ (own_W hw 32 rfl)) (mvT hZ (own_W hw 33 rfl)) (notFace_of_selects (args := #[]) (mvT hZ (own_W hw 35 rfl))) (mvT hZ (own_W hw 35 rfl)) (mvT hZ (own_W hw 34 rfl)) (by decide) (backOf (W := 0) (rmL5 l Z a0 hw [] za.heap n0 p1 p2 p3 p4 p5 p6 A K z0 EN z1s z2r) hZ (own_W hw 36 rfl) (own_W hw 2 rfl) (by decide) (by decide)) z93 z94 (g := (mkF m 160 #[.val (.int p1), .val (.int p2), .val (.int p3), .val (.int p4), .val (.int p5), .val (.int p6), .val (.ref z0), .val (.int 1), .val (.int 0), .val (.int 0)] [(.ref z0)])) rfl (by rw [hml]; rfl) (Steps.refl _) (argsL := []) (rest := []) (lenOf own_pd6 rfl) rfl (by show 2 * 0 + _ ≤ _; exact Nat.le_of_eq rfl) (hb hby at_160) (fun _ _ => ⟨rfl, z5s, (by decide : 8 + 0 ≤ _), (by decide : 121 + 0 ≤ _)⟩)
      dsimp only [Pt.U, Pt.locs, Pt.cells, Pt.slots] at z1f l806 y806 z806 z5u z5t
      replace z1f := own_sub z1f l806 y806 z806
      obtain ⟨rfl, z95, zet⟩ := z5t
      have z96 := Fr.app z8z z95
      obtain ⟨fs, hr, hrun, hended, hW, hsame⟩ := z1f.leave (v := some (.int 1)) (fun h => by rw [Bd.returns] at h; cases h)
      refine ⟨_, _, z90 _ ?_, hrun, hended, _, _, rfl, ?_, ⟨_, rfl⟩, hW, hsame.mono (by decide) (by decide)⟩
      · show Steps p.tables e below (z25.setTop (mkF m 122 #[.val (.int p1), .val (.int p2), .val (.int p3), .val (.int p4), .val (.int p5), .val (.int p6), .val (.ref z0), .val (.int 1), .val (.int 0), .val (.int (own_f_rmMin (((p1.toUInt32 >>> ((2 : Int32) &&& 31).toUInt32).toInt32) &&& (3 : Int32)) (0 : Int32)))] [(.int (own_f_rmMin (((p1.toUInt32 >>> ((2 : Int32) &&& 31).toUInt32).toInt32) &&& (3 : Int32)) (0 : Int32)))])) _
        rw [z4i]
        show Steps p.tables e below (z25.setTop (mkF m 122 #[.val (.int p1), .val (.int p2), .val (.int p3), .val (.int p4), .val (.int p5), .val (.int p6), .val (.ref z0), .val (.int 1), .val (.int 0), .val (.int 0)] [(.int 0)])) _
        refine XS.iconst zw.here hx rfl (hb hby at_122) ?_
        refine XS.icmpYes zw.here hx rfl (pc0 := 123) (pc' := 131) rfl (hb hby at_123) rfl (tlt (by decide : (0 : Int32) < (1 : Int32))).1 (by decide) (by decide) ?_
        show Steps p.tables e below (z25.setTop (mkF m 131 #[.val (.int p1), .val (.int p2), .val (.int p3), .val (.int p4), .val (.int p5), .val (.int p6), .val (.ref z0), .val (.int 1), .val (.int 0), .val (.int 0)] [])) _
        refine XS.iload zw.here hx rfl (hb hby at_131) rfl ?_
        refine XS.iconst zw.here hx rfl (hb hby at_133) ?_
        refine XS.icmpYes zw.here hx rfl (pc0 := 134) (pc' := 142) rfl (hb hby at_134) rfl (tlt (by decide : (0 : Int32) < (2 : Int32))).1 (by decide) (by decide) ?_
        show Steps p.tables e below (z25.setTop (mkF m 142 #[.val (.int p1), .val (.int p2), .val (.int p3), .val (.int p4), .val (.int p5), .val (.int p6), .val (.ref z0), .val (.int 1), .val (.int 0), .val (.int 0)] [])) _
        refine XS.iload zw.here hx rfl (hb hby at_142) rfl ?_
        refine XS.iconst zw.here hx rfl (hb hby at_144) ?_
        refine XS.icmpYes zw.here hx rfl (pc0 := 145) (pc' := 153) rfl (hb hby at_145) rfl (tlt (by decide : (0 : Int32) < (3 : Int32))).1 (by decide) (by decide) ?_
        show Steps p.tables e below (z25.setTop (mkF m 153 #[.val (.int p1), .val (.int p2), .val (.int p3), .val (.int p4), .val (.int p5), .val (.int p6), .val (.ref z0), .val (.int 1), .val (.int 0), .val (.int 0)] [])) _
        refine XS.iload zw.here hx rfl (hb hby at_153) rfl ?_
        refine XS.ifNo zw.here hx rfl (hb hby at_155) rfl ((if0 _ _).trans (feq (by decide : ¬ ((1 : Int32) = (0 : Int32)))).1) ?_
        show Steps p.tables e below (z25.setTop (mkF m 158 #[.val (.int p1), .val (.int p2), .val (.int p3), .val (.int p4), .val (.int p5), .val (.int p6), .val (.ref z0), .val (.int 1), .val (.int 0), .val (.int 0)] [])) _
        refine XS.aload zw.here hx rfl (hb hby at_158) rfl rfl ?_
        refine z5u.trans ?_
        show Steps p.tables e below (z3a.setTop (mkF m 163 #[.val (.int p1), .val (.int p2), .val (.int p3), .val (.int p4), .val (.int p5), .val (.int p6), .val (.ref z0), .val (.int 1), .val (.int 0), .val (.int 0)] [(.int 1)])) _
        refine XS.iload z1f.here hx rfl (hb hby at_163) rfl ?_
        refine XS.iload z1f.here hx rfl (hb hby at_165) rfl ?_
        refine XS.icmpNo z1f.here hx rfl (hb hby at_167) rfl (teq (by decide : (0 : Int32) = (0 : Int32))).2 ?_
        show Steps p.tables e below (z3a.setTop (mkF m 170 #[.val (.int p1), .val (.int p2), .val (.int p3), .val (.int p4), .val (.int p5), .val (.int p6), .val (.ref z0), .val (.int 1), .val (.int 0), .val (.int 0)] [(.int 1)])) _
        refine XS.iconst z1f.here hx rfl (hb hby at_170) ?_
        refine XS.goto z1f.here hx rfl (pc0 := 171) (pc' := 175) rfl (hb hby at_171) (by decide) (by decide) ?_
        refine XS.icmpNo z1f.here hx rfl (hb hby at_175) rfl (teq (by decide : (1 : Int32) = (1 : Int32))).2 ?_
        show Steps p.tables e below (z3a.setTop (mkF m 178 #[.val (.int p1), .val (.int p2), .val (.int p3), .val (.int p4), .val (.int p5), .val (.int p6), .val (.ref z0), .val (.int 1), .val (.int 0), .val (.int 0)] [])) _
        refine XS.iconst z1f.here hx rfl (hb hby at_178) ?_
        refine XS.goto z1f.here hx rfl (pc0 := 179) (pc' := 183) rfl (hb hby at_179) (by decide) (by decide) ?_
        refine XS.istore z1f.here hx rfl (hb hby at_183) rfl (l' := #[.val (.int p1), .val (.int p2), .val (.int p3), .val (.int p4), .val (.int p5), .val (.int p6), .val (.ref z0), .val (.int 1), .val (.int 0), .val (.int 0)]) rfl ?_
        refine XS.iload z1f.here hx rfl (hb hby at_185) rfl ?_
        exact retN z1f hx (t := .boolean) Bd.returns (by simp) (hb hby at_187) hr
      · show LQ n0 _ z3a.heap _
        exact ⟨rfl, z96, trivial⟩
    | kk + 1, h, _ => exact absurd h (by omega)
  | 1, _, z2b =>
    obtain ⟨_, _, ⟨z4j, L807, zeu, n807⟩, -, z1j, ⟨Lc807, z5v, l807, y807, z807⟩, z5w⟩ := Jvm.LawKit.callS z7 hx (y := own_m5) hown (mvT hZ (own_W hw 39 rfl)) (mvT hZ (own_W hw 40 rfl)) (mvT hZ (own_W hw 41 rfl)) (mvT hZ (own_W hw 42 rfl)) (by decide) (backOf (W := 0) (rmMin l Z a0 hw [] za.heap n0 A K (((p1.toUInt32 >>> ((2 : Int32) &&& 31).toUInt32).toInt32) &&& (3 : Int32)) (1 : Int32) EN z1s) hZ (own_W hw 42 rfl) (own_W hw 41 rfl) (by decide) (by decide)) (g := (mkF m 28 #[.val (.int p1), .val (.int p2), .val (.int p3), .val (.int p4), .val (.int p5), .val (.int p6), .val (.ref z0), .val (.int 1), .val (.int 1), .unset] [(.int 1), (.int (((p1.toUInt32 >>> ((2 : Int32) &&& 31).toUInt32).toInt32) &&& (3 : Int32)))])) rfl (by rw [hml]; rfl) (argsL := [(.int (((p1.toUInt32 >>> ((2 : Int32) &&& 31).toUInt32).toInt32) &&& (3 : Int32))), (.int 1)]) (rest := []) (lenOf own_pd2 rfl) rfl (by show 2 * 0 + _ ≤ _; exact Nat.le_of_eq rfl) (hb hby at_28) (fun _ _ => ⟨rfl, z37, (by decide : 8 + 0 ≤ _), (by decide : 121 + 0 ≤ _)⟩)
    dsimp only [Pt.U, Pt.locs, Pt.cells, Pt.slots] at z1j l807 y807 z807 z5w z5v
    replace z1j := own_sub z1j l807 y807 z807
    obtain ⟨rfl, z97, z5x⟩ := z5v
    have z98 := Fr.app z38 z97
    have z99 : Arv Z za.heap zi zq .double (16 : Int32) [(.double (Jvm.FP.l2d ((0 : Int32).toInt64))), (.double (Jvm.FP.l2d ((0 : Int32).toInt64))), (.double (Jvm.FP.l2d ((0 : Int32).toInt64)))] (.double (Jvm.FP.l2d ((0 : Int32).toInt64))) := Arv.pad z4a (pad_rep [] (.double (Jvm.FP.l2d ((0 : Int32).toInt64))) 3)
    have z9a : Arv Z za.heap zj zr .long (16 : Int32) [(.long 0), (.long 0), (.long 0)] (.long 0) := Arv.pad z4b (pad_rep [] (.long 0) 3)
    have z9b : Arv Z za.heap zk zs .int 16 [(.int 0), (.int 0), (.int 0)] (.int 0) := Arv.pad z4c (pad_rep [] (.int 0) 3)
    have z9c : Arv Z za.heap zl zt .int 16 [(.int 0), (.int 0), (.int 0)] (.int 0) := Arv.pad z4d (pad_rep [] (.int 0) 3)
    have z9d : Arv Z za.heap zm zu .int 16 [(.int 0), (.int 0), (.int 0)] (.int 0) := Arv.pad z4e (pad_rep [] (.int 0) 3)
    have z9e : own_AM Z za.heap zn zv (.object y_s3) := ⟨_, _, z4f⟩
    have z9f : own_QB Z za.heap (0 : Int32) z0 zi zj zk zl zm zn zg zq zr zs zt zu zv := ⟨(0 : Int32), (0 : Int32), (0 : Int32), (0 : Int64), (0 : Int64), (0 : Int64), (0 : Int32), (0 : Int32), (0 : Int32), (0 : Int32), (0 : Int32), (0 : Int32), (0 : Int32), (0 : Int32), (0 : Int32), (0 : Int64), by decide, by decide, by decide, by decide, by decide, by decide, z21, z42, z43, z44, z45, z46, z47, z48, z2r, z49, z99, z9a, z9b, z9c, z9d, z9e, z4g⟩
    obtain ⟨cq815, kq815, z9g, zev, z9h⟩ := isOf hZ z5x z21
    obtain ⟨_, _, ⟨z2f, L815, zew, n815⟩, -, z1t, ⟨Lc815, z5y, l815, y815, z815⟩, z5z⟩ := z1j.virtualBack hx (y := own_m3) (z := own_m3) hown (mvT hZ (own_W hw 43 rfl)) (mvT hZ (own_W hw 44 rfl)) (notFace_of_selects (args := #[]) (mvT hZ (own_W hw 46 rfl))) (mvT hZ (own_W hw 46 rfl)) (mvT hZ (own_W hw 45 rfl)) (by decide) (backOf (W := 0) (wA0 l Z a0 hw [] za.heap n0 A K z0 zi zj zk zl zm zn zg zq zr zs zt zu zv zx p2 p5 p6 EN z1s z9f z2s (Nat.ne_of_lt z14) (Nat.ne_of_lt z15) (Nat.ne_of_lt z16) (Nat.ne_of_lt z17) (Nat.ne_of_lt z18) (Nat.ne_of_lt z19) (Nat.ne_of_lt zp) (Nat.ne_of_lt z6) (Nat.ne_of_lt (Nat.lt_trans z6 z4)) (Nat.ne_of_lt (Nat.lt_trans (Nat.lt_trans z6 z4) z2)) (Nat.ne_of_lt (Nat.lt_trans (Nat.lt_trans (Nat.lt_trans z6 z4) z2) z1)) (Nat.ne_of_lt (Nat.lt_trans (Nat.lt_trans (Nat.lt_trans (Nat.lt_trans z6 z4) z2) z1) z3)) (Nat.ne_of_lt (Nat.lt_trans (Nat.lt_trans (Nat.lt_trans (Nat.lt_trans (Nat.lt_trans z6 z4) z2) z1) z3) z5)) (Nat.ne_of_lt z4) (Nat.ne_of_lt (Nat.lt_trans z4 z2)) (Nat.ne_of_lt (Nat.lt_trans (Nat.lt_trans z4 z2) z1)) (Nat.ne_of_lt (Nat.lt_trans (Nat.lt_trans (Nat.lt_trans z4 z2) z1) z3)) (Nat.ne_of_lt (Nat.lt_trans (Nat.lt_trans (Nat.lt_trans (Nat.lt_trans z4 z2) z1) z3) z5)) (Nat.ne_of_lt z2) (Nat.ne_of_lt (Nat.lt_trans z2 z1)) (Nat.ne_of_lt (Nat.lt_trans (Nat.lt_trans z2 z1) z3)) (Nat.ne_of_lt (Nat.lt_trans (Nat.lt_trans (Nat.lt_trans z2 z1) z3) z5)) (Nat.ne_of_lt z1) (Nat.ne_of_lt (Nat.lt_trans z1 z3)) (Nat.ne_of_lt (Nat.lt_trans (Nat.lt_trans z1 z3) z5)) (Nat.ne_of_lt z3) (Nat.ne_of_lt (Nat.lt_trans z3 z5)) (Nat.ne_of_lt z5) z9 zb zc zd zy zz ze zo) hZ (own_W hw 47 rfl) (own_W hw 2 rfl) (by decide) (by decide)) z9g z9h (g := (mkF m 48 #[.val (.int p1), .val (.int p2), .val (.int p3), .val (.int p4), .val (.int p5), .val (.int p6), .val (.ref z0), .val (.int 1), .val (.int 1), .val (.int (own_f_rmMin (((p1.toUInt32 >>> ((2 : Int32) &&& 31).toUInt32).toInt32) &&& (3 : Int32)) (1 : Int32)))] [.null, (.int p6), (.int p5), (.double (Jvm.FP.l2d (p2.toInt64))), (.ref z0)])) rfl (by rw [hml]; rfl) (Steps.refl _) (argsL := [(.double (Jvm.FP.l2d (p2.toInt64))), (.int p5), (.int p6), .null]) (rest := []) (lenOf own_pd7 rfl) rfl (by show 2 * 0 + _ ≤ _; exact Nat.le_of_eq rfl) (hb hby at_48) (fun _ _ => ⟨rfl, z5x, (by decide : 8 + 0 ≤ _), (by decide : 121 + 0 ≤ _)⟩)
    dsimp only [Pt.U, Pt.locs, Pt.cells, Pt.slots] at z1t l815 y815 z815 z5z z5y
    replace z1t := own_sub z1t l815 y815 z815
    obtain ⟨rfl, z9i, z3b, fB815⟩ := z5y
    have z9j := Fr.app z98 z9i
    have z3c := z1s.keep z3b (allS zy (allS zz (allS ze (allS z9 (allS zd (allS zc (allS zb all0)))))))
    have z9k := z4h.trans z3b (allS (Or.inr z2t) (allS (Or.inr z2u) (allS (Or.inr z1d) (allS (Or.inr z12) (allS (Or.inr z1c) (allS (Or.inr z1b) (allS (Or.inr z1a) all0)))))))
    have z3d := (z21.keep z3b)
    have z9l := own_QB.size fB815
    obtain ⟨cq819, kq819, z9m, zex, z9n⟩ := isOf hZ rfl z3d
    obtain ⟨_, _, ⟨z1u, L819, zey, n819⟩, -, zh, ⟨Lc819, z60, l819, y819, z819⟩, z61⟩ := z1t.virtualBack hx (y := own_m0) (z := own_m0) hown (mvT hZ (own_W hw 32 rfl)) (mvT hZ (own_W hw 33 rfl)) (notFace_of_selects (args := #[]) (mvT hZ (own_W hw 35 rfl))) (mvT hZ (own_W hw 35 rfl)) (mvT hZ (own_W hw 34 rfl)) (by decide) (backOf (W := 0) (rmL6 l Z a0 hw [] z2f.heap n0 p1 p2 p3 p4 p5 p6 A K z0 EN z3c z9l) hZ (own_W hw 36 rfl) (own_W hw 2 rfl) (by decide) (by decide)) z9m z9n (g := (mkF m 97 #[.val (.int p1), .val (.int p2), .val (.int p3), .val (.int p4), .val (.int p5), .val (.int p6), .val (.ref z0), .val (.int 1), .val (.int 1), .val (.int (own_f_rmMin (((p1.toUInt32 >>> ((2 : Int32) &&& 31).toUInt32).toInt32) &&& (3 : Int32)) (1 : Int32)))] [(.ref z0)])) rfl (by rw [hml]; rfl) (Steps.refl _) (argsL := []) (rest := []) (lenOf own_pd6 rfl) rfl (by show 2 * 0 + _ ≤ _; exact Nat.le_of_eq rfl) (hb hby at_97) (fun _ _ => ⟨rfl, rfl, (by decide : 8 + 0 ≤ _), (by decide : 121 + 0 ≤ _)⟩)
    dsimp only [Pt.U, Pt.locs, Pt.cells, Pt.slots] at zh l819 y819 z819 z61 z60
    replace zh := own_sub zh l819 y819 z819
    obtain ⟨rfl, z9o, z3e⟩ := z60
    have z62 := Fr.app z9j z9o
    have z63 : ∀ t, Steps p.tables e below (z1u.setTop (mkF m 122 #[.val (.int p1), .val (.int p2), .val (.int p3), .val (.int p4), .val (.int p5), .val (.int p6), .val (.ref z0), .val (.int 1), .val (.int 1), .val (.int (own_f_rmMin (((p1.toUInt32 >>> ((2 : Int32) &&& 31).toUInt32).toInt32) &&& (3 : Int32)) (1 : Int32)))] [(.int (own_f_rmMin (((p1.toUInt32 >>> ((2 : Int32) &&& 31).toUInt32).toInt32) &&& (3 : Int32)) (1 : Int32)))])) t → Steps p.tables e below (s₁.setTop (entryFrame m #[(.int p1), (.int p2), (.int p3), (.int p4), (.int p5), (.int p6)] maxLocals)) t := fun t k => z39 t (by
      show Steps p.tables e below (z11.setTop (mkF m 19 #[.val (.int p1), .val (.int p2), .val (.int p3), .val (.int p4), .val (.int p5), .val (.int p6), .val (.ref z0), .val (.int 1), .unset, .unset] [(.int (p1 &&& (3 : Int32)))])) _
      rw [z2b]
      show Steps p.tables e below (z11.setTop (mkF m 19 #[.val (.int p1), .val (.int p2), .val (.int p3), .val (.int p4), .val (.int p5), .val (.int p6), .val (.ref z0), .val (.int 1), .unset, .unset] [(.int 1)])) _
      refine XS.istore z7.here hx rfl (hb hby at_19) rfl (l' := #[.val (.int p1), .val (.int p2), .val (.int p3), .val (.int p4), .val (.int p5), .val (.int p6), .val (.ref z0), .val (.int 1), .val (.int 1), .unset]) rfl ?_
      refine XS.iloadN z7.here hx rfl (hb hby at_21) rfl ?_
      refine XS.iconst z7.here hx rfl (hb hby at_22) ?_
      refine XS.iushr z7.here hx rfl (hb hby at_23) rfl ?_
      show Steps p.tables e below (z11.setTop (mkF m 24 #[.val (.int p1), .val (.int p2), .val (.int p3), .val (.int p4), .val (.int p5), .val (.int p6), .val (.ref z0), .val (.int 1), .val (.int 1), .unset] [(.int ((p1.toUInt32 >>> ((2 : Int32) &&& 31).toUInt32).toInt32))])) _
      refine XS.iconst z7.here hx rfl (hb hby at_24) ?_
      refine XS.iand z7.here hx rfl (hb hby at_25) rfl ?_
      show Steps p.tables e below (z11.setTop (mkF m 26 #[.val (.int p1), .val (.int p2), .val (.int p3), .val (.int p4), .val (.int p5), .val (.int p6), .val (.ref z0), .val (.int 1), .val (.int 1), .unset] [(.int (((p1.toUInt32 >>> ((2 : Int32) &&& 31).toUInt32).toInt32) &&& (3 : Int32)))])) _
      refine XS.iload z7.here hx rfl (hb hby at_26) rfl ?_
      refine z5w _ ?_
      show Steps p.tables e below (z4j.setTop (mkF m 31 #[.val (.int p1), .val (.int p2), .val (.int p3), .val (.int p4), .val (.int p5), .val (.int p6), .val (.ref z0), .val (.int 1), .val (.int 1), .unset] [(.int (own_f_rmMin (((p1.toUInt32 >>> ((2 : Int32) &&& 31).toUInt32).toInt32) &&& (3 : Int32)) (1 : Int32)))])) _
      refine XS.istore z1j.here hx rfl (hb hby at_31) rfl (l' := #[.val (.int p1), .val (.int p2), .val (.int p3), .val (.int p4), .val (.int p5), .val (.int p6), .val (.ref z0), .val (.int 1), .val (.int 1), .val (.int (own_f_rmMin (((p1.toUInt32 >>> ((2 : Int32) &&& 31).toUInt32).toInt32) &&& (3 : Int32)) (1 : Int32)))]) rfl ?_
      refine XS.iload z1j.here hx rfl (hb hby at_33) rfl ?_
      refine XS.iconst z1j.here hx rfl (hb hby at_35) ?_
      refine XS.icmpNo z1j.here hx rfl (hb hby at_36) rfl (flt (by decide : ¬ ((1 : Int32) < (1 : Int32)))).1 ?_
      show Steps p.tables e below (z4j.setTop (mkF m 39 #[.val (.int p1), .val (.int p2), .val (.int p3), .val (.int p4), .val (.int p5), .val (.int p6), .val (.ref z0), .val (.int 1), .val (.int 1), .val (.int (own_f_rmMin (((p1.toUInt32 >>> ((2 : Int32) &&& 31).toUInt32).toInt32) &&& (3 : Int32)) (1 : Int32)))] [])) _
      refine XS.aload z1j.here hx rfl (hb hby at_39) rfl rfl ?_
      refine XS.iloadN z1j.here hx rfl (hb hby at_41) rfl ?_
      refine XS.i2dS z1j.here hx rfl (hb hby at_42) rfl (i2d_w _) ?_
      show Steps p.tables e below (z4j.setTop (mkF m 43 #[.val (.int p1), .val (.int p2), .val (.int p3), .val (.int p4), .val (.int p5), .val (.int p6), .val (.ref z0), .val (.int 1), .val (.int 1), .val (.int (own_f_rmMin (((p1.toUInt32 >>> ((2 : Int32) &&& 31).toUInt32).toInt32) &&& (3 : Int32)) (1 : Int32)))] [(.double (Jvm.FP.l2d (p2.toInt64))), (.ref z0)])) _
      refine XS.iload z1j.here hx rfl (hb hby at_43) rfl ?_
      refine XS.iload z1j.here hx rfl (hb hby at_45) rfl ?_
      refine XS.aconstNull z1j.here hx rfl (hb hby at_47) ?_
      refine z5z.trans ?_
      show Steps p.tables e below (z2f.setTop (mkF m 51 #[.val (.int p1), .val (.int p2), .val (.int p3), .val (.int p4), .val (.int p5), .val (.int p6), .val (.ref z0), .val (.int 1), .val (.int 1), .val (.int (own_f_rmMin (((p1.toUInt32 >>> ((2 : Int32) &&& 31).toUInt32).toInt32) &&& (3 : Int32)) (1 : Int32)))] [])) _
      refine XS.iload z1t.here hx rfl (hb hby at_51) rfl ?_
      refine XS.iconst z1t.here hx rfl (hb hby at_53) ?_
      refine XS.icmpYes z1t.here hx rfl (pc0 := 54) (pc' := 72) rfl (hb hby at_54) rfl (tlt (by decide : (1 : Int32) < (2 : Int32))).1 (by decide) (by decide) ?_
      show Steps p.tables e below (z2f.setTop (mkF m 72 #[.val (.int p1), .val (.int p2), .val (.int p3), .val (.int p4), .val (.int p5), .val (.int p6), .val (.ref z0), .val (.int 1), .val (.int 1), .val (.int (own_f_rmMin (((p1.toUInt32 >>> ((2 : Int32) &&& 31).toUInt32).toInt32) &&& (3 : Int32)) (1 : Int32)))] [])) _
      refine XS.iload z1t.here hx rfl (hb hby at_72) rfl ?_
      refine XS.iconst z1t.here hx rfl (hb hby at_74) ?_
      refine XS.icmpYes z1t.here hx rfl (pc0 := 75) (pc' := 90) rfl (hb hby at_75) rfl (tlt (by decide : (1 : Int32) < (3 : Int32))).1 (by decide) (by decide) ?_
      show Steps p.tables e below (z2f.setTop (mkF m 90 #[.val (.int p1), .val (.int p2), .val (.int p3), .val (.int p4), .val (.int p5), .val (.int p6), .val (.ref z0), .val (.int 1), .val (.int 1), .val (.int (own_f_rmMin (((p1.toUInt32 >>> ((2 : Int32) &&& 31).toUInt32).toInt32) &&& (3 : Int32)) (1 : Int32)))] [])) _
      refine XS.iload z1t.here hx rfl (hb hby at_90) rfl ?_
      refine XS.ifNo z1t.here hx rfl (hb hby at_92) rfl ((if0 _ _).trans (feq (by decide : ¬ ((1 : Int32) = (0 : Int32)))).1) ?_
      show Steps p.tables e below (z2f.setTop (mkF m 95 #[.val (.int p1), .val (.int p2), .val (.int p3), .val (.int p4), .val (.int p5), .val (.int p6), .val (.ref z0), .val (.int 1), .val (.int 1), .val (.int (own_f_rmMin (((p1.toUInt32 >>> ((2 : Int32) &&& 31).toUInt32).toInt32) &&& (3 : Int32)) (1 : Int32)))] [])) _
      refine XS.aload z1t.here hx rfl (hb hby at_95) rfl rfl ?_
      refine z61.trans ?_
      show Steps p.tables e below (z1u.setTop (mkF m 100 #[.val (.int p1), .val (.int p2), .val (.int p3), .val (.int p4), .val (.int p5), .val (.int p6), .val (.ref z0), .val (.int 1), .val (.int 1), .val (.int (own_f_rmMin (((p1.toUInt32 >>> ((2 : Int32) &&& 31).toUInt32).toInt32) &&& (3 : Int32)) (1 : Int32)))] [(.int 0)])) _
      refine XS.iload zh.here hx rfl (hb hby at_100) rfl ?_
      refine XS.ifYes zh.here hx rfl (pc0 := 102) (pc' := 109) rfl (hb hby at_102) rfl ((if0 _ _).trans (feq (by decide : ¬ ((1 : Int32) = (0 : Int32)))).2) (by decide) (by decide) ?_
      show Steps p.tables e below (z1u.setTop (mkF m 109 #[.val (.int p1), .val (.int p2), .val (.int p3), .val (.int p4), .val (.int p5), .val (.int p6), .val (.ref z0), .val (.int 1), .val (.int 1), .val (.int (own_f_rmMin (((p1.toUInt32 >>> ((2 : Int32) &&& 31).toUInt32).toInt32) &&& (3 : Int32)) (1 : Int32)))] [(.int 0)])) _
      refine XS.iconst zh.here hx rfl (hb hby at_109) ?_
      refine XS.icmpNo zh.here hx rfl (hb hby at_110) rfl (teq (by decide : (0 : Int32) = (0 : Int32))).2 ?_
      show Steps p.tables e below (z1u.setTop (mkF m 113 #[.val (.int p1), .val (.int p2), .val (.int p3), .val (.int p4), .val (.int p5), .val (.int p6), .val (.ref z0), .val (.int 1), .val (.int 1), .val (.int (own_f_rmMin (((p1.toUInt32 >>> ((2 : Int32) &&& 31).toUInt32).toInt32) &&& (3 : Int32)) (1 : Int32)))] [])) _
      refine XS.iconst zh.here hx rfl (hb hby at_113) ?_
      refine XS.goto zh.here hx rfl (pc0 := 114) (pc' := 118) rfl (hb hby at_114) (by decide) (by decide) ?_
      refine XS.istore zh.here hx rfl (hb hby at_118) rfl (l' := #[.val (.int p1), .val (.int p2), .val (.int p3), .val (.int p4), .val (.int p5), .val (.int p6), .val (.ref z0), .val (.int 1), .val (.int 1), .val (.int (own_f_rmMin (((p1.toUInt32 >>> ((2 : Int32) &&& 31).toUInt32).toInt32) &&& (3 : Int32)) (1 : Int32)))]) rfl ?_
      refine XS.iload zh.here hx rfl (hb hby at_120) rfl ?_
      exact k)
    obtain ⟨z9p, z9q, z30⟩ := own_r1 _ (own_k ((p1.toUInt32 >>> ((2 : Int32) &&& 31).toUInt32).toInt32))
    match z9p, z9q, z30 with
    | 0, _, z30 =>
      have z9r := own_QB.size fB815
      obtain ⟨cq823, kq823, z9s, zez, z9t⟩ := isOf hZ z3e z3d
      obtain ⟨_, _, ⟨z3f, L823, zf0, n823⟩, -, z1k, ⟨Lc823, z64, l823, y823, z823⟩, z65⟩ := zh.virtualBack hx (y := own_m0) (z := own_m0) hown (mvT hZ (own_W hw 32 rfl)) (mvT hZ (own_W hw 33 rfl)) (notFace_of_selects (args := #[]) (mvT hZ (own_W hw 35 rfl))) (mvT hZ (own_W hw 35 rfl)) (mvT hZ (own_W hw 34 rfl)) (by decide) (backOf (W := 0) (rmL6 l Z a0 hw [] z2f.heap n0 p1 p2 p3 p4 p5 p6 A K z0 EN z3c z9r) hZ (own_W hw 36 rfl) (own_W hw 2 rfl) (by decide) (by decide)) z9s z9t (g := (mkF m 160 #[.val (.int p1), .val (.int p2), .val (.int p3), .val (.int p4), .val (.int p5), .val (.int p6), .val (.ref z0), .val (.int 1), .val (.int 1), .val (.int 0)] [(.ref z0)])) rfl (by rw [hml]; rfl) (Steps.refl _) (argsL := []) (rest := []) (lenOf own_pd6 rfl) rfl (by show 2 * 0 + _ ≤ _; exact Nat.le_of_eq rfl) (hb hby at_160) (fun _ _ => ⟨rfl, z3e, (by decide : 8 + 0 ≤ _), (by decide : 121 + 0 ≤ _)⟩)
      dsimp only [Pt.U, Pt.locs, Pt.cells, Pt.slots] at z1k l823 y823 z823 z65 z64
      replace z1k := own_sub z1k l823 y823 z823
      obtain ⟨rfl, z9u, zf1⟩ := z64
      have z9v := Fr.app z62 z9u
      obtain ⟨fs, hr, hrun, hended, hW, hsame⟩ := z1k.leave (v := some (.int 1)) (fun h => by rw [Bd.returns] at h; cases h)
      refine ⟨_, _, z63 _ ?_, hrun, hended, _, _, rfl, ?_, ⟨_, rfl⟩, hW, hsame.mono (by decide) (by decide)⟩
      · show Steps p.tables e below (z1u.setTop (mkF m 122 #[.val (.int p1), .val (.int p2), .val (.int p3), .val (.int p4), .val (.int p5), .val (.int p6), .val (.ref z0), .val (.int 1), .val (.int 1), .val (.int (own_f_rmMin (((p1.toUInt32 >>> ((2 : Int32) &&& 31).toUInt32).toInt32) &&& (3 : Int32)) (1 : Int32)))] [(.int (own_f_rmMin (((p1.toUInt32 >>> ((2 : Int32) &&& 31).toUInt32).toInt32) &&& (3 : Int32)) (1 : Int32)))])) _
        rw [z30]
        show Steps p.tables e below (z1u.setTop (mkF m 122 #[.val (.int p1), .val (.int p2), .val (.int p3), .val (.int p4), .val (.int p5), .val (.int p6), .val (.ref z0), .val (.int 1), .val (.int 1), .val (.int 0)] [(.int 0)])) _
        refine XS.iconst zh.here hx rfl (hb hby at_122) ?_
        refine XS.icmpYes zh.here hx rfl (pc0 := 123) (pc' := 131) rfl (hb hby at_123) rfl (tlt (by decide : (0 : Int32) < (1 : Int32))).1 (by decide) (by decide) ?_
        show Steps p.tables e below (z1u.setTop (mkF m 131 #[.val (.int p1), .val (.int p2), .val (.int p3), .val (.int p4), .val (.int p5), .val (.int p6), .val (.ref z0), .val (.int 1), .val (.int 1), .val (.int 0)] [])) _
        refine XS.iload zh.here hx rfl (hb hby at_131) rfl ?_
        refine XS.iconst zh.here hx rfl (hb hby at_133) ?_
        refine XS.icmpYes zh.here hx rfl (pc0 := 134) (pc' := 142) rfl (hb hby at_134) rfl (tlt (by decide : (0 : Int32) < (2 : Int32))).1 (by decide) (by decide) ?_
        show Steps p.tables e below (z1u.setTop (mkF m 142 #[.val (.int p1), .val (.int p2), .val (.int p3), .val (.int p4), .val (.int p5), .val (.int p6), .val (.ref z0), .val (.int 1), .val (.int 1), .val (.int 0)] [])) _
        refine XS.iload zh.here hx rfl (hb hby at_142) rfl ?_
        refine XS.iconst zh.here hx rfl (hb hby at_144) ?_
        refine XS.icmpYes zh.here hx rfl (pc0 := 145) (pc' := 153) rfl (hb hby at_145) rfl (tlt (by decide : (0 : Int32) < (3 : Int32))).1 (by decide) (by decide) ?_
        show Steps p.tables e below (z1u.setTop (mkF m 153 #[.val (.int p1), .val (.int p2), .val (.int p3), .val (.int p4), .val (.int p5), .val (.int p6), .val (.ref z0), .val (.int 1), .val (.int 1), .val (.int 0)] [])) _
        refine XS.iload zh.here hx rfl (hb hby at_153) rfl ?_
        refine XS.ifNo zh.here hx rfl (hb hby at_155) rfl ((if0 _ _).trans (feq (by decide : ¬ ((1 : Int32) = (0 : Int32)))).1) ?_
        show Steps p.tables e below (z1u.setTop (mkF m 158 #[.val (.int p1), .val (.int p2), .val (.int p3), .val (.int p4), .val (.int p5), .val (.int p6), .val (.ref z0), .val (.int 1), .val (.int 1), .val (.int 0)] [])) _
        refine XS.aload zh.here hx rfl (hb hby at_158) rfl rfl ?_
        refine z65.trans ?_
        show Steps p.tables e below (z3f.setTop (mkF m 163 #[.val (.int p1), .val (.int p2), .val (.int p3), .val (.int p4), .val (.int p5), .val (.int p6), .val (.ref z0), .val (.int 1), .val (.int 1), .val (.int 0)] [(.int 0)])) _
        refine XS.iload z1k.here hx rfl (hb hby at_163) rfl ?_
        refine XS.iload z1k.here hx rfl (hb hby at_165) rfl ?_
        refine XS.icmpYes z1k.here hx rfl (pc0 := 167) (pc' := 174) rfl (hb hby at_167) rfl (feq (by decide : ¬ ((1 : Int32) = (0 : Int32)))).2 (by decide) (by decide) ?_
        show Steps p.tables e below (z3f.setTop (mkF m 174 #[.val (.int p1), .val (.int p2), .val (.int p3), .val (.int p4), .val (.int p5), .val (.int p6), .val (.ref z0), .val (.int 1), .val (.int 1), .val (.int 0)] [(.int 0)])) _
        refine XS.iconst z1k.here hx rfl (hb hby at_174) ?_
        refine XS.icmpNo z1k.here hx rfl (hb hby at_175) rfl (teq (by decide : (0 : Int32) = (0 : Int32))).2 ?_
        show Steps p.tables e below (z3f.setTop (mkF m 178 #[.val (.int p1), .val (.int p2), .val (.int p3), .val (.int p4), .val (.int p5), .val (.int p6), .val (.ref z0), .val (.int 1), .val (.int 1), .val (.int 0)] [])) _
        refine XS.iconst z1k.here hx rfl (hb hby at_178) ?_
        refine XS.goto z1k.here hx rfl (pc0 := 179) (pc' := 183) rfl (hb hby at_179) (by decide) (by decide) ?_
        refine XS.istore z1k.here hx rfl (hb hby at_183) rfl (l' := #[.val (.int p1), .val (.int p2), .val (.int p3), .val (.int p4), .val (.int p5), .val (.int p6), .val (.ref z0), .val (.int 1), .val (.int 1), .val (.int 0)]) rfl ?_
        refine XS.iload z1k.here hx rfl (hb hby at_185) rfl ?_
        exact retN z1k hx (t := .boolean) Bd.returns (by simp) (hb hby at_187) hr
      · show LQ n0 _ z3f.heap _
        exact ⟨rfl, z9v, trivial⟩
    | 1, _, z30 =>
      have z9w := (z2s.keep z3b (ninS (Ne.symm (Nat.ne_of_lt (Nat.lt_trans (Nat.lt_trans z1 z3) z5))) (ninS (Ne.symm (Nat.ne_of_lt (Nat.lt_trans z3 z5))) (ninS (Ne.symm (Nat.ne_of_lt z5)) (ninS (Ne.symm (Nat.ne_of_lt zp)) (ninS (Ne.symm (Nat.ne_of_lt (Nat.lt_trans (Nat.lt_trans (Nat.lt_trans z2 z1) z3) z5))) (ninS (Ne.symm (Nat.ne_of_lt (Nat.lt_trans (Nat.lt_trans (Nat.lt_trans (Nat.lt_trans z4 z2) z1) z3) z5))) (ninS (Ne.symm (Nat.ne_of_lt (Nat.lt_trans (Nat.lt_trans (Nat.lt_trans (Nat.lt_trans (Nat.lt_trans z6 z4) z2) z1) z3) z5))) nin0))))))))
      have z9x : own_AM Z z2f.heap zg zx .int := ⟨_, _, z9w⟩
      obtain ⟨cq826, kq826, z9y, zf2, z9z⟩ := isOf hZ z3e z3d
      obtain ⟨_, _, ⟨z31, L826, zf3, n826⟩, -, z1v, ⟨Lc826, z66, l826, y826, z826⟩, z67⟩ := zh.virtualBack hx (y := own_m1) (z := own_m1) hown (mvT hZ (own_W hw 54 rfl)) (mvT hZ (own_W hw 55 rfl)) (notFace_of_selects (args := #[]) (mvT hZ (own_W hw 57 rfl))) (mvT hZ (own_W hw 57 rfl)) (mvT hZ (own_W hw 56 rfl)) (by decide) (backOf (W := 0) (wR1 l Z a0 hw [] z2f.heap n0 A K z0 zi zj zk zl zm zn zg zq zr zs zt zu zv zx EN z3c fB815 z9x (Nat.ne_of_lt z14) (Nat.ne_of_lt z15) (Nat.ne_of_lt z16) (Nat.ne_of_lt z17) (Nat.ne_of_lt z18) (Nat.ne_of_lt z19) (Nat.ne_of_lt zp) (Nat.ne_of_lt z6) (Nat.ne_of_lt (Nat.lt_trans z6 z4)) (Nat.ne_of_lt (Nat.lt_trans (Nat.lt_trans z6 z4) z2)) (Nat.ne_of_lt (Nat.lt_trans (Nat.lt_trans (Nat.lt_trans z6 z4) z2) z1)) (Nat.ne_of_lt (Nat.lt_trans (Nat.lt_trans (Nat.lt_trans (Nat.lt_trans z6 z4) z2) z1) z3)) (Nat.ne_of_lt (Nat.lt_trans (Nat.lt_trans (Nat.lt_trans (Nat.lt_trans (Nat.lt_trans z6 z4) z2) z1) z3) z5)) (Nat.ne_of_lt z4) (Nat.ne_of_lt (Nat.lt_trans z4 z2)) (Nat.ne_of_lt (Nat.lt_trans (Nat.lt_trans z4 z2) z1)) (Nat.ne_of_lt (Nat.lt_trans (Nat.lt_trans (Nat.lt_trans z4 z2) z1) z3)) (Nat.ne_of_lt (Nat.lt_trans (Nat.lt_trans (Nat.lt_trans (Nat.lt_trans z4 z2) z1) z3) z5)) (Nat.ne_of_lt z2) (Nat.ne_of_lt (Nat.lt_trans z2 z1)) (Nat.ne_of_lt (Nat.lt_trans (Nat.lt_trans z2 z1) z3)) (Nat.ne_of_lt (Nat.lt_trans (Nat.lt_trans (Nat.lt_trans z2 z1) z3) z5)) (Nat.ne_of_lt z1) (Nat.ne_of_lt (Nat.lt_trans z1 z3)) (Nat.ne_of_lt (Nat.lt_trans (Nat.lt_trans z1 z3) z5)) (Nat.ne_of_lt z3) (Nat.ne_of_lt (Nat.lt_trans z3 z5)) (Nat.ne_of_lt z5) z9 zb zc zd zy zz ze zo) hZ (own_W hw 58 rfl) (own_W hw 2 rfl) (by decide) (by decide)) z9y z9z (g := (mkF m 128 #[.val (.int p1), .val (.int p2), .val (.int p3), .val (.int p4), .val (.int p5), .val (.int p6), .val (.ref z0), .val (.int 1), .val (.int 1), .val (.int 1)] [(.ref z0)])) rfl (by rw [hml]; rfl) (Steps.refl _) (argsL := []) (rest := []) (lenOf own_pd4 rfl) rfl (by show 2 * 0 + _ ≤ _; exact Nat.le_of_eq rfl) (hb hby at_128) (fun _ _ => ⟨rfl, z3e, (by decide : 8 + 0 ≤ _), (by decide : 121 + 0 ≤ _)⟩)
      dsimp only [Pt.U, Pt.locs, Pt.cells, Pt.slots] at z1v l826 y826 z826 z67 z66
      replace z1v := own_sub z1v l826 y826 z826
      obtain ⟨rfl, za0, z4k, fB826, fM826⟩ := z66
      have za1 := Fr.app z62 za0
      have za2 := z3c.keep z4k (allS ze (allS zo (allS z9 (allS zd (allS zc (allS zb all0))))))
      have zf4 := z9k.trans z4k (allS (Or.inr z1d) (allS (Or.inr z24) (allS (Or.inr z12) (allS (Or.inr z1c) (allS (Or.inr z1b) (allS (Or.inr z1a) all0))))))
      have za3 := (z3d.keep z4k)
      have za4 := own_QB.size fB826
      obtain ⟨cq829, kq829, za5, zf5, za6⟩ := isOf hZ rfl za3
      obtain ⟨_, _, ⟨z3g, L829, zf6, n829⟩, -, z1g, ⟨Lc829, z68, l829, y829, z829⟩, z69⟩ := z1v.virtualBack hx (y := own_m0) (z := own_m0) hown (mvT hZ (own_W hw 32 rfl)) (mvT hZ (own_W hw 33 rfl)) (notFace_of_selects (args := #[]) (mvT hZ (own_W hw 35 rfl))) (mvT hZ (own_W hw 35 rfl)) (mvT hZ (own_W hw 34 rfl)) (by decide) (backOf (W := 0) (rmL5 l Z a0 hw [] z31.heap n0 p1 p2 p3 p4 p5 p6 A K z0 EN za2 za4) hZ (own_W hw 36 rfl) (own_W hw 2 rfl) (by decide) (by decide)) za5 za6 (g := (mkF m 160 #[.val (.int p1), .val (.int p2), .val (.int p3), .val (.int p4), .val (.int p5), .val (.int p6), .val (.ref z0), .val (.int 1), .val (.int 1), .val (.int 1)] [(.ref z0)])) rfl (by rw [hml]; rfl) (Steps.refl _) (argsL := []) (rest := []) (lenOf own_pd6 rfl) rfl (by show 2 * 0 + _ ≤ _; exact Nat.le_of_eq rfl) (hb hby at_160) (fun _ _ => ⟨rfl, rfl, (by decide : 8 + 0 ≤ _), (by decide : 121 + 0 ≤ _)⟩)
      dsimp only [Pt.U, Pt.locs, Pt.cells, Pt.slots] at z1g l829 y829 z829 z69 z68
      replace z1g := own_sub z1g l829 y829 z829
      obtain ⟨rfl, za7, zf7⟩ := z68
      have za8 := Fr.app za1 za7
      obtain ⟨fs, hr, hrun, hended, hW, hsame⟩ := z1g.leave (v := some (.int 1)) (fun h => by rw [Bd.returns] at h; cases h)
      refine ⟨_, _, z63 _ ?_, hrun, hended, _, _, rfl, ?_, ⟨_, rfl⟩, hW, hsame.mono (by decide) (by decide)⟩
      · show Steps p.tables e below (z1u.setTop (mkF m 122 #[.val (.int p1), .val (.int p2), .val (.int p3), .val (.int p4), .val (.int p5), .val (.int p6), .val (.ref z0), .val (.int 1), .val (.int 1), .val (.int (own_f_rmMin (((p1.toUInt32 >>> ((2 : Int32) &&& 31).toUInt32).toInt32) &&& (3 : Int32)) (1 : Int32)))] [(.int (own_f_rmMin (((p1.toUInt32 >>> ((2 : Int32) &&& 31).toUInt32).toInt32) &&& (3 : Int32)) (1 : Int32)))])) _
        rw [z30]
        show Steps p.tables e below (z1u.setTop (mkF m 122 #[.val (.int p1), .val (.int p2), .val (.int p3), .val (.int p4), .val (.int p5), .val (.int p6), .val (.ref z0), .val (.int 1), .val (.int 1), .val (.int 1)] [(.int 1)])) _
        refine XS.iconst zh.here hx rfl (hb hby at_122) ?_
        refine XS.icmpNo zh.here hx rfl (hb hby at_123) rfl (flt (by decide : ¬ ((1 : Int32) < (1 : Int32)))).1 ?_
        show Steps p.tables e below (z1u.setTop (mkF m 126 #[.val (.int p1), .val (.int p2), .val (.int p3), .val (.int p4), .val (.int p5), .val (.int p6), .val (.ref z0), .val (.int 1), .val (.int 1), .val (.int 1)] [])) _
        refine XS.aload zh.here hx rfl (hb hby at_126) rfl rfl ?_
        refine z67.trans ?_
        show Steps p.tables e below (z31.setTop (mkF m 131 #[.val (.int p1), .val (.int p2), .val (.int p3), .val (.int p4), .val (.int p5), .val (.int p6), .val (.ref z0), .val (.int 1), .val (.int 1), .val (.int 1)] [])) _
        refine XS.iload z1v.here hx rfl (hb hby at_131) rfl ?_
        refine XS.iconst z1v.here hx rfl (hb hby at_133) ?_
        refine XS.icmpYes z1v.here hx rfl (pc0 := 134) (pc' := 142) rfl (hb hby at_134) rfl (tlt (by decide : (1 : Int32) < (2 : Int32))).1 (by decide) (by decide) ?_
        show Steps p.tables e below (z31.setTop (mkF m 142 #[.val (.int p1), .val (.int p2), .val (.int p3), .val (.int p4), .val (.int p5), .val (.int p6), .val (.ref z0), .val (.int 1), .val (.int 1), .val (.int 1)] [])) _
        refine XS.iload z1v.here hx rfl (hb hby at_142) rfl ?_
        refine XS.iconst z1v.here hx rfl (hb hby at_144) ?_
        refine XS.icmpYes z1v.here hx rfl (pc0 := 145) (pc' := 153) rfl (hb hby at_145) rfl (tlt (by decide : (1 : Int32) < (3 : Int32))).1 (by decide) (by decide) ?_
        show Steps p.tables e below (z31.setTop (mkF m 153 #[.val (.int p1), .val (.int p2), .val (.int p3), .val (.int p4), .val (.int p5), .val (.int p6), .val (.ref z0), .val (.int 1), .val (.int 1), .val (.int 1)] [])) _
        refine XS.iload z1v.here hx rfl (hb hby at_153) rfl ?_
        refine XS.ifNo z1v.here hx rfl (hb hby at_155) rfl ((if0 _ _).trans (feq (by decide : ¬ ((1 : Int32) = (0 : Int32)))).1) ?_
        show Steps p.tables e below (z31.setTop (mkF m 158 #[.val (.int p1), .val (.int p2), .val (.int p3), .val (.int p4), .val (.int p5), .val (.int p6), .val (.ref z0), .val (.int 1), .val (.int 1), .val (.int 1)] [])) _
        refine XS.aload z1v.here hx rfl (hb hby at_158) rfl rfl ?_
        refine z69.trans ?_
        show Steps p.tables e below (z3g.setTop (mkF m 163 #[.val (.int p1), .val (.int p2), .val (.int p3), .val (.int p4), .val (.int p5), .val (.int p6), .val (.ref z0), .val (.int 1), .val (.int 1), .val (.int 1)] [(.int 1)])) _
        refine XS.iload z1g.here hx rfl (hb hby at_163) rfl ?_
        refine XS.iload z1g.here hx rfl (hb hby at_165) rfl ?_
        refine XS.icmpNo z1g.here hx rfl (hb hby at_167) rfl (teq (by decide : (1 : Int32) = (1 : Int32))).2 ?_
        show Steps p.tables e below (z3g.setTop (mkF m 170 #[.val (.int p1), .val (.int p2), .val (.int p3), .val (.int p4), .val (.int p5), .val (.int p6), .val (.ref z0), .val (.int 1), .val (.int 1), .val (.int 1)] [(.int 1)])) _
        refine XS.iconst z1g.here hx rfl (hb hby at_170) ?_
        refine XS.goto z1g.here hx rfl (pc0 := 171) (pc' := 175) rfl (hb hby at_171) (by decide) (by decide) ?_
        refine XS.icmpNo z1g.here hx rfl (hb hby at_175) rfl (teq (by decide : (1 : Int32) = (1 : Int32))).2 ?_
        show Steps p.tables e below (z3g.setTop (mkF m 178 #[.val (.int p1), .val (.int p2), .val (.int p3), .val (.int p4), .val (.int p5), .val (.int p6), .val (.ref z0), .val (.int 1), .val (.int 1), .val (.int 1)] [])) _
        refine XS.iconst z1g.here hx rfl (hb hby at_178) ?_
        refine XS.goto z1g.here hx rfl (pc0 := 179) (pc' := 183) rfl (hb hby at_179) (by decide) (by decide) ?_
        refine XS.istore z1g.here hx rfl (hb hby at_183) rfl (l' := #[.val (.int p1), .val (.int p2), .val (.int p3), .val (.int p4), .val (.int p5), .val (.int p6), .val (.ref z0), .val (.int 1), .val (.int 1), .val (.int 1)]) rfl ?_
        refine XS.iload z1g.here hx rfl (hb hby at_185) rfl ?_
        exact retN z1g hx (t := .boolean) Bd.returns (by simp) (hb hby at_187) hr
      · show LQ n0 _ z3g.heap _
        exact ⟨rfl, za8, trivial⟩
    | kk + 2, h, _ => exact absurd h (by omega)
  | 2, _, z2b =>
    obtain ⟨_, _, ⟨z4l, L830, zf8, n830⟩, -, z1l, ⟨Lc830, z6a, l830, y830, z830⟩, z6b⟩ := Jvm.LawKit.callS z7 hx (y := own_m5) hown (mvT hZ (own_W hw 39 rfl)) (mvT hZ (own_W hw 40 rfl)) (mvT hZ (own_W hw 41 rfl)) (mvT hZ (own_W hw 42 rfl)) (by decide) (backOf (W := 0) (rmMin l Z a0 hw [] za.heap n0 A K (((p1.toUInt32 >>> ((2 : Int32) &&& 31).toUInt32).toInt32) &&& (3 : Int32)) (2 : Int32) EN z1s) hZ (own_W hw 42 rfl) (own_W hw 41 rfl) (by decide) (by decide)) (g := (mkF m 28 #[.val (.int p1), .val (.int p2), .val (.int p3), .val (.int p4), .val (.int p5), .val (.int p6), .val (.ref z0), .val (.int 1), .val (.int 2), .unset] [(.int 2), (.int (((p1.toUInt32 >>> ((2 : Int32) &&& 31).toUInt32).toInt32) &&& (3 : Int32)))])) rfl (by rw [hml]; rfl) (argsL := [(.int (((p1.toUInt32 >>> ((2 : Int32) &&& 31).toUInt32).toInt32) &&& (3 : Int32))), (.int 2)]) (rest := []) (lenOf own_pd2 rfl) rfl (by show 2 * 0 + _ ≤ _; exact Nat.le_of_eq rfl) (hb hby at_28) (fun _ _ => ⟨rfl, z37, (by decide : 8 + 0 ≤ _), (by decide : 121 + 0 ≤ _)⟩)
    dsimp only [Pt.U, Pt.locs, Pt.cells, Pt.slots] at z1l l830 y830 z830 z6b z6a
    replace z1l := own_sub z1l l830 y830 z830
    obtain ⟨rfl, za9, z6c⟩ := z6a
    have zaa := Fr.app z38 za9
    have zab : Arv Z za.heap zi zq .double (16 : Int32) [(.double (Jvm.FP.l2d ((0 : Int32).toInt64))), (.double (Jvm.FP.l2d ((0 : Int32).toInt64))), (.double (Jvm.FP.l2d ((0 : Int32).toInt64)))] (.double (Jvm.FP.l2d ((0 : Int32).toInt64))) := Arv.pad z4a (pad_rep [] (.double (Jvm.FP.l2d ((0 : Int32).toInt64))) 3)
    have zac : Arv Z za.heap zj zr .long (16 : Int32) [(.long 0), (.long 0), (.long 0)] (.long 0) := Arv.pad z4b (pad_rep [] (.long 0) 3)
    have zad : Arv Z za.heap zk zs .int 16 [(.int 0), (.int 0), (.int 0)] (.int 0) := Arv.pad z4c (pad_rep [] (.int 0) 3)
    have zae : Arv Z za.heap zl zt .int 16 [(.int 0), (.int 0), (.int 0)] (.int 0) := Arv.pad z4d (pad_rep [] (.int 0) 3)
    have zaf : Arv Z za.heap zm zu .int 16 [(.int 0), (.int 0), (.int 0)] (.int 0) := Arv.pad z4e (pad_rep [] (.int 0) 3)
    have zag : own_AM Z za.heap zn zv (.object y_s3) := ⟨_, _, z4f⟩
    have zah : own_QB Z za.heap (0 : Int32) z0 zi zj zk zl zm zn zg zq zr zs zt zu zv := ⟨(0 : Int32), (0 : Int32), (0 : Int32), (0 : Int64), (0 : Int64), (0 : Int64), (0 : Int32), (0 : Int32), (0 : Int32), (0 : Int32), (0 : Int32), (0 : Int32), (0 : Int32), (0 : Int32), (0 : Int32), (0 : Int64), by decide, by decide, by decide, by decide, by decide, by decide, z21, z42, z43, z44, z45, z46, z47, z48, z2r, z49, zab, zac, zad, zae, zaf, zag, z4g⟩
    obtain ⟨cq838, kq838, zai, zf9, zaj⟩ := isOf hZ z6c z21
    obtain ⟨_, _, ⟨z3h, L838, zfa, n838⟩, -, z1w, ⟨Lc838, z6d, l838, y838, z838⟩, z6e⟩ := z1l.virtualBack hx (y := own_m3) (z := own_m3) hown (mvT hZ (own_W hw 43 rfl)) (mvT hZ (own_W hw 44 rfl)) (notFace_of_selects (args := #[]) (mvT hZ (own_W hw 46 rfl))) (mvT hZ (own_W hw 46 rfl)) (mvT hZ (own_W hw 45 rfl)) (by decide) (backOf (W := 0) (wA0 l Z a0 hw [] za.heap n0 A K z0 zi zj zk zl zm zn zg zq zr zs zt zu zv zx p2 p5 p6 EN z1s zah z2s (Nat.ne_of_lt z14) (Nat.ne_of_lt z15) (Nat.ne_of_lt z16) (Nat.ne_of_lt z17) (Nat.ne_of_lt z18) (Nat.ne_of_lt z19) (Nat.ne_of_lt zp) (Nat.ne_of_lt z6) (Nat.ne_of_lt (Nat.lt_trans z6 z4)) (Nat.ne_of_lt (Nat.lt_trans (Nat.lt_trans z6 z4) z2)) (Nat.ne_of_lt (Nat.lt_trans (Nat.lt_trans (Nat.lt_trans z6 z4) z2) z1)) (Nat.ne_of_lt (Nat.lt_trans (Nat.lt_trans (Nat.lt_trans (Nat.lt_trans z6 z4) z2) z1) z3)) (Nat.ne_of_lt (Nat.lt_trans (Nat.lt_trans (Nat.lt_trans (Nat.lt_trans (Nat.lt_trans z6 z4) z2) z1) z3) z5)) (Nat.ne_of_lt z4) (Nat.ne_of_lt (Nat.lt_trans z4 z2)) (Nat.ne_of_lt (Nat.lt_trans (Nat.lt_trans z4 z2) z1)) (Nat.ne_of_lt (Nat.lt_trans (Nat.lt_trans (Nat.lt_trans z4 z2) z1) z3)) (Nat.ne_of_lt (Nat.lt_trans (Nat.lt_trans (Nat.lt_trans (Nat.lt_trans z4 z2) z1) z3) z5)) (Nat.ne_of_lt z2) (Nat.ne_of_lt (Nat.lt_trans z2 z1)) (Nat.ne_of_lt (Nat.lt_trans (Nat.lt_trans z2 z1) z3)) (Nat.ne_of_lt (Nat.lt_trans (Nat.lt_trans (Nat.lt_trans z2 z1) z3) z5)) (Nat.ne_of_lt z1) (Nat.ne_of_lt (Nat.lt_trans z1 z3)) (Nat.ne_of_lt (Nat.lt_trans (Nat.lt_trans z1 z3) z5)) (Nat.ne_of_lt z3) (Nat.ne_of_lt (Nat.lt_trans z3 z5)) (Nat.ne_of_lt z5) z9 zb zc zd zy zz ze zo) hZ (own_W hw 47 rfl) (own_W hw 2 rfl) (by decide) (by decide)) zai zaj (g := (mkF m 48 #[.val (.int p1), .val (.int p2), .val (.int p3), .val (.int p4), .val (.int p5), .val (.int p6), .val (.ref z0), .val (.int 1), .val (.int 2), .val (.int (own_f_rmMin (((p1.toUInt32 >>> ((2 : Int32) &&& 31).toUInt32).toInt32) &&& (3 : Int32)) (2 : Int32)))] [.null, (.int p6), (.int p5), (.double (Jvm.FP.l2d (p2.toInt64))), (.ref z0)])) rfl (by rw [hml]; rfl) (Steps.refl _) (argsL := [(.double (Jvm.FP.l2d (p2.toInt64))), (.int p5), (.int p6), .null]) (rest := []) (lenOf own_pd7 rfl) rfl (by show 2 * 0 + _ ≤ _; exact Nat.le_of_eq rfl) (hb hby at_48) (fun _ _ => ⟨rfl, z6c, (by decide : 8 + 0 ≤ _), (by decide : 121 + 0 ≤ _)⟩)
    dsimp only [Pt.U, Pt.locs, Pt.cells, Pt.slots] at z1w l838 y838 z838 z6e z6d
    replace z1w := own_sub z1w l838 y838 z838
    obtain ⟨rfl, zak, z3i, fB838⟩ := z6d
    have zal := Fr.app zaa zak
    have z6f := z1s.keep z3i (allS zy (allS zz (allS ze (allS z9 (allS zd (allS zc (allS zb all0)))))))
    have zam := z4h.trans z3i (allS (Or.inr z2t) (allS (Or.inr z2u) (allS (Or.inr z1d) (allS (Or.inr z12) (allS (Or.inr z1c) (allS (Or.inr z1b) (allS (Or.inr z1a) all0)))))))
    obtain ⟨_, _, ⟨z4m, L839, zfb, n839⟩, -, z3j, ⟨Lc839, z6g, l839, y839, z839⟩, z6h⟩ := Jvm.LawKit.callS z1w hx (y := own_m8) hown (mvT hZ (own_W hw 59 rfl)) (mvT hZ (own_W hw 60 rfl)) (mvT hZ (own_W hw 61 rfl)) (mvT hZ (own_W hw 62 rfl)) (by decide) (backOf (W := 5) (rmV l Z a0 hw [] z3h.heap n0 A K p4 EN z6f) hZ (own_W hw 62 rfl) (own_W hw 61 rfl) (by decide) (by decide)) (g := (mkF m 66 #[.val (.int p1), .val (.int p2), .val (.int p3), .val (.int p4), .val (.int p5), .val (.int p6), .val (.ref z0), .val (.int 1), .val (.int 2), .val (.int (own_f_rmMin (((p1.toUInt32 >>> ((2 : Int32) &&& 31).toUInt32).toInt32) &&& (3 : Int32)) (2 : Int32)))] [(.int p4), (.int p5), (.int p6), (.double (Jvm.FP.l2d (p3.toInt64))), (.ref z0)])) rfl (by rw [hml]; rfl) (argsL := [(.int p4)]) (rest := [(.int p5), (.int p6), (.double (Jvm.FP.l2d (p3.toInt64))), (.ref z0)]) (lenOf own_pd8 rfl) rfl (by show 2 * 0 + _ ≤ _; exact Nat.le_of_eq rfl) (hb hby at_66) (fun _ _ => ⟨rfl, rfl, (by decide : 8 + 1 ≤ _), (by decide : 121 + 1 ≤ _)⟩)
    dsimp only [Pt.U, Pt.locs, Pt.cells, Pt.slots] at z3j l839 y839 z839 z6h z6g
    replace z3j := own_sub z3j l839 y839 z839
    obtain ⟨r839, rfl, zan, z32, er839, fr839⟩ := z6g
    have zao := Fr.app zal zan
    have z6i := z6f.keep z32 all0
    have zap := zam.trans z32 all0
    have z6j := ((z21.keep z3i).keep z32)
    have zaq : own_QB Z z4m.heap (1 : Int32) z0 zi zj zk zl zm zn zg zq zr zs zt zu zv := (fB838.keep z32 nin0)
    have z4n := ((z2s.keep z3i (ninS (Ne.symm (Nat.ne_of_lt (Nat.lt_trans (Nat.lt_trans z1 z3) z5))) (ninS (Ne.symm (Nat.ne_of_lt (Nat.lt_trans z3 z5))) (ninS (Ne.symm (Nat.ne_of_lt z5)) (ninS (Ne.symm (Nat.ne_of_lt zp)) (ninS (Ne.symm (Nat.ne_of_lt (Nat.lt_trans (Nat.lt_trans (Nat.lt_trans z2 z1) z3) z5))) (ninS (Ne.symm (Nat.ne_of_lt (Nat.lt_trans (Nat.lt_trans (Nat.lt_trans (Nat.lt_trans z4 z2) z1) z3) z5))) (ninS (Ne.symm (Nat.ne_of_lt (Nat.lt_trans (Nat.lt_trans (Nat.lt_trans (Nat.lt_trans (Nat.lt_trans z6 z4) z2) z1) z3) z5))) nin0)))))))).keep z32 nin0)
    obtain ⟨cq843, kq843, zar, zfc, zas⟩ := isOf hZ rfl z6j
    obtain ⟨_, _, ⟨z2c, L843, zfd, n843⟩, -, z26, ⟨Lc843, z6k, l843, y843, z843⟩, z6l⟩ := z3j.virtualBack hx (y := own_m3) (z := own_m3) hown (mvT hZ (own_W hw 43 rfl)) (mvT hZ (own_W hw 44 rfl)) (notFace_of_selects (args := #[]) (mvT hZ (own_W hw 46 rfl))) (mvT hZ (own_W hw 46 rfl)) (mvT hZ (own_W hw 45 rfl)) (by decide) (backOf (W := 0) (wA1 l Z a0 hw [] z4m.heap n0 A K z0 zi zj zk zl zm zn zg r839 zq zr zs zt zu zv zx p3 p6 p5 EN z6i zaq z4n er839 (Nat.ne_of_lt z14) (Nat.ne_of_lt z15) (Nat.ne_of_lt z16) (Nat.ne_of_lt z17) (Nat.ne_of_lt z18) (Nat.ne_of_lt z19) (Nat.ne_of_lt zp) (Nat.ne_of_lt z6) (Nat.ne_of_lt (Nat.lt_trans z6 z4)) (Nat.ne_of_lt (Nat.lt_trans (Nat.lt_trans z6 z4) z2)) (Nat.ne_of_lt (Nat.lt_trans (Nat.lt_trans (Nat.lt_trans z6 z4) z2) z1)) (Nat.ne_of_lt (Nat.lt_trans (Nat.lt_trans (Nat.lt_trans (Nat.lt_trans z6 z4) z2) z1) z3)) (Nat.ne_of_lt (Nat.lt_trans (Nat.lt_trans (Nat.lt_trans (Nat.lt_trans (Nat.lt_trans z6 z4) z2) z1) z3) z5)) (Nat.ne_of_lt z4) (Nat.ne_of_lt (Nat.lt_trans z4 z2)) (Nat.ne_of_lt (Nat.lt_trans (Nat.lt_trans z4 z2) z1)) (Nat.ne_of_lt (Nat.lt_trans (Nat.lt_trans (Nat.lt_trans z4 z2) z1) z3)) (Nat.ne_of_lt (Nat.lt_trans (Nat.lt_trans (Nat.lt_trans (Nat.lt_trans z4 z2) z1) z3) z5)) (Nat.ne_of_lt z2) (Nat.ne_of_lt (Nat.lt_trans z2 z1)) (Nat.ne_of_lt (Nat.lt_trans (Nat.lt_trans z2 z1) z3)) (Nat.ne_of_lt (Nat.lt_trans (Nat.lt_trans (Nat.lt_trans z2 z1) z3) z5)) (Nat.ne_of_lt z1) (Nat.ne_of_lt (Nat.lt_trans z1 z3)) (Nat.ne_of_lt (Nat.lt_trans (Nat.lt_trans z1 z3) z5)) (Nat.ne_of_lt z3) (Nat.ne_of_lt (Nat.lt_trans z3 z5)) (Nat.ne_of_lt z5) z9 zb zc zd zy zz ze zo) hZ (own_W hw 47 rfl) (own_W hw 2 rfl) (by decide) (by decide)) zar zas (g := (mkF m 69 #[.val (.int p1), .val (.int p2), .val (.int p3), .val (.int p4), .val (.int p5), .val (.int p6), .val (.ref z0), .val (.int 1), .val (.int 2), .val (.int (own_f_rmMin (((p1.toUInt32 >>> ((2 : Int32) &&& 31).toUInt32).toInt32) &&& (3 : Int32)) (2 : Int32)))] [(.ref r839), (.int p5), (.int p6), (.double (Jvm.FP.l2d (p3.toInt64))), (.ref z0)])) rfl (by rw [hml]; rfl) (Steps.refl _) (argsL := [(.double (Jvm.FP.l2d (p3.toInt64))), (.int p6), (.int p5), (.ref r839)]) (rest := []) (lenOf own_pd7 rfl) rfl (by show 2 * 0 + _ ≤ _; exact Nat.le_of_eq rfl) (hb hby at_69) (fun _ _ => ⟨rfl, rfl, (by decide : 9 + 0 ≤ _), (by decide : 122 + 0 ≤ _)⟩)
    dsimp only [Pt.U, Pt.locs, Pt.cells, Pt.slots] at z26 l843 y843 z843 z6l z6k
    replace z26 := own_sub z26 l843 y843 z843
    obtain ⟨rfl, zat, z33, fB843⟩ := z6k
    have zau := Fr.app zao zat
    have z2v := z6i.keep z33 (allS zy (allS zz (allS ze (allS z9 (allS zb (allS zc (allS zd all0)))))))
    have z6m := zap.trans z33 (allS (Or.inr z2t) (allS (Or.inr z2u) (allS (Or.inr z1d) (allS (Or.inr z12) (allS (Or.inr z1a) (allS (Or.inr z1b) (allS (Or.inr z1c) all0)))))))
    have z2w := (z6j.keep z33)
    have zav := own_QB.size fB843
    obtain ⟨cq847, kq847, zaw, zfe, zax⟩ := isOf hZ rfl z2w
    obtain ⟨_, _, ⟨z1e, L847, zff, n847⟩, -, zf, ⟨Lc847, z6n, l847, y847, z847⟩, z6o⟩ := z26.virtualBack hx (y := own_m0) (z := own_m0) hown (mvT hZ (own_W hw 32 rfl)) (mvT hZ (own_W hw 33 rfl)) (notFace_of_selects (args := #[]) (mvT hZ (own_W hw 35 rfl))) (mvT hZ (own_W hw 35 rfl)) (mvT hZ (own_W hw 34 rfl)) (by decide) (backOf (W := 0) (rmL7 l Z a0 hw [] z2c.heap n0 p1 p2 p3 p4 p5 p6 A K z0 EN z2v zav) hZ (own_W hw 36 rfl) (own_W hw 2 rfl) (by decide) (by decide)) zaw zax (g := (mkF m 97 #[.val (.int p1), .val (.int p2), .val (.int p3), .val (.int p4), .val (.int p5), .val (.int p6), .val (.ref z0), .val (.int 1), .val (.int 2), .val (.int (own_f_rmMin (((p1.toUInt32 >>> ((2 : Int32) &&& 31).toUInt32).toInt32) &&& (3 : Int32)) (2 : Int32)))] [(.ref z0)])) rfl (by rw [hml]; rfl) (Steps.refl _) (argsL := []) (rest := []) (lenOf own_pd6 rfl) rfl (by show 2 * 0 + _ ≤ _; exact Nat.le_of_eq rfl) (hb hby at_97) (fun _ _ => ⟨rfl, rfl, (by decide : 9 + 0 ≤ _), (by decide : 122 + 0 ≤ _)⟩)
    dsimp only [Pt.U, Pt.locs, Pt.cells, Pt.slots] at zf l847 y847 z847 z6o z6n
    replace zf := own_sub zf l847 y847 z847
    obtain ⟨rfl, zay, z2x⟩ := z6n
    have z4o := Fr.app zau zay
    have z4p : ∀ t, Steps p.tables e below (z1e.setTop (mkF m 122 #[.val (.int p1), .val (.int p2), .val (.int p3), .val (.int p4), .val (.int p5), .val (.int p6), .val (.ref z0), .val (.int 1), .val (.int 2), .val (.int (own_f_rmMin (((p1.toUInt32 >>> ((2 : Int32) &&& 31).toUInt32).toInt32) &&& (3 : Int32)) (2 : Int32)))] [(.int (own_f_rmMin (((p1.toUInt32 >>> ((2 : Int32) &&& 31).toUInt32).toInt32) &&& (3 : Int32)) (2 : Int32)))])) t → Steps p.tables e below (s₁.setTop (entryFrame m #[(.int p1), (.int p2), (.int p3), (.int p4), (.int p5), (.int p6)] maxLocals)) t := fun t k => z39 t (by
      show Steps p.tables e below (z11.setTop (mkF m 19 #[.val (.int p1), .val (.int p2), .val (.int p3), .val (.int p4), .val (.int p5), .val (.int p6), .val (.ref z0), .val (.int 1), .unset, .unset] [(.int (p1 &&& (3 : Int32)))])) _
      rw [z2b]
      show Steps p.tables e below (z11.setTop (mkF m 19 #[.val (.int p1), .val (.int p2), .val (.int p3), .val (.int p4), .val (.int p5), .val (.int p6), .val (.ref z0), .val (.int 1), .unset, .unset] [(.int 2)])) _
      refine XS.istore z7.here hx rfl (hb hby at_19) rfl (l' := #[.val (.int p1), .val (.int p2), .val (.int p3), .val (.int p4), .val (.int p5), .val (.int p6), .val (.ref z0), .val (.int 1), .val (.int 2), .unset]) rfl ?_
      refine XS.iloadN z7.here hx rfl (hb hby at_21) rfl ?_
      refine XS.iconst z7.here hx rfl (hb hby at_22) ?_
      refine XS.iushr z7.here hx rfl (hb hby at_23) rfl ?_
      show Steps p.tables e below (z11.setTop (mkF m 24 #[.val (.int p1), .val (.int p2), .val (.int p3), .val (.int p4), .val (.int p5), .val (.int p6), .val (.ref z0), .val (.int 1), .val (.int 2), .unset] [(.int ((p1.toUInt32 >>> ((2 : Int32) &&& 31).toUInt32).toInt32))])) _
      refine XS.iconst z7.here hx rfl (hb hby at_24) ?_
      refine XS.iand z7.here hx rfl (hb hby at_25) rfl ?_
      show Steps p.tables e below (z11.setTop (mkF m 26 #[.val (.int p1), .val (.int p2), .val (.int p3), .val (.int p4), .val (.int p5), .val (.int p6), .val (.ref z0), .val (.int 1), .val (.int 2), .unset] [(.int (((p1.toUInt32 >>> ((2 : Int32) &&& 31).toUInt32).toInt32) &&& (3 : Int32)))])) _
      refine XS.iload z7.here hx rfl (hb hby at_26) rfl ?_
      refine z6b _ ?_
      show Steps p.tables e below (z4l.setTop (mkF m 31 #[.val (.int p1), .val (.int p2), .val (.int p3), .val (.int p4), .val (.int p5), .val (.int p6), .val (.ref z0), .val (.int 1), .val (.int 2), .unset] [(.int (own_f_rmMin (((p1.toUInt32 >>> ((2 : Int32) &&& 31).toUInt32).toInt32) &&& (3 : Int32)) (2 : Int32)))])) _
      refine XS.istore z1l.here hx rfl (hb hby at_31) rfl (l' := #[.val (.int p1), .val (.int p2), .val (.int p3), .val (.int p4), .val (.int p5), .val (.int p6), .val (.ref z0), .val (.int 1), .val (.int 2), .val (.int (own_f_rmMin (((p1.toUInt32 >>> ((2 : Int32) &&& 31).toUInt32).toInt32) &&& (3 : Int32)) (2 : Int32)))]) rfl ?_
      refine XS.iload z1l.here hx rfl (hb hby at_33) rfl ?_
      refine XS.iconst z1l.here hx rfl (hb hby at_35) ?_
      refine XS.icmpNo z1l.here hx rfl (hb hby at_36) rfl (flt (by decide : ¬ ((2 : Int32) < (1 : Int32)))).1 ?_
      show Steps p.tables e below (z4l.setTop (mkF m 39 #[.val (.int p1), .val (.int p2), .val (.int p3), .val (.int p4), .val (.int p5), .val (.int p6), .val (.ref z0), .val (.int 1), .val (.int 2), .val (.int (own_f_rmMin (((p1.toUInt32 >>> ((2 : Int32) &&& 31).toUInt32).toInt32) &&& (3 : Int32)) (2 : Int32)))] [])) _
      refine XS.aload z1l.here hx rfl (hb hby at_39) rfl rfl ?_
      refine XS.iloadN z1l.here hx rfl (hb hby at_41) rfl ?_
      refine XS.i2dS z1l.here hx rfl (hb hby at_42) rfl (i2d_w _) ?_
      show Steps p.tables e below (z4l.setTop (mkF m 43 #[.val (.int p1), .val (.int p2), .val (.int p3), .val (.int p4), .val (.int p5), .val (.int p6), .val (.ref z0), .val (.int 1), .val (.int 2), .val (.int (own_f_rmMin (((p1.toUInt32 >>> ((2 : Int32) &&& 31).toUInt32).toInt32) &&& (3 : Int32)) (2 : Int32)))] [(.double (Jvm.FP.l2d (p2.toInt64))), (.ref z0)])) _
      refine XS.iload z1l.here hx rfl (hb hby at_43) rfl ?_
      refine XS.iload z1l.here hx rfl (hb hby at_45) rfl ?_
      refine XS.aconstNull z1l.here hx rfl (hb hby at_47) ?_
      refine z6e.trans ?_
      show Steps p.tables e below (z3h.setTop (mkF m 51 #[.val (.int p1), .val (.int p2), .val (.int p3), .val (.int p4), .val (.int p5), .val (.int p6), .val (.ref z0), .val (.int 1), .val (.int 2), .val (.int (own_f_rmMin (((p1.toUInt32 >>> ((2 : Int32) &&& 31).toUInt32).toInt32) &&& (3 : Int32)) (2 : Int32)))] [])) _
      refine XS.iload z1w.here hx rfl (hb hby at_51) rfl ?_
      refine XS.iconst z1w.here hx rfl (hb hby at_53) ?_
      refine XS.icmpNo z1w.here hx rfl (hb hby at_54) rfl (flt (by decide : ¬ ((2 : Int32) < (2 : Int32)))).1 ?_
      show Steps p.tables e below (z3h.setTop (mkF m 57 #[.val (.int p1), .val (.int p2), .val (.int p3), .val (.int p4), .val (.int p5), .val (.int p6), .val (.ref z0), .val (.int 1), .val (.int 2), .val (.int (own_f_rmMin (((p1.toUInt32 >>> ((2 : Int32) &&& 31).toUInt32).toInt32) &&& (3 : Int32)) (2 : Int32)))] [])) _
      refine XS.aload z1w.here hx rfl (hb hby at_57) rfl rfl ?_
      refine XS.iloadN z1w.here hx rfl (hb hby at_59) rfl ?_
      refine XS.i2dS z1w.here hx rfl (hb hby at_60) rfl (i2d_w _) ?_
      show Steps p.tables e below (z3h.setTop (mkF m 61 #[.val (.int p1), .val (.int p2), .val (.int p3), .val (.int p4), .val (.int p5), .val (.int p6), .val (.ref z0), .val (.int 1), .val (.int 2), .val (.int (own_f_rmMin (((p1.toUInt32 >>> ((2 : Int32) &&& 31).toUInt32).toInt32) &&& (3 : Int32)) (2 : Int32)))] [(.double (Jvm.FP.l2d (p3.toInt64))), (.ref z0)])) _
      refine XS.iload z1w.here hx rfl (hb hby at_61) rfl ?_
      refine XS.iload z1w.here hx rfl (hb hby at_63) rfl ?_
      refine XS.iloadN z1w.here hx rfl (hb hby at_65) rfl ?_
      refine z6h _ ?_
      show Steps p.tables e below (z4m.setTop (mkF m 69 #[.val (.int p1), .val (.int p2), .val (.int p3), .val (.int p4), .val (.int p5), .val (.int p6), .val (.ref z0), .val (.int 1), .val (.int 2), .val (.int (own_f_rmMin (((p1.toUInt32 >>> ((2 : Int32) &&& 31).toUInt32).toInt32) &&& (3 : Int32)) (2 : Int32)))] [(.ref r839), (.int p5), (.int p6), (.double (Jvm.FP.l2d (p3.toInt64))), (.ref z0)])) _
      refine z6l.trans ?_
      show Steps p.tables e below (z2c.setTop (mkF m 72 #[.val (.int p1), .val (.int p2), .val (.int p3), .val (.int p4), .val (.int p5), .val (.int p6), .val (.ref z0), .val (.int 1), .val (.int 2), .val (.int (own_f_rmMin (((p1.toUInt32 >>> ((2 : Int32) &&& 31).toUInt32).toInt32) &&& (3 : Int32)) (2 : Int32)))] [])) _
      refine XS.iload z26.here hx rfl (hb hby at_72) rfl ?_
      refine XS.iconst z26.here hx rfl (hb hby at_74) ?_
      refine XS.icmpYes z26.here hx rfl (pc0 := 75) (pc' := 90) rfl (hb hby at_75) rfl (tlt (by decide : (2 : Int32) < (3 : Int32))).1 (by decide) (by decide) ?_
      show Steps p.tables e below (z2c.setTop (mkF m 90 #[.val (.int p1), .val (.int p2), .val (.int p3), .val (.int p4), .val (.int p5), .val (.int p6), .val (.ref z0), .val (.int 1), .val (.int 2), .val (.int (own_f_rmMin (((p1.toUInt32 >>> ((2 : Int32) &&& 31).toUInt32).toInt32) &&& (3 : Int32)) (2 : Int32)))] [])) _
      refine XS.iload z26.here hx rfl (hb hby at_90) rfl ?_
      refine XS.ifNo z26.here hx rfl (hb hby at_92) rfl ((if0 _ _).trans (feq (by decide : ¬ ((1 : Int32) = (0 : Int32)))).1) ?_
      show Steps p.tables e below (z2c.setTop (mkF m 95 #[.val (.int p1), .val (.int p2), .val (.int p3), .val (.int p4), .val (.int p5), .val (.int p6), .val (.ref z0), .val (.int 1), .val (.int 2), .val (.int (own_f_rmMin (((p1.toUInt32 >>> ((2 : Int32) &&& 31).toUInt32).toInt32) &&& (3 : Int32)) (2 : Int32)))] [])) _
      refine XS.aload z26.here hx rfl (hb hby at_95) rfl rfl ?_
      refine z6o.trans ?_
      show Steps p.tables e below (z1e.setTop (mkF m 100 #[.val (.int p1), .val (.int p2), .val (.int p3), .val (.int p4), .val (.int p5), .val (.int p6), .val (.ref z0), .val (.int 1), .val (.int 2), .val (.int (own_f_rmMin (((p1.toUInt32 >>> ((2 : Int32) &&& 31).toUInt32).toInt32) &&& (3 : Int32)) (2 : Int32)))] [(.int 0)])) _
      refine XS.iload zf.here hx rfl (hb hby at_100) rfl ?_
      refine XS.ifYes zf.here hx rfl (pc0 := 102) (pc' := 109) rfl (hb hby at_102) rfl ((if0 _ _).trans (feq (by decide : ¬ ((2 : Int32) = (0 : Int32)))).2) (by decide) (by decide) ?_
      show Steps p.tables e below (z1e.setTop (mkF m 109 #[.val (.int p1), .val (.int p2), .val (.int p3), .val (.int p4), .val (.int p5), .val (.int p6), .val (.ref z0), .val (.int 1), .val (.int 2), .val (.int (own_f_rmMin (((p1.toUInt32 >>> ((2 : Int32) &&& 31).toUInt32).toInt32) &&& (3 : Int32)) (2 : Int32)))] [(.int 0)])) _
      refine XS.iconst zf.here hx rfl (hb hby at_109) ?_
      refine XS.icmpNo zf.here hx rfl (hb hby at_110) rfl (teq (by decide : (0 : Int32) = (0 : Int32))).2 ?_
      show Steps p.tables e below (z1e.setTop (mkF m 113 #[.val (.int p1), .val (.int p2), .val (.int p3), .val (.int p4), .val (.int p5), .val (.int p6), .val (.ref z0), .val (.int 1), .val (.int 2), .val (.int (own_f_rmMin (((p1.toUInt32 >>> ((2 : Int32) &&& 31).toUInt32).toInt32) &&& (3 : Int32)) (2 : Int32)))] [])) _
      refine XS.iconst zf.here hx rfl (hb hby at_113) ?_
      refine XS.goto zf.here hx rfl (pc0 := 114) (pc' := 118) rfl (hb hby at_114) (by decide) (by decide) ?_
      refine XS.istore zf.here hx rfl (hb hby at_118) rfl (l' := #[.val (.int p1), .val (.int p2), .val (.int p3), .val (.int p4), .val (.int p5), .val (.int p6), .val (.ref z0), .val (.int 1), .val (.int 2), .val (.int (own_f_rmMin (((p1.toUInt32 >>> ((2 : Int32) &&& 31).toUInt32).toInt32) &&& (3 : Int32)) (2 : Int32)))]) rfl ?_
      refine XS.iload zf.here hx rfl (hb hby at_120) rfl ?_
      exact k)
    obtain ⟨zaz, zb0, z2n⟩ := own_r2 _ (own_k ((p1.toUInt32 >>> ((2 : Int32) &&& 31).toUInt32).toInt32))
    match zaz, zb0, z2n with
    | 0, _, z2n =>
      have zb1 := own_QB.size fB843
      obtain ⟨cq851, kq851, zb2, zfg, zb3⟩ := isOf hZ z2x z2w
      obtain ⟨_, _, ⟨z3k, L851, zfh, n851⟩, -, z1m, ⟨Lc851, z6p, l851, y851, z851⟩, z6q⟩ := zf.virtualBack hx (y := own_m0) (z := own_m0) hown (mvT hZ (own_W hw 32 rfl)) (mvT hZ (own_W hw 33 rfl)) (notFace_of_selects (args := #[]) (mvT hZ (own_W hw 35 rfl))) (mvT hZ (own_W hw 35 rfl)) (mvT hZ (own_W hw 34 rfl)) (by decide) (backOf (W := 0) (rmL7 l Z a0 hw [] z2c.heap n0 p1 p2 p3 p4 p5 p6 A K z0 EN z2v zb1) hZ (own_W hw 36 rfl) (own_W hw 2 rfl) (by decide) (by decide)) zb2 zb3 (g := (mkF m 160 #[.val (.int p1), .val (.int p2), .val (.int p3), .val (.int p4), .val (.int p5), .val (.int p6), .val (.ref z0), .val (.int 1), .val (.int 2), .val (.int 0)] [(.ref z0)])) rfl (by rw [hml]; rfl) (Steps.refl _) (argsL := []) (rest := []) (lenOf own_pd6 rfl) rfl (by show 2 * 0 + _ ≤ _; exact Nat.le_of_eq rfl) (hb hby at_160) (fun _ _ => ⟨rfl, z2x, (by decide : 9 + 0 ≤ _), (by decide : 122 + 0 ≤ _)⟩)
      dsimp only [Pt.U, Pt.locs, Pt.cells, Pt.slots] at z1m l851 y851 z851 z6q z6p
      replace z1m := own_sub z1m l851 y851 z851
      obtain ⟨rfl, zb4, zfi⟩ := z6p
      have zb5 := Fr.app z4o zb4
      obtain ⟨fs, hr, hrun, hended, hW, hsame⟩ := z1m.leave (v := some (.int 1)) (fun h => by rw [Bd.returns] at h; cases h)
      refine ⟨_, _, z4p _ ?_, hrun, hended, _, _, rfl, ?_, ⟨_, rfl⟩, hW, hsame.mono (by decide) (by decide)⟩
      · show Steps p.tables e below (z1e.setTop (mkF m 122 #[.val (.int p1), .val (.int p2), .val (.int p3), .val (.int p4), .val (.int p5), .val (.int p6), .val (.ref z0), .val (.int 1), .val (.int 2), .val (.int (own_f_rmMin (((p1.toUInt32 >>> ((2 : Int32) &&& 31).toUInt32).toInt32) &&& (3 : Int32)) (2 : Int32)))] [(.int (own_f_rmMin (((p1.toUInt32 >>> ((2 : Int32) &&& 31).toUInt32).toInt32) &&& (3 : Int32)) (2 : Int32)))])) _
        rw [z2n]
        show Steps p.tables e below (z1e.setTop (mkF m 122 #[.val (.int p1), .val (.int p2), .val (.int p3), .val (.int p4), .val (.int p5), .val (.int p6), .val (.ref z0), .val (.int 1), .val (.int 2), .val (.int 0)] [(.int 0)])) _
        refine XS.iconst zf.here hx rfl (hb hby at_122) ?_
        refine XS.icmpYes zf.here hx rfl (pc0 := 123) (pc' := 131) rfl (hb hby at_123) rfl (tlt (by decide : (0 : Int32) < (1 : Int32))).1 (by decide) (by decide) ?_
        show Steps p.tables e below (z1e.setTop (mkF m 131 #[.val (.int p1), .val (.int p2), .val (.int p3), .val (.int p4), .val (.int p5), .val (.int p6), .val (.ref z0), .val (.int 1), .val (.int 2), .val (.int 0)] [])) _
        refine XS.iload zf.here hx rfl (hb hby at_131) rfl ?_
        refine XS.iconst zf.here hx rfl (hb hby at_133) ?_
        refine XS.icmpYes zf.here hx rfl (pc0 := 134) (pc' := 142) rfl (hb hby at_134) rfl (tlt (by decide : (0 : Int32) < (2 : Int32))).1 (by decide) (by decide) ?_
        show Steps p.tables e below (z1e.setTop (mkF m 142 #[.val (.int p1), .val (.int p2), .val (.int p3), .val (.int p4), .val (.int p5), .val (.int p6), .val (.ref z0), .val (.int 1), .val (.int 2), .val (.int 0)] [])) _
        refine XS.iload zf.here hx rfl (hb hby at_142) rfl ?_
        refine XS.iconst zf.here hx rfl (hb hby at_144) ?_
        refine XS.icmpYes zf.here hx rfl (pc0 := 145) (pc' := 153) rfl (hb hby at_145) rfl (tlt (by decide : (0 : Int32) < (3 : Int32))).1 (by decide) (by decide) ?_
        show Steps p.tables e below (z1e.setTop (mkF m 153 #[.val (.int p1), .val (.int p2), .val (.int p3), .val (.int p4), .val (.int p5), .val (.int p6), .val (.ref z0), .val (.int 1), .val (.int 2), .val (.int 0)] [])) _
        refine XS.iload zf.here hx rfl (hb hby at_153) rfl ?_
        refine XS.ifNo zf.here hx rfl (hb hby at_155) rfl ((if0 _ _).trans (feq (by decide : ¬ ((1 : Int32) = (0 : Int32)))).1) ?_
        show Steps p.tables e below (z1e.setTop (mkF m 158 #[.val (.int p1), .val (.int p2), .val (.int p3), .val (.int p4), .val (.int p5), .val (.int p6), .val (.ref z0), .val (.int 1), .val (.int 2), .val (.int 0)] [])) _
        refine XS.aload zf.here hx rfl (hb hby at_158) rfl rfl ?_
        refine z6q.trans ?_
        show Steps p.tables e below (z3k.setTop (mkF m 163 #[.val (.int p1), .val (.int p2), .val (.int p3), .val (.int p4), .val (.int p5), .val (.int p6), .val (.ref z0), .val (.int 1), .val (.int 2), .val (.int 0)] [(.int 0)])) _
        refine XS.iload z1m.here hx rfl (hb hby at_163) rfl ?_
        refine XS.iload z1m.here hx rfl (hb hby at_165) rfl ?_
        refine XS.icmpYes z1m.here hx rfl (pc0 := 167) (pc' := 174) rfl (hb hby at_167) rfl (feq (by decide : ¬ ((2 : Int32) = (0 : Int32)))).2 (by decide) (by decide) ?_
        show Steps p.tables e below (z3k.setTop (mkF m 174 #[.val (.int p1), .val (.int p2), .val (.int p3), .val (.int p4), .val (.int p5), .val (.int p6), .val (.ref z0), .val (.int 1), .val (.int 2), .val (.int 0)] [(.int 0)])) _
        refine XS.iconst z1m.here hx rfl (hb hby at_174) ?_
        refine XS.icmpNo z1m.here hx rfl (hb hby at_175) rfl (teq (by decide : (0 : Int32) = (0 : Int32))).2 ?_
        show Steps p.tables e below (z3k.setTop (mkF m 178 #[.val (.int p1), .val (.int p2), .val (.int p3), .val (.int p4), .val (.int p5), .val (.int p6), .val (.ref z0), .val (.int 1), .val (.int 2), .val (.int 0)] [])) _
        refine XS.iconst z1m.here hx rfl (hb hby at_178) ?_
        refine XS.goto z1m.here hx rfl (pc0 := 179) (pc' := 183) rfl (hb hby at_179) (by decide) (by decide) ?_
        refine XS.istore z1m.here hx rfl (hb hby at_183) rfl (l' := #[.val (.int p1), .val (.int p2), .val (.int p3), .val (.int p4), .val (.int p5), .val (.int p6), .val (.ref z0), .val (.int 1), .val (.int 2), .val (.int 0)]) rfl ?_
        refine XS.iload z1m.here hx rfl (hb hby at_185) rfl ?_
        exact retN z1m hx (t := .boolean) Bd.returns (by simp) (hb hby at_187) hr
      · show LQ n0 _ z3k.heap _
        exact ⟨rfl, zb5, trivial⟩
    | 1, _, z2n =>
      have zb6 := (z4n.keep z33 (ninS (Ne.symm (Nat.ne_of_lt (Nat.lt_trans (Nat.lt_trans z1 z3) z5))) (ninS (Ne.symm (Nat.ne_of_lt (Nat.lt_trans z3 z5))) (ninS (Ne.symm (Nat.ne_of_lt z5)) (ninS (Ne.symm (Nat.ne_of_lt zp)) (ninS (Ne.symm (Nat.ne_of_lt (Nat.lt_trans (Nat.lt_trans (Nat.lt_trans (Nat.lt_trans (Nat.lt_trans z6 z4) z2) z1) z3) z5))) (ninS (Ne.symm (Nat.ne_of_lt (Nat.lt_trans (Nat.lt_trans (Nat.lt_trans (Nat.lt_trans z4 z2) z1) z3) z5))) (ninS (Ne.symm (Nat.ne_of_lt (Nat.lt_trans (Nat.lt_trans (Nat.lt_trans z2 z1) z3) z5))) nin0))))))))
      have zb7 : own_AM Z z2c.heap zg zx .int := ⟨_, _, zb6⟩
      obtain ⟨cq854, kq854, zb8, zfj, zb9⟩ := isOf hZ z2x z2w
      obtain ⟨_, _, ⟨z34, L854, zfk, n854⟩, -, z1x, ⟨Lc854, z6r, l854, y854, z854⟩, z6s⟩ := zf.virtualBack hx (y := own_m1) (z := own_m1) hown (mvT hZ (own_W hw 54 rfl)) (mvT hZ (own_W hw 55 rfl)) (notFace_of_selects (args := #[]) (mvT hZ (own_W hw 57 rfl))) (mvT hZ (own_W hw 57 rfl)) (mvT hZ (own_W hw 56 rfl)) (by decide) (backOf (W := 0) (wR2 l Z a0 hw [] z2c.heap n0 A K z0 zi zj zk zl zm zn zg zq zr zs zt zu zv zx EN z2v fB843 zb7 (Nat.ne_of_lt z14) (Nat.ne_of_lt z15) (Nat.ne_of_lt z16) (Nat.ne_of_lt z17) (Nat.ne_of_lt z18) (Nat.ne_of_lt z19) (Nat.ne_of_lt zp) (Nat.ne_of_lt z6) (Nat.ne_of_lt (Nat.lt_trans z6 z4)) (Nat.ne_of_lt (Nat.lt_trans (Nat.lt_trans z6 z4) z2)) (Nat.ne_of_lt (Nat.lt_trans (Nat.lt_trans (Nat.lt_trans z6 z4) z2) z1)) (Nat.ne_of_lt (Nat.lt_trans (Nat.lt_trans (Nat.lt_trans (Nat.lt_trans z6 z4) z2) z1) z3)) (Nat.ne_of_lt (Nat.lt_trans (Nat.lt_trans (Nat.lt_trans (Nat.lt_trans (Nat.lt_trans z6 z4) z2) z1) z3) z5)) (Nat.ne_of_lt z4) (Nat.ne_of_lt (Nat.lt_trans z4 z2)) (Nat.ne_of_lt (Nat.lt_trans (Nat.lt_trans z4 z2) z1)) (Nat.ne_of_lt (Nat.lt_trans (Nat.lt_trans (Nat.lt_trans z4 z2) z1) z3)) (Nat.ne_of_lt (Nat.lt_trans (Nat.lt_trans (Nat.lt_trans (Nat.lt_trans z4 z2) z1) z3) z5)) (Nat.ne_of_lt z2) (Nat.ne_of_lt (Nat.lt_trans z2 z1)) (Nat.ne_of_lt (Nat.lt_trans (Nat.lt_trans z2 z1) z3)) (Nat.ne_of_lt (Nat.lt_trans (Nat.lt_trans (Nat.lt_trans z2 z1) z3) z5)) (Nat.ne_of_lt z1) (Nat.ne_of_lt (Nat.lt_trans z1 z3)) (Nat.ne_of_lt (Nat.lt_trans (Nat.lt_trans z1 z3) z5)) (Nat.ne_of_lt z3) (Nat.ne_of_lt (Nat.lt_trans z3 z5)) (Nat.ne_of_lt z5) z9 zb zc zd zy zz ze zo) hZ (own_W hw 58 rfl) (own_W hw 2 rfl) (by decide) (by decide)) zb8 zb9 (g := (mkF m 128 #[.val (.int p1), .val (.int p2), .val (.int p3), .val (.int p4), .val (.int p5), .val (.int p6), .val (.ref z0), .val (.int 1), .val (.int 2), .val (.int 1)] [(.ref z0)])) rfl (by rw [hml]; rfl) (Steps.refl _) (argsL := []) (rest := []) (lenOf own_pd4 rfl) rfl (by show 2 * 0 + _ ≤ _; exact Nat.le_of_eq rfl) (hb hby at_128) (fun _ _ => ⟨rfl, z2x, (by decide : 9 + 0 ≤ _), (by decide : 122 + 0 ≤ _)⟩)
      dsimp only [Pt.U, Pt.locs, Pt.cells, Pt.slots] at z1x l854 y854 z854 z6s z6r
      replace z1x := own_sub z1x l854 y854 z854
      obtain ⟨rfl, zba, z4q, fB854, fM854⟩ := z6r
      have zbb := Fr.app z4o zba
      have zbc := z2v.keep z4q (allS ze (allS zo (allS z9 (allS zd (allS zc (allS zb all0))))))
      have zfl := z6m.trans z4q (allS (Or.inr z1d) (allS (Or.inr z24) (allS (Or.inr z12) (allS (Or.inr z1c) (allS (Or.inr z1b) (allS (Or.inr z1a) all0))))))
      have zbd := (z2w.keep z4q)
      have zbe := own_QB.size fB854
      obtain ⟨cq857, kq857, zbf, zfm, zbg⟩ := isOf hZ rfl zbd
      obtain ⟨_, _, ⟨z3l, L857, zfn, n857⟩, -, z1n, ⟨Lc857, z6t, l857, y857, z857⟩, z6u⟩ := z1x.virtualBack hx (y := own_m0) (z := own_m0) hown (mvT hZ (own_W hw 32 rfl)) (mvT hZ (own_W hw 33 rfl)) (notFace_of_selects (args := #[]) (mvT hZ (own_W hw 35 rfl))) (mvT hZ (own_W hw 35 rfl)) (mvT hZ (own_W hw 34 rfl)) (by decide) (backOf (W := 0) (rmL6 l Z a0 hw [] z34.heap n0 p1 p2 p3 p4 p5 p6 A K z0 EN zbc zbe) hZ (own_W hw 36 rfl) (own_W hw 2 rfl) (by decide) (by decide)) zbf zbg (g := (mkF m 160 #[.val (.int p1), .val (.int p2), .val (.int p3), .val (.int p4), .val (.int p5), .val (.int p6), .val (.ref z0), .val (.int 1), .val (.int 2), .val (.int 1)] [(.ref z0)])) rfl (by rw [hml]; rfl) (Steps.refl _) (argsL := []) (rest := []) (lenOf own_pd6 rfl) rfl (by show 2 * 0 + _ ≤ _; exact Nat.le_of_eq rfl) (hb hby at_160) (fun _ _ => ⟨rfl, rfl, (by decide : 9 + 0 ≤ _), (by decide : 122 + 0 ≤ _)⟩)
      dsimp only [Pt.U, Pt.locs, Pt.cells, Pt.slots] at z1n l857 y857 z857 z6u z6t
      replace z1n := own_sub z1n l857 y857 z857
      obtain ⟨rfl, zbh, zfo⟩ := z6t
      have zbi := Fr.app zbb zbh
      obtain ⟨fs, hr, hrun, hended, hW, hsame⟩ := z1n.leave (v := some (.int 1)) (fun h => by rw [Bd.returns] at h; cases h)
      refine ⟨_, _, z4p _ ?_, hrun, hended, _, _, rfl, ?_, ⟨_, rfl⟩, hW, hsame.mono (by decide) (by decide)⟩
      · show Steps p.tables e below (z1e.setTop (mkF m 122 #[.val (.int p1), .val (.int p2), .val (.int p3), .val (.int p4), .val (.int p5), .val (.int p6), .val (.ref z0), .val (.int 1), .val (.int 2), .val (.int (own_f_rmMin (((p1.toUInt32 >>> ((2 : Int32) &&& 31).toUInt32).toInt32) &&& (3 : Int32)) (2 : Int32)))] [(.int (own_f_rmMin (((p1.toUInt32 >>> ((2 : Int32) &&& 31).toUInt32).toInt32) &&& (3 : Int32)) (2 : Int32)))])) _
        rw [z2n]
        show Steps p.tables e below (z1e.setTop (mkF m 122 #[.val (.int p1), .val (.int p2), .val (.int p3), .val (.int p4), .val (.int p5), .val (.int p6), .val (.ref z0), .val (.int 1), .val (.int 2), .val (.int 1)] [(.int 1)])) _
        refine XS.iconst zf.here hx rfl (hb hby at_122) ?_
        refine XS.icmpNo zf.here hx rfl (hb hby at_123) rfl (flt (by decide : ¬ ((1 : Int32) < (1 : Int32)))).1 ?_
        show Steps p.tables e below (z1e.setTop (mkF m 126 #[.val (.int p1), .val (.int p2), .val (.int p3), .val (.int p4), .val (.int p5), .val (.int p6), .val (.ref z0), .val (.int 1), .val (.int 2), .val (.int 1)] [])) _
        refine XS.aload zf.here hx rfl (hb hby at_126) rfl rfl ?_
        refine z6s.trans ?_
        show Steps p.tables e below (z34.setTop (mkF m 131 #[.val (.int p1), .val (.int p2), .val (.int p3), .val (.int p4), .val (.int p5), .val (.int p6), .val (.ref z0), .val (.int 1), .val (.int 2), .val (.int 1)] [])) _
        refine XS.iload z1x.here hx rfl (hb hby at_131) rfl ?_
        refine XS.iconst z1x.here hx rfl (hb hby at_133) ?_
        refine XS.icmpYes z1x.here hx rfl (pc0 := 134) (pc' := 142) rfl (hb hby at_134) rfl (tlt (by decide : (1 : Int32) < (2 : Int32))).1 (by decide) (by decide) ?_
        show Steps p.tables e below (z34.setTop (mkF m 142 #[.val (.int p1), .val (.int p2), .val (.int p3), .val (.int p4), .val (.int p5), .val (.int p6), .val (.ref z0), .val (.int 1), .val (.int 2), .val (.int 1)] [])) _
        refine XS.iload z1x.here hx rfl (hb hby at_142) rfl ?_
        refine XS.iconst z1x.here hx rfl (hb hby at_144) ?_
        refine XS.icmpYes z1x.here hx rfl (pc0 := 145) (pc' := 153) rfl (hb hby at_145) rfl (tlt (by decide : (1 : Int32) < (3 : Int32))).1 (by decide) (by decide) ?_
        show Steps p.tables e below (z34.setTop (mkF m 153 #[.val (.int p1), .val (.int p2), .val (.int p3), .val (.int p4), .val (.int p5), .val (.int p6), .val (.ref z0), .val (.int 1), .val (.int 2), .val (.int 1)] [])) _
        refine XS.iload z1x.here hx rfl (hb hby at_153) rfl ?_
        refine XS.ifNo z1x.here hx rfl (hb hby at_155) rfl ((if0 _ _).trans (feq (by decide : ¬ ((1 : Int32) = (0 : Int32)))).1) ?_
        show Steps p.tables e below (z34.setTop (mkF m 158 #[.val (.int p1), .val (.int p2), .val (.int p3), .val (.int p4), .val (.int p5), .val (.int p6), .val (.ref z0), .val (.int 1), .val (.int 2), .val (.int 1)] [])) _
        refine XS.aload z1x.here hx rfl (hb hby at_158) rfl rfl ?_
        refine z6u.trans ?_
        show Steps p.tables e below (z3l.setTop (mkF m 163 #[.val (.int p1), .val (.int p2), .val (.int p3), .val (.int p4), .val (.int p5), .val (.int p6), .val (.ref z0), .val (.int 1), .val (.int 2), .val (.int 1)] [(.int 0)])) _
        refine XS.iload z1n.here hx rfl (hb hby at_163) rfl ?_
        refine XS.iload z1n.here hx rfl (hb hby at_165) rfl ?_
        refine XS.icmpYes z1n.here hx rfl (pc0 := 167) (pc' := 174) rfl (hb hby at_167) rfl (feq (by decide : ¬ ((2 : Int32) = (1 : Int32)))).2 (by decide) (by decide) ?_
        show Steps p.tables e below (z3l.setTop (mkF m 174 #[.val (.int p1), .val (.int p2), .val (.int p3), .val (.int p4), .val (.int p5), .val (.int p6), .val (.ref z0), .val (.int 1), .val (.int 2), .val (.int 1)] [(.int 0)])) _
        refine XS.iconst z1n.here hx rfl (hb hby at_174) ?_
        refine XS.icmpNo z1n.here hx rfl (hb hby at_175) rfl (teq (by decide : (0 : Int32) = (0 : Int32))).2 ?_
        show Steps p.tables e below (z3l.setTop (mkF m 178 #[.val (.int p1), .val (.int p2), .val (.int p3), .val (.int p4), .val (.int p5), .val (.int p6), .val (.ref z0), .val (.int 1), .val (.int 2), .val (.int 1)] [])) _
        refine XS.iconst z1n.here hx rfl (hb hby at_178) ?_
        refine XS.goto z1n.here hx rfl (pc0 := 179) (pc' := 183) rfl (hb hby at_179) (by decide) (by decide) ?_
        refine XS.istore z1n.here hx rfl (hb hby at_183) rfl (l' := #[.val (.int p1), .val (.int p2), .val (.int p3), .val (.int p4), .val (.int p5), .val (.int p6), .val (.ref z0), .val (.int 1), .val (.int 2), .val (.int 1)]) rfl ?_
        refine XS.iload z1n.here hx rfl (hb hby at_185) rfl ?_
        exact retN z1n hx (t := .boolean) Bd.returns (by simp) (hb hby at_187) hr
      · show LQ n0 _ z3l.heap _
        exact ⟨rfl, zbi, trivial⟩
    | 2, _, z2n =>
      have zbj := (z4n.keep z33 (ninS (Ne.symm (Nat.ne_of_lt (Nat.lt_trans (Nat.lt_trans z1 z3) z5))) (ninS (Ne.symm (Nat.ne_of_lt (Nat.lt_trans z3 z5))) (ninS (Ne.symm (Nat.ne_of_lt z5)) (ninS (Ne.symm (Nat.ne_of_lt zp)) (ninS (Ne.symm (Nat.ne_of_lt (Nat.lt_trans (Nat.lt_trans (Nat.lt_trans (Nat.lt_trans (Nat.lt_trans z6 z4) z2) z1) z3) z5))) (ninS (Ne.symm (Nat.ne_of_lt (Nat.lt_trans (Nat.lt_trans (Nat.lt_trans (Nat.lt_trans z4 z2) z1) z3) z5))) (ninS (Ne.symm (Nat.ne_of_lt (Nat.lt_trans (Nat.lt_trans (Nat.lt_trans z2 z1) z3) z5))) nin0))))))))
      have zbk : own_AM Z z2c.heap zg zx .int := ⟨_, _, zbj⟩
      obtain ⟨cq860, kq860, zbl, zfp, zbm⟩ := isOf hZ z2x z2w
      obtain ⟨_, _, ⟨z4r, L860, zfq, n860⟩, -, z2g, ⟨Lc860, z6v, l860, y860, z860⟩, z6w⟩ := zf.virtualBack hx (y := own_m1) (z := own_m1) hown (mvT hZ (own_W hw 54 rfl)) (mvT hZ (own_W hw 55 rfl)) (notFace_of_selects (args := #[]) (mvT hZ (own_W hw 57 rfl))) (mvT hZ (own_W hw 57 rfl)) (mvT hZ (own_W hw 56 rfl)) (by decide) (backOf (W := 0) (wR2 l Z a0 hw [] z2c.heap n0 A K z0 zi zj zk zl zm zn zg zq zr zs zt zu zv zx EN z2v fB843 zbk (Nat.ne_of_lt z14) (Nat.ne_of_lt z15) (Nat.ne_of_lt z16) (Nat.ne_of_lt z17) (Nat.ne_of_lt z18) (Nat.ne_of_lt z19) (Nat.ne_of_lt zp) (Nat.ne_of_lt z6) (Nat.ne_of_lt (Nat.lt_trans z6 z4)) (Nat.ne_of_lt (Nat.lt_trans (Nat.lt_trans z6 z4) z2)) (Nat.ne_of_lt (Nat.lt_trans (Nat.lt_trans (Nat.lt_trans z6 z4) z2) z1)) (Nat.ne_of_lt (Nat.lt_trans (Nat.lt_trans (Nat.lt_trans (Nat.lt_trans z6 z4) z2) z1) z3)) (Nat.ne_of_lt (Nat.lt_trans (Nat.lt_trans (Nat.lt_trans (Nat.lt_trans (Nat.lt_trans z6 z4) z2) z1) z3) z5)) (Nat.ne_of_lt z4) (Nat.ne_of_lt (Nat.lt_trans z4 z2)) (Nat.ne_of_lt (Nat.lt_trans (Nat.lt_trans z4 z2) z1)) (Nat.ne_of_lt (Nat.lt_trans (Nat.lt_trans (Nat.lt_trans z4 z2) z1) z3)) (Nat.ne_of_lt (Nat.lt_trans (Nat.lt_trans (Nat.lt_trans (Nat.lt_trans z4 z2) z1) z3) z5)) (Nat.ne_of_lt z2) (Nat.ne_of_lt (Nat.lt_trans z2 z1)) (Nat.ne_of_lt (Nat.lt_trans (Nat.lt_trans z2 z1) z3)) (Nat.ne_of_lt (Nat.lt_trans (Nat.lt_trans (Nat.lt_trans z2 z1) z3) z5)) (Nat.ne_of_lt z1) (Nat.ne_of_lt (Nat.lt_trans z1 z3)) (Nat.ne_of_lt (Nat.lt_trans (Nat.lt_trans z1 z3) z5)) (Nat.ne_of_lt z3) (Nat.ne_of_lt (Nat.lt_trans z3 z5)) (Nat.ne_of_lt z5) z9 zb zc zd zy zz ze zo) hZ (own_W hw 58 rfl) (own_W hw 2 rfl) (by decide) (by decide)) zbl zbm (g := (mkF m 128 #[.val (.int p1), .val (.int p2), .val (.int p3), .val (.int p4), .val (.int p5), .val (.int p6), .val (.ref z0), .val (.int 1), .val (.int 2), .val (.int 2)] [(.ref z0)])) rfl (by rw [hml]; rfl) (Steps.refl _) (argsL := []) (rest := []) (lenOf own_pd4 rfl) rfl (by show 2 * 0 + _ ≤ _; exact Nat.le_of_eq rfl) (hb hby at_128) (fun _ _ => ⟨rfl, z2x, (by decide : 9 + 0 ≤ _), (by decide : 122 + 0 ≤ _)⟩)
      dsimp only [Pt.U, Pt.locs, Pt.cells, Pt.slots] at z2g l860 y860 z860 z6w z6v
      replace z2g := own_sub z2g l860 y860 z860
      obtain ⟨rfl, zbn, z4s, fB860, fM860⟩ := z6v
      have zbo := Fr.app z4o zbn
      have z6x := z2v.keep z4s (allS ze (allS zo (allS z9 (allS zd (allS zc (allS zb all0))))))
      have zbp := z6m.trans z4s (allS (Or.inr z1d) (allS (Or.inr z24) (allS (Or.inr z12) (allS (Or.inr z1c) (allS (Or.inr z1b) (allS (Or.inr z1a) all0))))))
      have z6y := (z2w.keep z4s)
      obtain ⟨cq862, kq862, zbq, zfr, zbr⟩ := isOf hZ rfl z6y
      obtain ⟨_, _, ⟨z3m, L862, zfs, n862⟩, -, z27, ⟨Lc862, z6z, l862, y862, z862⟩, z70⟩ := z2g.virtualBack hx (y := own_m1) (z := own_m1) hown (mvT hZ (own_W hw 54 rfl)) (mvT hZ (own_W hw 55 rfl)) (notFace_of_selects (args := #[]) (mvT hZ (own_W hw 57 rfl))) (mvT hZ (own_W hw 57 rfl)) (mvT hZ (own_W hw 56 rfl)) (by decide) (backOf (W := 0) (wR1 l Z a0 hw [] z4r.heap n0 A K z0 zi zj zk zl zm zn zg zq zr zs zt zu zv zx EN z6x fB860 fM860 (Nat.ne_of_lt z14) (Nat.ne_of_lt z15) (Nat.ne_of_lt z16) (Nat.ne_of_lt z17) (Nat.ne_of_lt z18) (Nat.ne_of_lt z19) (Nat.ne_of_lt zp) (Nat.ne_of_lt z6) (Nat.ne_of_lt (Nat.lt_trans z6 z4)) (Nat.ne_of_lt (Nat.lt_trans (Nat.lt_trans z6 z4) z2)) (Nat.ne_of_lt (Nat.lt_trans (Nat.lt_trans (Nat.lt_trans z6 z4) z2) z1)) (Nat.ne_of_lt (Nat.lt_trans (Nat.lt_trans (Nat.lt_trans (Nat.lt_trans z6 z4) z2) z1) z3)) (Nat.ne_of_lt (Nat.lt_trans (Nat.lt_trans (Nat.lt_trans (Nat.lt_trans (Nat.lt_trans z6 z4) z2) z1) z3) z5)) (Nat.ne_of_lt z4) (Nat.ne_of_lt (Nat.lt_trans z4 z2)) (Nat.ne_of_lt (Nat.lt_trans (Nat.lt_trans z4 z2) z1)) (Nat.ne_of_lt (Nat.lt_trans (Nat.lt_trans (Nat.lt_trans z4 z2) z1) z3)) (Nat.ne_of_lt (Nat.lt_trans (Nat.lt_trans (Nat.lt_trans (Nat.lt_trans z4 z2) z1) z3) z5)) (Nat.ne_of_lt z2) (Nat.ne_of_lt (Nat.lt_trans z2 z1)) (Nat.ne_of_lt (Nat.lt_trans (Nat.lt_trans z2 z1) z3)) (Nat.ne_of_lt (Nat.lt_trans (Nat.lt_trans (Nat.lt_trans z2 z1) z3) z5)) (Nat.ne_of_lt z1) (Nat.ne_of_lt (Nat.lt_trans z1 z3)) (Nat.ne_of_lt (Nat.lt_trans (Nat.lt_trans z1 z3) z5)) (Nat.ne_of_lt z3) (Nat.ne_of_lt (Nat.lt_trans z3 z5)) (Nat.ne_of_lt z5) z9 zb zc zd zy zz ze zo) hZ (own_W hw 58 rfl) (own_W hw 2 rfl) (by decide) (by decide)) zbq zbr (g := (mkF m 139 #[.val (.int p1), .val (.int p2), .val (.int p3), .val (.int p4), .val (.int p5), .val (.int p6), .val (.ref z0), .val (.int 1), .val (.int 2), .val (.int 2)] [(.ref z0)])) rfl (by rw [hml]; rfl) (Steps.refl _) (argsL := []) (rest := []) (lenOf own_pd4 rfl) rfl (by show 2 * 0 + _ ≤ _; exact Nat.le_of_eq rfl) (hb hby at_139) (fun _ _ => ⟨rfl, rfl, (by decide : 9 + 0 ≤ _), (by decide : 122 + 0 ≤ _)⟩)
      dsimp only [Pt.U, Pt.locs, Pt.cells, Pt.slots] at z27 l862 y862 z862 z70 z6z
      replace z27 := own_sub z27 l862 y862 z862
      obtain ⟨rfl, zbs, z4t, fB862, fM862⟩ := z6z
      have zbt := Fr.app zbo zbs
      have zbu := z6x.keep z4t (allS ze (allS zo (allS z9 (allS zd (allS zc (allS zb all0))))))
      have zft := zbp.trans z4t (allS (Or.inr z1d) (allS (Or.inr z24) (allS (Or.inr z12) (allS (Or.inr z1c) (allS (Or.inr z1b) (allS (Or.inr z1a) all0))))))
      have zbv := (z6y.keep z4t)
      have zbw := own_QB.size fB862
      obtain ⟨cq865, kq865, zbx, zfu, zby⟩ := isOf hZ rfl zbv
      obtain ⟨_, _, ⟨z3n, L865, zfv, n865⟩, -, z1h, ⟨Lc865, z71, l865, y865, z865⟩, z72⟩ := z27.virtualBack hx (y := own_m0) (z := own_m0) hown (mvT hZ (own_W hw 32 rfl)) (mvT hZ (own_W hw 33 rfl)) (notFace_of_selects (args := #[]) (mvT hZ (own_W hw 35 rfl))) (mvT hZ (own_W hw 35 rfl)) (mvT hZ (own_W hw 34 rfl)) (by decide) (backOf (W := 0) (rmL5 l Z a0 hw [] z3m.heap n0 p1 p2 p3 p4 p5 p6 A K z0 EN zbu zbw) hZ (own_W hw 36 rfl) (own_W hw 2 rfl) (by decide) (by decide)) zbx zby (g := (mkF m 160 #[.val (.int p1), .val (.int p2), .val (.int p3), .val (.int p4), .val (.int p5), .val (.int p6), .val (.ref z0), .val (.int 1), .val (.int 2), .val (.int 2)] [(.ref z0)])) rfl (by rw [hml]; rfl) (Steps.refl _) (argsL := []) (rest := []) (lenOf own_pd6 rfl) rfl (by show 2 * 0 + _ ≤ _; exact Nat.le_of_eq rfl) (hb hby at_160) (fun _ _ => ⟨rfl, rfl, (by decide : 9 + 0 ≤ _), (by decide : 122 + 0 ≤ _)⟩)
      dsimp only [Pt.U, Pt.locs, Pt.cells, Pt.slots] at z1h l865 y865 z865 z72 z71
      replace z1h := own_sub z1h l865 y865 z865
      obtain ⟨rfl, zbz, zfw⟩ := z71
      have zc0 := Fr.app zbt zbz
      obtain ⟨fs, hr, hrun, hended, hW, hsame⟩ := z1h.leave (v := some (.int 1)) (fun h => by rw [Bd.returns] at h; cases h)
      refine ⟨_, _, z4p _ ?_, hrun, hended, _, _, rfl, ?_, ⟨_, rfl⟩, hW, hsame.mono (by decide) (by decide)⟩
      · show Steps p.tables e below (z1e.setTop (mkF m 122 #[.val (.int p1), .val (.int p2), .val (.int p3), .val (.int p4), .val (.int p5), .val (.int p6), .val (.ref z0), .val (.int 1), .val (.int 2), .val (.int (own_f_rmMin (((p1.toUInt32 >>> ((2 : Int32) &&& 31).toUInt32).toInt32) &&& (3 : Int32)) (2 : Int32)))] [(.int (own_f_rmMin (((p1.toUInt32 >>> ((2 : Int32) &&& 31).toUInt32).toInt32) &&& (3 : Int32)) (2 : Int32)))])) _
        rw [z2n]
        show Steps p.tables e below (z1e.setTop (mkF m 122 #[.val (.int p1), .val (.int p2), .val (.int p3), .val (.int p4), .val (.int p5), .val (.int p6), .val (.ref z0), .val (.int 1), .val (.int 2), .val (.int 2)] [(.int 2)])) _
        refine XS.iconst zf.here hx rfl (hb hby at_122) ?_
        refine XS.icmpNo zf.here hx rfl (hb hby at_123) rfl (flt (by decide : ¬ ((2 : Int32) < (1 : Int32)))).1 ?_
        show Steps p.tables e below (z1e.setTop (mkF m 126 #[.val (.int p1), .val (.int p2), .val (.int p3), .val (.int p4), .val (.int p5), .val (.int p6), .val (.ref z0), .val (.int 1), .val (.int 2), .val (.int 2)] [])) _
        refine XS.aload zf.here hx rfl (hb hby at_126) rfl rfl ?_
        refine z6w.trans ?_
        show Steps p.tables e below (z4r.setTop (mkF m 131 #[.val (.int p1), .val (.int p2), .val (.int p3), .val (.int p4), .val (.int p5), .val (.int p6), .val (.ref z0), .val (.int 1), .val (.int 2), .val (.int 2)] [])) _
        refine XS.iload z2g.here hx rfl (hb hby at_131) rfl ?_
        refine XS.iconst z2g.here hx rfl (hb hby at_133) ?_
        refine XS.icmpNo z2g.here hx rfl (hb hby at_134) rfl (flt (by decide : ¬ ((2 : Int32) < (2 : Int32)))).1 ?_
        show Steps p.tables e below (z4r.setTop (mkF m 137 #[.val (.int p1), .val (.int p2), .val (.int p3), .val (.int p4), .val (.int p5), .val (.int p6), .val (.ref z0), .val (.int 1), .val (.int 2), .val (.int 2)] [])) _
        refine XS.aload z2g.here hx rfl (hb hby at_137) rfl rfl ?_
        refine z70.trans ?_
        show Steps p.tables e below (z3m.setTop (mkF m 142 #[.val (.int p1), .val (.int p2), .val (.int p3), .val (.int p4), .val (.int p5), .val (.int p6), .val (.ref z0), .val (.int 1), .val (.int 2), .val (.int 2)] [])) _
        refine XS.iload z27.here hx rfl (hb hby at_142) rfl ?_
        refine XS.iconst z27.here hx rfl (hb hby at_144) ?_
        refine XS.icmpYes z27.here hx rfl (pc0 := 145) (pc' := 153) rfl (hb hby at_145) rfl (tlt (by decide : (2 : Int32) < (3 : Int32))).1 (by decide) (by decide) ?_
        show Steps p.tables e below (z3m.setTop (mkF m 153 #[.val (.int p1), .val (.int p2), .val (.int p3), .val (.int p4), .val (.int p5), .val (.int p6), .val (.ref z0), .val (.int 1), .val (.int 2), .val (.int 2)] [])) _
        refine XS.iload z27.here hx rfl (hb hby at_153) rfl ?_
        refine XS.ifNo z27.here hx rfl (hb hby at_155) rfl ((if0 _ _).trans (feq (by decide : ¬ ((1 : Int32) = (0 : Int32)))).1) ?_
        show Steps p.tables e below (z3m.setTop (mkF m 158 #[.val (.int p1), .val (.int p2), .val (.int p3), .val (.int p4), .val (.int p5), .val (.int p6), .val (.ref z0), .val (.int 1), .val (.int 2), .val (.int 2)] [])) _
        refine XS.aload z27.here hx rfl (hb hby at_158) rfl rfl ?_
        refine z72.trans ?_
        show Steps p.tables e below (z3n.setTop (mkF m 163 #[.val (.int p1), .val (.int p2), .val (.int p3), .val (.int p4), .val (.int p5), .val (.int p6), .val (.ref z0), .val (.int 1), .val (.int 2), .val (.int 2)] [(.int 1)])) _
        refine XS.iload z1h.here hx rfl (hb hby at_163) rfl ?_
        refine XS.iload z1h.here hx rfl (hb hby at_165) rfl ?_
        refine XS.icmpNo z1h.here hx rfl (hb hby at_167) rfl (teq (by decide : (2 : Int32) = (2 : Int32))).2 ?_
        show Steps p.tables e below (z3n.setTop (mkF m 170 #[.val (.int p1), .val (.int p2), .val (.int p3), .val (.int p4), .val (.int p5), .val (.int p6), .val (.ref z0), .val (.int 1), .val (.int 2), .val (.int 2)] [(.int 1)])) _
        refine XS.iconst z1h.here hx rfl (hb hby at_170) ?_
        refine XS.goto z1h.here hx rfl (pc0 := 171) (pc' := 175) rfl (hb hby at_171) (by decide) (by decide) ?_
        refine XS.icmpNo z1h.here hx rfl (hb hby at_175) rfl (teq (by decide : (1 : Int32) = (1 : Int32))).2 ?_
        show Steps p.tables e below (z3n.setTop (mkF m 178 #[.val (.int p1), .val (.int p2), .val (.int p3), .val (.int p4), .val (.int p5), .val (.int p6), .val (.ref z0), .val (.int 1), .val (.int 2), .val (.int 2)] [])) _
        refine XS.iconst z1h.here hx rfl (hb hby at_178) ?_
        refine XS.goto z1h.here hx rfl (pc0 := 179) (pc' := 183) rfl (hb hby at_179) (by decide) (by decide) ?_
        refine XS.istore z1h.here hx rfl (hb hby at_183) rfl (l' := #[.val (.int p1), .val (.int p2), .val (.int p3), .val (.int p4), .val (.int p5), .val (.int p6), .val (.ref z0), .val (.int 1), .val (.int 2), .val (.int 2)]) rfl ?_
        refine XS.iload z1h.here hx rfl (hb hby at_185) rfl ?_
        exact retN z1h hx (t := .boolean) Bd.returns (by simp) (hb hby at_187) hr
      · show LQ n0 _ z3n.heap _
        exact ⟨rfl, zc0, trivial⟩
    | kk + 3, h, _ => exact absurd h (by omega)
  | 3, _, z2b =>
    obtain ⟨_, _, ⟨z4u, L866, zfx, n866⟩, -, z1o, ⟨Lc866, z73, l866, y866, z866⟩, z74⟩ := Jvm.LawKit.callS z7 hx (y := own_m5) hown (mvT hZ (own_W hw 39 rfl)) (mvT hZ (own_W hw 40 rfl)) (mvT hZ (own_W hw 41 rfl)) (mvT hZ (own_W hw 42 rfl)) (by decide) (backOf (W := 0) (rmMin l Z a0 hw [] za.heap n0 A K (((p1.toUInt32 >>> ((2 : Int32) &&& 31).toUInt32).toInt32) &&& (3 : Int32)) (3 : Int32) EN z1s) hZ (own_W hw 42 rfl) (own_W hw 41 rfl) (by decide) (by decide)) (g := (mkF m 28 #[.val (.int p1), .val (.int p2), .val (.int p3), .val (.int p4), .val (.int p5), .val (.int p6), .val (.ref z0), .val (.int 1), .val (.int 3), .unset] [(.int 3), (.int (((p1.toUInt32 >>> ((2 : Int32) &&& 31).toUInt32).toInt32) &&& (3 : Int32)))])) rfl (by rw [hml]; rfl) (argsL := [(.int (((p1.toUInt32 >>> ((2 : Int32) &&& 31).toUInt32).toInt32) &&& (3 : Int32))), (.int 3)]) (rest := []) (lenOf own_pd2 rfl) rfl (by show 2 * 0 + _ ≤ _; exact Nat.le_of_eq rfl) (hb hby at_28) (fun _ _ => ⟨rfl, z37, (by decide : 8 + 0 ≤ _), (by decide : 121 + 0 ≤ _)⟩)
    dsimp only [Pt.U, Pt.locs, Pt.cells, Pt.slots] at z1o l866 y866 z866 z74 z73
    replace z1o := own_sub z1o l866 y866 z866
    obtain ⟨rfl, zc1, z75⟩ := z73
    have zc2 := Fr.app z38 zc1
    have zc3 : Arv Z za.heap zi zq .double (16 : Int32) [(.double (Jvm.FP.l2d ((0 : Int32).toInt64))), (.double (Jvm.FP.l2d ((0 : Int32).toInt64))), (.double (Jvm.FP.l2d ((0 : Int32).toInt64)))] (.double (Jvm.FP.l2d ((0 : Int32).toInt64))) := Arv.pad z4a (pad_rep [] (.double (Jvm.FP.l2d ((0 : Int32).toInt64))) 3)
    have zc4 : Arv Z za.heap zj zr .long (16 : Int32) [(.long 0), (.long 0), (.long 0)] (.long 0) := Arv.pad z4b (pad_rep [] (.long 0) 3)
    have zc5 : Arv Z za.heap zk zs .int 16 [(.int 0), (.int 0), (.int 0)] (.int 0) := Arv.pad z4c (pad_rep [] (.int 0) 3)
    have zc6 : Arv Z za.heap zl zt .int 16 [(.int 0), (.int 0), (.int 0)] (.int 0) := Arv.pad z4d (pad_rep [] (.int 0) 3)
    have zc7 : Arv Z za.heap zm zu .int 16 [(.int 0), (.int 0), (.int 0)] (.int 0) := Arv.pad z4e (pad_rep [] (.int 0) 3)
    have zc8 : own_AM Z za.heap zn zv (.object y_s3) := ⟨_, _, z4f⟩
    have zc9 : own_QB Z za.heap (0 : Int32) z0 zi zj zk zl zm zn zg zq zr zs zt zu zv := ⟨(0 : Int32), (0 : Int32), (0 : Int32), (0 : Int64), (0 : Int64), (0 : Int64), (0 : Int32), (0 : Int32), (0 : Int32), (0 : Int32), (0 : Int32), (0 : Int32), (0 : Int32), (0 : Int32), (0 : Int32), (0 : Int64), by decide, by decide, by decide, by decide, by decide, by decide, z21, z42, z43, z44, z45, z46, z47, z48, z2r, z49, zc3, zc4, zc5, zc6, zc7, zc8, z4g⟩
    obtain ⟨cq874, kq874, zca, zfy, zcb⟩ := isOf hZ z75 z21
    obtain ⟨_, _, ⟨z3o, L874, zfz, n874⟩, -, z1y, ⟨Lc874, z76, l874, y874, z874⟩, z77⟩ := z1o.virtualBack hx (y := own_m3) (z := own_m3) hown (mvT hZ (own_W hw 43 rfl)) (mvT hZ (own_W hw 44 rfl)) (notFace_of_selects (args := #[]) (mvT hZ (own_W hw 46 rfl))) (mvT hZ (own_W hw 46 rfl)) (mvT hZ (own_W hw 45 rfl)) (by decide) (backOf (W := 0) (wA0 l Z a0 hw [] za.heap n0 A K z0 zi zj zk zl zm zn zg zq zr zs zt zu zv zx p2 p5 p6 EN z1s zc9 z2s (Nat.ne_of_lt z14) (Nat.ne_of_lt z15) (Nat.ne_of_lt z16) (Nat.ne_of_lt z17) (Nat.ne_of_lt z18) (Nat.ne_of_lt z19) (Nat.ne_of_lt zp) (Nat.ne_of_lt z6) (Nat.ne_of_lt (Nat.lt_trans z6 z4)) (Nat.ne_of_lt (Nat.lt_trans (Nat.lt_trans z6 z4) z2)) (Nat.ne_of_lt (Nat.lt_trans (Nat.lt_trans (Nat.lt_trans z6 z4) z2) z1)) (Nat.ne_of_lt (Nat.lt_trans (Nat.lt_trans (Nat.lt_trans (Nat.lt_trans z6 z4) z2) z1) z3)) (Nat.ne_of_lt (Nat.lt_trans (Nat.lt_trans (Nat.lt_trans (Nat.lt_trans (Nat.lt_trans z6 z4) z2) z1) z3) z5)) (Nat.ne_of_lt z4) (Nat.ne_of_lt (Nat.lt_trans z4 z2)) (Nat.ne_of_lt (Nat.lt_trans (Nat.lt_trans z4 z2) z1)) (Nat.ne_of_lt (Nat.lt_trans (Nat.lt_trans (Nat.lt_trans z4 z2) z1) z3)) (Nat.ne_of_lt (Nat.lt_trans (Nat.lt_trans (Nat.lt_trans (Nat.lt_trans z4 z2) z1) z3) z5)) (Nat.ne_of_lt z2) (Nat.ne_of_lt (Nat.lt_trans z2 z1)) (Nat.ne_of_lt (Nat.lt_trans (Nat.lt_trans z2 z1) z3)) (Nat.ne_of_lt (Nat.lt_trans (Nat.lt_trans (Nat.lt_trans z2 z1) z3) z5)) (Nat.ne_of_lt z1) (Nat.ne_of_lt (Nat.lt_trans z1 z3)) (Nat.ne_of_lt (Nat.lt_trans (Nat.lt_trans z1 z3) z5)) (Nat.ne_of_lt z3) (Nat.ne_of_lt (Nat.lt_trans z3 z5)) (Nat.ne_of_lt z5) z9 zb zc zd zy zz ze zo) hZ (own_W hw 47 rfl) (own_W hw 2 rfl) (by decide) (by decide)) zca zcb (g := (mkF m 48 #[.val (.int p1), .val (.int p2), .val (.int p3), .val (.int p4), .val (.int p5), .val (.int p6), .val (.ref z0), .val (.int 1), .val (.int 3), .val (.int (own_f_rmMin (((p1.toUInt32 >>> ((2 : Int32) &&& 31).toUInt32).toInt32) &&& (3 : Int32)) (3 : Int32)))] [.null, (.int p6), (.int p5), (.double (Jvm.FP.l2d (p2.toInt64))), (.ref z0)])) rfl (by rw [hml]; rfl) (Steps.refl _) (argsL := [(.double (Jvm.FP.l2d (p2.toInt64))), (.int p5), (.int p6), .null]) (rest := []) (lenOf own_pd7 rfl) rfl (by show 2 * 0 + _ ≤ _; exact Nat.le_of_eq rfl) (hb hby at_48) (fun _ _ => ⟨rfl, z75, (by decide : 8 + 0 ≤ _), (by decide : 121 + 0 ≤ _)⟩)
    dsimp only [Pt.U, Pt.locs, Pt.cells, Pt.slots] at z1y l874 y874 z874 z77 z76
    replace z1y := own_sub z1y l874 y874 z874
    obtain ⟨rfl, zcc, z3p, fB874⟩ := z76
    have zcd := Fr.app zc2 zcc
    have z78 := z1s.keep z3p (allS zy (allS zz (allS ze (allS z9 (allS zd (allS zc (allS zb all0)))))))
    have zce := z4h.trans z3p (allS (Or.inr z2t) (allS (Or.inr z2u) (allS (Or.inr z1d) (allS (Or.inr z12) (allS (Or.inr z1c) (allS (Or.inr z1b) (allS (Or.inr z1a) all0)))))))
    obtain ⟨_, _, ⟨z4v, L875, zg0, n875⟩, -, z3q, ⟨Lc875, z79, l875, y875, z875⟩, z7a⟩ := Jvm.LawKit.callS z1y hx (y := own_m8) hown (mvT hZ (own_W hw 59 rfl)) (mvT hZ (own_W hw 60 rfl)) (mvT hZ (own_W hw 61 rfl)) (mvT hZ (own_W hw 62 rfl)) (by decide) (backOf (W := 5) (rmV l Z a0 hw [] z3o.heap n0 A K p4 EN z78) hZ (own_W hw 62 rfl) (own_W hw 61 rfl) (by decide) (by decide)) (g := (mkF m 66 #[.val (.int p1), .val (.int p2), .val (.int p3), .val (.int p4), .val (.int p5), .val (.int p6), .val (.ref z0), .val (.int 1), .val (.int 3), .val (.int (own_f_rmMin (((p1.toUInt32 >>> ((2 : Int32) &&& 31).toUInt32).toInt32) &&& (3 : Int32)) (3 : Int32)))] [(.int p4), (.int p5), (.int p6), (.double (Jvm.FP.l2d (p3.toInt64))), (.ref z0)])) rfl (by rw [hml]; rfl) (argsL := [(.int p4)]) (rest := [(.int p5), (.int p6), (.double (Jvm.FP.l2d (p3.toInt64))), (.ref z0)]) (lenOf own_pd8 rfl) rfl (by show 2 * 0 + _ ≤ _; exact Nat.le_of_eq rfl) (hb hby at_66) (fun _ _ => ⟨rfl, rfl, (by decide : 8 + 1 ≤ _), (by decide : 121 + 1 ≤ _)⟩)
    dsimp only [Pt.U, Pt.locs, Pt.cells, Pt.slots] at z3q l875 y875 z875 z7a z79
    replace z3q := own_sub z3q l875 y875 z875
    obtain ⟨r875, rfl, zcf, z35, er875, fr875⟩ := z79
    have zcg := Fr.app zcd zcf
    have z7b := z78.keep z35 all0
    have zch := zce.trans z35 all0
    have z7c := ((z21.keep z3p).keep z35)
    have zci : own_QB Z z4v.heap (1 : Int32) z0 zi zj zk zl zm zn zg zq zr zs zt zu zv := (fB874.keep z35 nin0)
    have z7d := ((z2s.keep z3p (ninS (Ne.symm (Nat.ne_of_lt (Nat.lt_trans (Nat.lt_trans z1 z3) z5))) (ninS (Ne.symm (Nat.ne_of_lt (Nat.lt_trans z3 z5))) (ninS (Ne.symm (Nat.ne_of_lt z5)) (ninS (Ne.symm (Nat.ne_of_lt zp)) (ninS (Ne.symm (Nat.ne_of_lt (Nat.lt_trans (Nat.lt_trans (Nat.lt_trans z2 z1) z3) z5))) (ninS (Ne.symm (Nat.ne_of_lt (Nat.lt_trans (Nat.lt_trans (Nat.lt_trans (Nat.lt_trans z4 z2) z1) z3) z5))) (ninS (Ne.symm (Nat.ne_of_lt (Nat.lt_trans (Nat.lt_trans (Nat.lt_trans (Nat.lt_trans (Nat.lt_trans z6 z4) z2) z1) z3) z5))) nin0)))))))).keep z35 nin0)
    obtain ⟨cq879, kq879, zcj, zg1, zck⟩ := isOf hZ rfl z7c
    obtain ⟨_, _, ⟨z3r, L879, zg2, n879⟩, -, z1z, ⟨Lc879, z7e, l879, y879, z879⟩, z7f⟩ := z3q.virtualBack hx (y := own_m3) (z := own_m3) hown (mvT hZ (own_W hw 43 rfl)) (mvT hZ (own_W hw 44 rfl)) (notFace_of_selects (args := #[]) (mvT hZ (own_W hw 46 rfl))) (mvT hZ (own_W hw 46 rfl)) (mvT hZ (own_W hw 45 rfl)) (by decide) (backOf (W := 0) (wA1 l Z a0 hw [] z4v.heap n0 A K z0 zi zj zk zl zm zn zg r875 zq zr zs zt zu zv zx p3 p6 p5 EN z7b zci z7d er875 (Nat.ne_of_lt z14) (Nat.ne_of_lt z15) (Nat.ne_of_lt z16) (Nat.ne_of_lt z17) (Nat.ne_of_lt z18) (Nat.ne_of_lt z19) (Nat.ne_of_lt zp) (Nat.ne_of_lt z6) (Nat.ne_of_lt (Nat.lt_trans z6 z4)) (Nat.ne_of_lt (Nat.lt_trans (Nat.lt_trans z6 z4) z2)) (Nat.ne_of_lt (Nat.lt_trans (Nat.lt_trans (Nat.lt_trans z6 z4) z2) z1)) (Nat.ne_of_lt (Nat.lt_trans (Nat.lt_trans (Nat.lt_trans (Nat.lt_trans z6 z4) z2) z1) z3)) (Nat.ne_of_lt (Nat.lt_trans (Nat.lt_trans (Nat.lt_trans (Nat.lt_trans (Nat.lt_trans z6 z4) z2) z1) z3) z5)) (Nat.ne_of_lt z4) (Nat.ne_of_lt (Nat.lt_trans z4 z2)) (Nat.ne_of_lt (Nat.lt_trans (Nat.lt_trans z4 z2) z1)) (Nat.ne_of_lt (Nat.lt_trans (Nat.lt_trans (Nat.lt_trans z4 z2) z1) z3)) (Nat.ne_of_lt (Nat.lt_trans (Nat.lt_trans (Nat.lt_trans (Nat.lt_trans z4 z2) z1) z3) z5)) (Nat.ne_of_lt z2) (Nat.ne_of_lt (Nat.lt_trans z2 z1)) (Nat.ne_of_lt (Nat.lt_trans (Nat.lt_trans z2 z1) z3)) (Nat.ne_of_lt (Nat.lt_trans (Nat.lt_trans (Nat.lt_trans z2 z1) z3) z5)) (Nat.ne_of_lt z1) (Nat.ne_of_lt (Nat.lt_trans z1 z3)) (Nat.ne_of_lt (Nat.lt_trans (Nat.lt_trans z1 z3) z5)) (Nat.ne_of_lt z3) (Nat.ne_of_lt (Nat.lt_trans z3 z5)) (Nat.ne_of_lt z5) z9 zb zc zd zy zz ze zo) hZ (own_W hw 47 rfl) (own_W hw 2 rfl) (by decide) (by decide)) zcj zck (g := (mkF m 69 #[.val (.int p1), .val (.int p2), .val (.int p3), .val (.int p4), .val (.int p5), .val (.int p6), .val (.ref z0), .val (.int 1), .val (.int 3), .val (.int (own_f_rmMin (((p1.toUInt32 >>> ((2 : Int32) &&& 31).toUInt32).toInt32) &&& (3 : Int32)) (3 : Int32)))] [(.ref r875), (.int p5), (.int p6), (.double (Jvm.FP.l2d (p3.toInt64))), (.ref z0)])) rfl (by rw [hml]; rfl) (Steps.refl _) (argsL := [(.double (Jvm.FP.l2d (p3.toInt64))), (.int p6), (.int p5), (.ref r875)]) (rest := []) (lenOf own_pd7 rfl) rfl (by show 2 * 0 + _ ≤ _; exact Nat.le_of_eq rfl) (hb hby at_69) (fun _ _ => ⟨rfl, rfl, (by decide : 9 + 0 ≤ _), (by decide : 122 + 0 ≤ _)⟩)
    dsimp only [Pt.U, Pt.locs, Pt.cells, Pt.slots] at z1z l879 y879 z879 z7f z7e
    replace z1z := own_sub z1z l879 y879 z879
    obtain ⟨rfl, zcl, z3s, fB879⟩ := z7e
    have zcm := Fr.app zcg zcl
    have z7g := z7b.keep z3s (allS zy (allS zz (allS ze (allS z9 (allS zb (allS zc (allS zd all0)))))))
    have zcn := zch.trans z3s (allS (Or.inr z2t) (allS (Or.inr z2u) (allS (Or.inr z1d) (allS (Or.inr z12) (allS (Or.inr z1a) (allS (Or.inr z1b) (allS (Or.inr z1c) all0)))))))
    have z7h := (z7c.keep z3s)
    have z3t := (z7d.keep z3s (ninS (Ne.symm (Nat.ne_of_lt (Nat.lt_trans (Nat.lt_trans z1 z3) z5))) (ninS (Ne.symm (Nat.ne_of_lt (Nat.lt_trans z3 z5))) (ninS (Ne.symm (Nat.ne_of_lt z5)) (ninS (Ne.symm (Nat.ne_of_lt zp)) (ninS (Ne.symm (Nat.ne_of_lt (Nat.lt_trans (Nat.lt_trans (Nat.lt_trans (Nat.lt_trans (Nat.lt_trans z6 z4) z2) z1) z3) z5))) (ninS (Ne.symm (Nat.ne_of_lt (Nat.lt_trans (Nat.lt_trans (Nat.lt_trans (Nat.lt_trans z4 z2) z1) z3) z5))) (ninS (Ne.symm (Nat.ne_of_lt (Nat.lt_trans (Nat.lt_trans (Nat.lt_trans z2 z1) z3) z5))) nin0))))))))
    obtain ⟨cq882, kq882, zco, zg3, zcp⟩ := isOf hZ rfl z7h
    obtain ⟨_, _, ⟨z28, L882, zg4, n882⟩, -, z2o, ⟨Lc882, z7i, l882, y882, z882⟩, z7j⟩ := z1z.virtualBack hx (y := own_m3) (z := own_m3) hown (mvT hZ (own_W hw 43 rfl)) (mvT hZ (own_W hw 44 rfl)) (notFace_of_selects (args := #[]) (mvT hZ (own_W hw 46 rfl))) (mvT hZ (own_W hw 46 rfl)) (mvT hZ (own_W hw 45 rfl)) (by decide) (backOf (W := 0) (wA2 l Z a0 hw [] z3r.heap n0 A K z0 zi zj zk zl zm zn zg zq zr zs zt zu zv zx p4 p5 p6 EN z7g fB879 z3t (Nat.ne_of_lt z14) (Nat.ne_of_lt z15) (Nat.ne_of_lt z16) (Nat.ne_of_lt z17) (Nat.ne_of_lt z18) (Nat.ne_of_lt z19) (Nat.ne_of_lt zp) (Nat.ne_of_lt z6) (Nat.ne_of_lt (Nat.lt_trans z6 z4)) (Nat.ne_of_lt (Nat.lt_trans (Nat.lt_trans z6 z4) z2)) (Nat.ne_of_lt (Nat.lt_trans (Nat.lt_trans (Nat.lt_trans z6 z4) z2) z1)) (Nat.ne_of_lt (Nat.lt_trans (Nat.lt_trans (Nat.lt_trans (Nat.lt_trans z6 z4) z2) z1) z3)) (Nat.ne_of_lt (Nat.lt_trans (Nat.lt_trans (Nat.lt_trans (Nat.lt_trans (Nat.lt_trans z6 z4) z2) z1) z3) z5)) (Nat.ne_of_lt z4) (Nat.ne_of_lt (Nat.lt_trans z4 z2)) (Nat.ne_of_lt (Nat.lt_trans (Nat.lt_trans z4 z2) z1)) (Nat.ne_of_lt (Nat.lt_trans (Nat.lt_trans (Nat.lt_trans z4 z2) z1) z3)) (Nat.ne_of_lt (Nat.lt_trans (Nat.lt_trans (Nat.lt_trans (Nat.lt_trans z4 z2) z1) z3) z5)) (Nat.ne_of_lt z2) (Nat.ne_of_lt (Nat.lt_trans z2 z1)) (Nat.ne_of_lt (Nat.lt_trans (Nat.lt_trans z2 z1) z3)) (Nat.ne_of_lt (Nat.lt_trans (Nat.lt_trans (Nat.lt_trans z2 z1) z3) z5)) (Nat.ne_of_lt z1) (Nat.ne_of_lt (Nat.lt_trans z1 z3)) (Nat.ne_of_lt (Nat.lt_trans (Nat.lt_trans z1 z3) z5)) (Nat.ne_of_lt z3) (Nat.ne_of_lt (Nat.lt_trans z3 z5)) (Nat.ne_of_lt z5) z9 zb zc zd zy zz ze zo) hZ (own_W hw 47 rfl) (own_W hw 2 rfl) (by decide) (by decide)) zco zcp (g := (mkF m 87 #[.val (.int p1), .val (.int p2), .val (.int p3), .val (.int p4), .val (.int p5), .val (.int p6), .val (.ref z0), .val (.int 1), .val (.int 3), .val (.int (own_f_rmMin (((p1.toUInt32 >>> ((2 : Int32) &&& 31).toUInt32).toInt32) &&& (3 : Int32)) (3 : Int32)))] [.null, (.int p6), (.int p5), (.double (Jvm.FP.l2d (p4.toInt64))), (.ref z0)])) rfl (by rw [hml]; rfl) (Steps.refl _) (argsL := [(.double (Jvm.FP.l2d (p4.toInt64))), (.int p5), (.int p6), .null]) (rest := []) (lenOf own_pd7 rfl) rfl (by show 2 * 0 + _ ≤ _; exact Nat.le_of_eq rfl) (hb hby at_87) (fun _ _ => ⟨rfl, rfl, (by decide : 9 + 0 ≤ _), (by decide : 122 + 0 ≤ _)⟩)
    dsimp only [Pt.U, Pt.locs, Pt.cells, Pt.slots] at z2o l882 y882 z882 z7j z7i
    replace z2o := own_sub z2o l882 y882 z882
    obtain ⟨rfl, zcq, z2y, fB882⟩ := z7i
    have zcr := Fr.app zcm zcq
    have z2h := z7g.keep z2y (allS zy (allS zz (allS ze (allS z9 (allS zb (allS zc (allS zd all0)))))))
    have z4w := zcn.trans z2y (allS (Or.inr z2t) (allS (Or.inr z2u) (allS (Or.inr z1d) (allS (Or.inr z12) (allS (Or.inr z1a) (allS (Or.inr z1b) (allS (Or.inr z1c) all0)))))))
    have z2i := (z7h.keep z2y)
    have zcs := own_QB.size fB882
    obtain ⟨cq886, kq886, zct, zg5, zcu⟩ := isOf hZ rfl z2i
    obtain ⟨_, _, ⟨z10, L886, zg6, n886⟩, -, z8, ⟨Lc886, z7k, l886, y886, z886⟩, z7l⟩ := z2o.virtualBack hx (y := own_m0) (z := own_m0) hown (mvT hZ (own_W hw 32 rfl)) (mvT hZ (own_W hw 33 rfl)) (notFace_of_selects (args := #[]) (mvT hZ (own_W hw 35 rfl))) (mvT hZ (own_W hw 35 rfl)) (mvT hZ (own_W hw 34 rfl)) (by decide) (backOf (W := 0) (rmL8 l Z a0 hw [] z28.heap n0 p1 p2 p3 p4 p5 p6 A K z0 EN z2h zcs) hZ (own_W hw 36 rfl) (own_W hw 2 rfl) (by decide) (by decide)) zct zcu (g := (mkF m 97 #[.val (.int p1), .val (.int p2), .val (.int p3), .val (.int p4), .val (.int p5), .val (.int p6), .val (.ref z0), .val (.int 1), .val (.int 3), .val (.int (own_f_rmMin (((p1.toUInt32 >>> ((2 : Int32) &&& 31).toUInt32).toInt32) &&& (3 : Int32)) (3 : Int32)))] [(.ref z0)])) rfl (by rw [hml]; rfl) (Steps.refl _) (argsL := []) (rest := []) (lenOf own_pd6 rfl) rfl (by show 2 * 0 + _ ≤ _; exact Nat.le_of_eq rfl) (hb hby at_97) (fun _ _ => ⟨rfl, rfl, (by decide : 9 + 0 ≤ _), (by decide : 122 + 0 ≤ _)⟩)
    dsimp only [Pt.U, Pt.locs, Pt.cells, Pt.slots] at z8 l886 y886 z886 z7l z7k
    replace z8 := own_sub z8 l886 y886 z886
    obtain ⟨rfl, zcv, z2j⟩ := z7k
    have z3u := Fr.app zcr zcv
    have z3v : ∀ t, Steps p.tables e below (z10.setTop (mkF m 122 #[.val (.int p1), .val (.int p2), .val (.int p3), .val (.int p4), .val (.int p5), .val (.int p6), .val (.ref z0), .val (.int 1), .val (.int 3), .val (.int (own_f_rmMin (((p1.toUInt32 >>> ((2 : Int32) &&& 31).toUInt32).toInt32) &&& (3 : Int32)) (3 : Int32)))] [(.int (own_f_rmMin (((p1.toUInt32 >>> ((2 : Int32) &&& 31).toUInt32).toInt32) &&& (3 : Int32)) (3 : Int32)))])) t → Steps p.tables e below (s₁.setTop (entryFrame m #[(.int p1), (.int p2), (.int p3), (.int p4), (.int p5), (.int p6)] maxLocals)) t := fun t k => z39 t (by
      show Steps p.tables e below (z11.setTop (mkF m 19 #[.val (.int p1), .val (.int p2), .val (.int p3), .val (.int p4), .val (.int p5), .val (.int p6), .val (.ref z0), .val (.int 1), .unset, .unset] [(.int (p1 &&& (3 : Int32)))])) _
      rw [z2b]
      show Steps p.tables e below (z11.setTop (mkF m 19 #[.val (.int p1), .val (.int p2), .val (.int p3), .val (.int p4), .val (.int p5), .val (.int p6), .val (.ref z0), .val (.int 1), .unset, .unset] [(.int 3)])) _
      refine XS.istore z7.here hx rfl (hb hby at_19) rfl (l' := #[.val (.int p1), .val (.int p2), .val (.int p3), .val (.int p4), .val (.int p5), .val (.int p6), .val (.ref z0), .val (.int 1), .val (.int 3), .unset]) rfl ?_
      refine XS.iloadN z7.here hx rfl (hb hby at_21) rfl ?_
      refine XS.iconst z7.here hx rfl (hb hby at_22) ?_
      refine XS.iushr z7.here hx rfl (hb hby at_23) rfl ?_
      show Steps p.tables e below (z11.setTop (mkF m 24 #[.val (.int p1), .val (.int p2), .val (.int p3), .val (.int p4), .val (.int p5), .val (.int p6), .val (.ref z0), .val (.int 1), .val (.int 3), .unset] [(.int ((p1.toUInt32 >>> ((2 : Int32) &&& 31).toUInt32).toInt32))])) _
      refine XS.iconst z7.here hx rfl (hb hby at_24) ?_
      refine XS.iand z7.here hx rfl (hb hby at_25) rfl ?_
      show Steps p.tables e below (z11.setTop (mkF m 26 #[.val (.int p1), .val (.int p2), .val (.int p3), .val (.int p4), .val (.int p5), .val (.int p6), .val (.ref z0), .val (.int 1), .val (.int 3), .unset] [(.int (((p1.toUInt32 >>> ((2 : Int32) &&& 31).toUInt32).toInt32) &&& (3 : Int32)))])) _
      refine XS.iload z7.here hx rfl (hb hby at_26) rfl ?_
      refine z74 _ ?_
      show Steps p.tables e below (z4u.setTop (mkF m 31 #[.val (.int p1), .val (.int p2), .val (.int p3), .val (.int p4), .val (.int p5), .val (.int p6), .val (.ref z0), .val (.int 1), .val (.int 3), .unset] [(.int (own_f_rmMin (((p1.toUInt32 >>> ((2 : Int32) &&& 31).toUInt32).toInt32) &&& (3 : Int32)) (3 : Int32)))])) _
      refine XS.istore z1o.here hx rfl (hb hby at_31) rfl (l' := #[.val (.int p1), .val (.int p2), .val (.int p3), .val (.int p4), .val (.int p5), .val (.int p6), .val (.ref z0), .val (.int 1), .val (.int 3), .val (.int (own_f_rmMin (((p1.toUInt32 >>> ((2 : Int32) &&& 31).toUInt32).toInt32) &&& (3 : Int32)) (3 : Int32)))]) rfl ?_
      refine XS.iload z1o.here hx rfl (hb hby at_33) rfl ?_
      refine XS.iconst z1o.here hx rfl (hb hby at_35) ?_
      refine XS.icmpNo z1o.here hx rfl (hb hby at_36) rfl (flt (by decide : ¬ ((3 : Int32) < (1 : Int32)))).1 ?_
      show Steps p.tables e below (z4u.setTop (mkF m 39 #[.val (.int p1), .val (.int p2), .val (.int p3), .val (.int p4), .val (.int p5), .val (.int p6), .val (.ref z0), .val (.int 1), .val (.int 3), .val (.int (own_f_rmMin (((p1.toUInt32 >>> ((2 : Int32) &&& 31).toUInt32).toInt32) &&& (3 : Int32)) (3 : Int32)))] [])) _
      refine XS.aload z1o.here hx rfl (hb hby at_39) rfl rfl ?_
      refine XS.iloadN z1o.here hx rfl (hb hby at_41) rfl ?_
      refine XS.i2dS z1o.here hx rfl (hb hby at_42) rfl (i2d_w _) ?_
      show Steps p.tables e below (z4u.setTop (mkF m 43 #[.val (.int p1), .val (.int p2), .val (.int p3), .val (.int p4), .val (.int p5), .val (.int p6), .val (.ref z0), .val (.int 1), .val (.int 3), .val (.int (own_f_rmMin (((p1.toUInt32 >>> ((2 : Int32) &&& 31).toUInt32).toInt32) &&& (3 : Int32)) (3 : Int32)))] [(.double (Jvm.FP.l2d (p2.toInt64))), (.ref z0)])) _
      refine XS.iload z1o.here hx rfl (hb hby at_43) rfl ?_
      refine XS.iload z1o.here hx rfl (hb hby at_45) rfl ?_
      refine XS.aconstNull z1o.here hx rfl (hb hby at_47) ?_
      refine z77.trans ?_
      show Steps p.tables e below (z3o.setTop (mkF m 51 #[.val (.int p1), .val (.int p2), .val (.int p3), .val (.int p4), .val (.int p5), .val (.int p6), .val (.ref z0), .val (.int 1), .val (.int 3), .val (.int (own_f_rmMin (((p1.toUInt32 >>> ((2 : Int32) &&& 31).toUInt32).toInt32) &&& (3 : Int32)) (3 : Int32)))] [])) _
      refine XS.iload z1y.here hx rfl (hb hby at_51) rfl ?_
      refine XS.iconst z1y.here hx rfl (hb hby at_53) ?_
      refine XS.icmpNo z1y.here hx rfl (hb hby at_54) rfl (flt (by decide : ¬ ((3 : Int32) < (2 : Int32)))).1 ?_
      show Steps p.tables e below (z3o.setTop (mkF m 57 #[.val (.int p1), .val (.int p2), .val (.int p3), .val (.int p4), .val (.int p5), .val (.int p6), .val (.ref z0), .val (.int 1), .val (.int 3), .val (.int (own_f_rmMin (((p1.toUInt32 >>> ((2 : Int32) &&& 31).toUInt32).toInt32) &&& (3 : Int32)) (3 : Int32)))] [])) _
      refine XS.aload z1y.here hx rfl (hb hby at_57) rfl rfl ?_
      refine XS.iloadN z1y.here hx rfl (hb hby at_59) rfl ?_
      refine XS.i2dS z1y.here hx rfl (hb hby at_60) rfl (i2d_w _) ?_
      show Steps p.tables e below (z3o.setTop (mkF m 61 #[.val (.int p1), .val (.int p2), .val (.int p3), .val (.int p4), .val (.int p5), .val (.int p6), .val (.ref z0), .val (.int 1), .val (.int 3), .val (.int (own_f_rmMin (((p1.toUInt32 >>> ((2 : Int32) &&& 31).toUInt32).toInt32) &&& (3 : Int32)) (3 : Int32)))] [(.double (Jvm.FP.l2d (p3.toInt64))), (.ref z0)])) _
      refine XS.iload z1y.here hx rfl (hb hby at_61) rfl ?_
      refine XS.iload z1y.here hx rfl (hb hby at_63) rfl ?_
      refine XS.iloadN z1y.here hx rfl (hb hby at_65) rfl ?_
      refine z7a _ ?_
      show Steps p.tables e below (z4v.setTop (mkF m 69 #[.val (.int p1), .val (.int p2), .val (.int p3), .val (.int p4), .val (.int p5), .val (.int p6), .val (.ref z0), .val (.int 1), .val (.int 3), .val (.int (own_f_rmMin (((p1.toUInt32 >>> ((2 : Int32) &&& 31).toUInt32).toInt32) &&& (3 : Int32)) (3 : Int32)))] [(.ref r875), (.int p5), (.int p6), (.double (Jvm.FP.l2d (p3.toInt64))), (.ref z0)])) _
      refine z7f.trans ?_
      show Steps p.tables e below (z3r.setTop (mkF m 72 #[.val (.int p1), .val (.int p2), .val (.int p3), .val (.int p4), .val (.int p5), .val (.int p6), .val (.ref z0), .val (.int 1), .val (.int 3), .val (.int (own_f_rmMin (((p1.toUInt32 >>> ((2 : Int32) &&& 31).toUInt32).toInt32) &&& (3 : Int32)) (3 : Int32)))] [])) _
      refine XS.iload z1z.here hx rfl (hb hby at_72) rfl ?_
      refine XS.iconst z1z.here hx rfl (hb hby at_74) ?_
      refine XS.icmpNo z1z.here hx rfl (hb hby at_75) rfl (flt (by decide : ¬ ((3 : Int32) < (3 : Int32)))).1 ?_
      show Steps p.tables e below (z3r.setTop (mkF m 78 #[.val (.int p1), .val (.int p2), .val (.int p3), .val (.int p4), .val (.int p5), .val (.int p6), .val (.ref z0), .val (.int 1), .val (.int 3), .val (.int (own_f_rmMin (((p1.toUInt32 >>> ((2 : Int32) &&& 31).toUInt32).toInt32) &&& (3 : Int32)) (3 : Int32)))] [])) _
      refine XS.aload z1z.here hx rfl (hb hby at_78) rfl rfl ?_
      refine XS.iloadN z1z.here hx rfl (hb hby at_80) rfl ?_
      refine XS.i2dS z1z.here hx rfl (hb hby at_81) rfl (i2d_w _) ?_
      show Steps p.tables e below (z3r.setTop (mkF m 82 #[.val (.int p1), .val (.int p2), .val (.int p3), .val (.int p4), .val (.int p5), .val (.int p6), .val (.ref z0), .val (.int 1), .val (.int 3), .val (.int (own_f_rmMin (((p1.toUInt32 >>> ((2 : Int32) &&& 31).toUInt32).toInt32) &&& (3 : Int32)) (3 : Int32)))] [(.double (Jvm.FP.l2d (p4.toInt64))), (.ref z0)])) _
      refine XS.iload z1z.here hx rfl (hb hby at_82) rfl ?_
      refine XS.iload z1z.here hx rfl (hb hby at_84) rfl ?_
      refine XS.aconstNull z1z.here hx rfl (hb hby at_86) ?_
      refine z7j.trans ?_
      show Steps p.tables e below (z28.setTop (mkF m 90 #[.val (.int p1), .val (.int p2), .val (.int p3), .val (.int p4), .val (.int p5), .val (.int p6), .val (.ref z0), .val (.int 1), .val (.int 3), .val (.int (own_f_rmMin (((p1.toUInt32 >>> ((2 : Int32) &&& 31).toUInt32).toInt32) &&& (3 : Int32)) (3 : Int32)))] [])) _
      refine XS.iload z2o.here hx rfl (hb hby at_90) rfl ?_
      refine XS.ifNo z2o.here hx rfl (hb hby at_92) rfl ((if0 _ _).trans (feq (by decide : ¬ ((1 : Int32) = (0 : Int32)))).1) ?_
      show Steps p.tables e below (z28.setTop (mkF m 95 #[.val (.int p1), .val (.int p2), .val (.int p3), .val (.int p4), .val (.int p5), .val (.int p6), .val (.ref z0), .val (.int 1), .val (.int 3), .val (.int (own_f_rmMin (((p1.toUInt32 >>> ((2 : Int32) &&& 31).toUInt32).toInt32) &&& (3 : Int32)) (3 : Int32)))] [])) _
      refine XS.aload z2o.here hx rfl (hb hby at_95) rfl rfl ?_
      refine z7l.trans ?_
      show Steps p.tables e below (z10.setTop (mkF m 100 #[.val (.int p1), .val (.int p2), .val (.int p3), .val (.int p4), .val (.int p5), .val (.int p6), .val (.ref z0), .val (.int 1), .val (.int 3), .val (.int (own_f_rmMin (((p1.toUInt32 >>> ((2 : Int32) &&& 31).toUInt32).toInt32) &&& (3 : Int32)) (3 : Int32)))] [(.int 0)])) _
      refine XS.iload z8.here hx rfl (hb hby at_100) rfl ?_
      refine XS.ifYes z8.here hx rfl (pc0 := 102) (pc' := 109) rfl (hb hby at_102) rfl ((if0 _ _).trans (feq (by decide : ¬ ((3 : Int32) = (0 : Int32)))).2) (by decide) (by decide) ?_
      show Steps p.tables e below (z10.setTop (mkF m 109 #[.val (.int p1), .val (.int p2), .val (.int p3), .val (.int p4), .val (.int p5), .val (.int p6), .val (.ref z0), .val (.int 1), .val (.int 3), .val (.int (own_f_rmMin (((p1.toUInt32 >>> ((2 : Int32) &&& 31).toUInt32).toInt32) &&& (3 : Int32)) (3 : Int32)))] [(.int 0)])) _
      refine XS.iconst z8.here hx rfl (hb hby at_109) ?_
      refine XS.icmpNo z8.here hx rfl (hb hby at_110) rfl (teq (by decide : (0 : Int32) = (0 : Int32))).2 ?_
      show Steps p.tables e below (z10.setTop (mkF m 113 #[.val (.int p1), .val (.int p2), .val (.int p3), .val (.int p4), .val (.int p5), .val (.int p6), .val (.ref z0), .val (.int 1), .val (.int 3), .val (.int (own_f_rmMin (((p1.toUInt32 >>> ((2 : Int32) &&& 31).toUInt32).toInt32) &&& (3 : Int32)) (3 : Int32)))] [])) _
      refine XS.iconst z8.here hx rfl (hb hby at_113) ?_
      refine XS.goto z8.here hx rfl (pc0 := 114) (pc' := 118) rfl (hb hby at_114) (by decide) (by decide) ?_
      refine XS.istore z8.here hx rfl (hb hby at_118) rfl (l' := #[.val (.int p1), .val (.int p2), .val (.int p3), .val (.int p4), .val (.int p5), .val (.int p6), .val (.ref z0), .val (.int 1), .val (.int 3), .val (.int (own_f_rmMin (((p1.toUInt32 >>> ((2 : Int32) &&& 31).toUInt32).toInt32) &&& (3 : Int32)) (3 : Int32)))]) rfl ?_
      refine XS.iload z8.here hx rfl (hb hby at_120) rfl ?_
      exact k)
    obtain ⟨zcw, zcx, z2d⟩ := own_r3 _ (own_k ((p1.toUInt32 >>> ((2 : Int32) &&& 31).toUInt32).toInt32))
    match zcw, zcx, z2d with
    | 0, _, z2d =>
      have zcy := own_QB.size fB882
      obtain ⟨cq890, kq890, zcz, zg7, zd0⟩ := isOf hZ z2j z2i
      obtain ⟨_, _, ⟨z3w, L890, zg8, n890⟩, -, z1p, ⟨Lc890, z7m, l890, y890, z890⟩, z7n⟩ := z8.virtualBack hx (y := own_m0) (z := own_m0) hown (mvT hZ (own_W hw 32 rfl)) (mvT hZ (own_W hw 33 rfl)) (notFace_of_selects (args := #[]) (mvT hZ (own_W hw 35 rfl))) (mvT hZ (own_W hw 35 rfl)) (mvT hZ (own_W hw 34 rfl)) (by decide) (backOf (W := 0) (rmL8 l Z a0 hw [] z28.heap n0 p1 p2 p3 p4 p5 p6 A K z0 EN z2h zcy) hZ (own_W hw 36 rfl) (own_W hw 2 rfl) (by decide) (by decide)) zcz zd0 (g := (mkF m 160 #[.val (.int p1), .val (.int p2), .val (.int p3), .val (.int p4), .val (.int p5), .val (.int p6), .val (.ref z0), .val (.int 1), .val (.int 3), .val (.int 0)] [(.ref z0)])) rfl (by rw [hml]; rfl) (Steps.refl _) (argsL := []) (rest := []) (lenOf own_pd6 rfl) rfl (by show 2 * 0 + _ ≤ _; exact Nat.le_of_eq rfl) (hb hby at_160) (fun _ _ => ⟨rfl, z2j, (by decide : 9 + 0 ≤ _), (by decide : 122 + 0 ≤ _)⟩)
      dsimp only [Pt.U, Pt.locs, Pt.cells, Pt.slots] at z1p l890 y890 z890 z7n z7m
      replace z1p := own_sub z1p l890 y890 z890
      obtain ⟨rfl, zd1, zg9⟩ := z7m
      have zd2 := Fr.app z3u zd1
      obtain ⟨fs, hr, hrun, hended, hW, hsame⟩ := z1p.leave (v := some (.int 1)) (fun h => by rw [Bd.returns] at h; cases h)
      refine ⟨_, _, z3v _ ?_, hrun, hended, _, _, rfl, ?_, ⟨_, rfl⟩, hW, hsame.mono (by decide) (by decide)⟩
      · show Steps p.tables e below (z10.setTop (mkF m 122 #[.val (.int p1), .val (.int p2), .val (.int p3), .val (.int p4), .val (.int p5), .val (.int p6), .val (.ref z0), .val (.int 1), .val (.int 3), .val (.int (own_f_rmMin (((p1.toUInt32 >>> ((2 : Int32) &&& 31).toUInt32).toInt32) &&& (3 : Int32)) (3 : Int32)))] [(.int (own_f_rmMin (((p1.toUInt32 >>> ((2 : Int32) &&& 31).toUInt32).toInt32) &&& (3 : Int32)) (3 : Int32)))])) _
        rw [z2d]
        show Steps p.tables e below (z10.setTop (mkF m 122 #[.val (.int p1), .val (.int p2), .val (.int p3), .val (.int p4), .val (.int p5), .val (.int p6), .val (.ref z0), .val (.int 1), .val (.int 3), .val (.int 0)] [(.int 0)])) _
        refine XS.iconst z8.here hx rfl (hb hby at_122) ?_
        refine XS.icmpYes z8.here hx rfl (pc0 := 123) (pc' := 131) rfl (hb hby at_123) rfl (tlt (by decide : (0 : Int32) < (1 : Int32))).1 (by decide) (by decide) ?_
        show Steps p.tables e below (z10.setTop (mkF m 131 #[.val (.int p1), .val (.int p2), .val (.int p3), .val (.int p4), .val (.int p5), .val (.int p6), .val (.ref z0), .val (.int 1), .val (.int 3), .val (.int 0)] [])) _
        refine XS.iload z8.here hx rfl (hb hby at_131) rfl ?_
        refine XS.iconst z8.here hx rfl (hb hby at_133) ?_
        refine XS.icmpYes z8.here hx rfl (pc0 := 134) (pc' := 142) rfl (hb hby at_134) rfl (tlt (by decide : (0 : Int32) < (2 : Int32))).1 (by decide) (by decide) ?_
        show Steps p.tables e below (z10.setTop (mkF m 142 #[.val (.int p1), .val (.int p2), .val (.int p3), .val (.int p4), .val (.int p5), .val (.int p6), .val (.ref z0), .val (.int 1), .val (.int 3), .val (.int 0)] [])) _
        refine XS.iload z8.here hx rfl (hb hby at_142) rfl ?_
        refine XS.iconst z8.here hx rfl (hb hby at_144) ?_
        refine XS.icmpYes z8.here hx rfl (pc0 := 145) (pc' := 153) rfl (hb hby at_145) rfl (tlt (by decide : (0 : Int32) < (3 : Int32))).1 (by decide) (by decide) ?_
        show Steps p.tables e below (z10.setTop (mkF m 153 #[.val (.int p1), .val (.int p2), .val (.int p3), .val (.int p4), .val (.int p5), .val (.int p6), .val (.ref z0), .val (.int 1), .val (.int 3), .val (.int 0)] [])) _
        refine XS.iload z8.here hx rfl (hb hby at_153) rfl ?_
        refine XS.ifNo z8.here hx rfl (hb hby at_155) rfl ((if0 _ _).trans (feq (by decide : ¬ ((1 : Int32) = (0 : Int32)))).1) ?_
        show Steps p.tables e below (z10.setTop (mkF m 158 #[.val (.int p1), .val (.int p2), .val (.int p3), .val (.int p4), .val (.int p5), .val (.int p6), .val (.ref z0), .val (.int 1), .val (.int 3), .val (.int 0)] [])) _
        refine XS.aload z8.here hx rfl (hb hby at_158) rfl rfl ?_
        refine z7n.trans ?_
        show Steps p.tables e below (z3w.setTop (mkF m 163 #[.val (.int p1), .val (.int p2), .val (.int p3), .val (.int p4), .val (.int p5), .val (.int p6), .val (.ref z0), .val (.int 1), .val (.int 3), .val (.int 0)] [(.int 0)])) _
        refine XS.iload z1p.here hx rfl (hb hby at_163) rfl ?_
        refine XS.iload z1p.here hx rfl (hb hby at_165) rfl ?_
        refine XS.icmpYes z1p.here hx rfl (pc0 := 167) (pc' := 174) rfl (hb hby at_167) rfl (feq (by decide : ¬ ((3 : Int32) = (0 : Int32)))).2 (by decide) (by decide) ?_
        show Steps p.tables e below (z3w.setTop (mkF m 174 #[.val (.int p1), .val (.int p2), .val (.int p3), .val (.int p4), .val (.int p5), .val (.int p6), .val (.ref z0), .val (.int 1), .val (.int 3), .val (.int 0)] [(.int 0)])) _
        refine XS.iconst z1p.here hx rfl (hb hby at_174) ?_
        refine XS.icmpNo z1p.here hx rfl (hb hby at_175) rfl (teq (by decide : (0 : Int32) = (0 : Int32))).2 ?_
        show Steps p.tables e below (z3w.setTop (mkF m 178 #[.val (.int p1), .val (.int p2), .val (.int p3), .val (.int p4), .val (.int p5), .val (.int p6), .val (.ref z0), .val (.int 1), .val (.int 3), .val (.int 0)] [])) _
        refine XS.iconst z1p.here hx rfl (hb hby at_178) ?_
        refine XS.goto z1p.here hx rfl (pc0 := 179) (pc' := 183) rfl (hb hby at_179) (by decide) (by decide) ?_
        refine XS.istore z1p.here hx rfl (hb hby at_183) rfl (l' := #[.val (.int p1), .val (.int p2), .val (.int p3), .val (.int p4), .val (.int p5), .val (.int p6), .val (.ref z0), .val (.int 1), .val (.int 3), .val (.int 0)]) rfl ?_
        refine XS.iload z1p.here hx rfl (hb hby at_185) rfl ?_
        exact retN z1p hx (t := .boolean) Bd.returns (by simp) (hb hby at_187) hr
      · show LQ n0 _ z3w.heap _
        exact ⟨rfl, zd2, trivial⟩
    | 1, _, z2d =>
      have zd3 := (z3t.keep z2y (ninS (Ne.symm (Nat.ne_of_lt (Nat.lt_trans (Nat.lt_trans z1 z3) z5))) (ninS (Ne.symm (Nat.ne_of_lt (Nat.lt_trans z3 z5))) (ninS (Ne.symm (Nat.ne_of_lt z5)) (ninS (Ne.symm (Nat.ne_of_lt zp)) (ninS (Ne.symm (Nat.ne_of_lt (Nat.lt_trans (Nat.lt_trans (Nat.lt_trans (Nat.lt_trans (Nat.lt_trans z6 z4) z2) z1) z3) z5))) (ninS (Ne.symm (Nat.ne_of_lt (Nat.lt_trans (Nat.lt_trans (Nat.lt_trans (Nat.lt_trans z4 z2) z1) z3) z5))) (ninS (Ne.symm (Nat.ne_of_lt (Nat.lt_trans (Nat.lt_trans (Nat.lt_trans z2 z1) z3) z5))) nin0))))))))
      have zd4 : own_AM Z z28.heap zg zx .int := ⟨_, _, zd3⟩
      obtain ⟨cq893, kq893, zd5, zga, zd6⟩ := isOf hZ z2j z2i
      obtain ⟨_, _, ⟨z36, L893, zgb, n893⟩, -, z20, ⟨Lc893, z7o, l893, y893, z893⟩, z7p⟩ := z8.virtualBack hx (y := own_m1) (z := own_m1) hown (mvT hZ (own_W hw 54 rfl)) (mvT hZ (own_W hw 55 rfl)) (notFace_of_selects (args := #[]) (mvT hZ (own_W hw 57 rfl))) (mvT hZ (own_W hw 57 rfl)) (mvT hZ (own_W hw 56 rfl)) (by decide) (backOf (W := 0) (wR3 l Z a0 hw [] z28.heap n0 A K z0 zi zj zk zl zm zn zg zq zr zs zt zu zv zx EN z2h fB882 zd4 (Nat.ne_of_lt z14) (Nat.ne_of_lt z15) (Nat.ne_of_lt z16) (Nat.ne_of_lt z17) (Nat.ne_of_lt z18) (Nat.ne_of_lt z19) (Nat.ne_of_lt zp) (Nat.ne_of_lt z6) (Nat.ne_of_lt (Nat.lt_trans z6 z4)) (Nat.ne_of_lt (Nat.lt_trans (Nat.lt_trans z6 z4) z2)) (Nat.ne_of_lt (Nat.lt_trans (Nat.lt_trans (Nat.lt_trans z6 z4) z2) z1)) (Nat.ne_of_lt (Nat.lt_trans (Nat.lt_trans (Nat.lt_trans (Nat.lt_trans z6 z4) z2) z1) z3)) (Nat.ne_of_lt (Nat.lt_trans (Nat.lt_trans (Nat.lt_trans (Nat.lt_trans (Nat.lt_trans z6 z4) z2) z1) z3) z5)) (Nat.ne_of_lt z4) (Nat.ne_of_lt (Nat.lt_trans z4 z2)) (Nat.ne_of_lt (Nat.lt_trans (Nat.lt_trans z4 z2) z1)) (Nat.ne_of_lt (Nat.lt_trans (Nat.lt_trans (Nat.lt_trans z4 z2) z1) z3)) (Nat.ne_of_lt (Nat.lt_trans (Nat.lt_trans (Nat.lt_trans (Nat.lt_trans z4 z2) z1) z3) z5)) (Nat.ne_of_lt z2) (Nat.ne_of_lt (Nat.lt_trans z2 z1)) (Nat.ne_of_lt (Nat.lt_trans (Nat.lt_trans z2 z1) z3)) (Nat.ne_of_lt (Nat.lt_trans (Nat.lt_trans (Nat.lt_trans z2 z1) z3) z5)) (Nat.ne_of_lt z1) (Nat.ne_of_lt (Nat.lt_trans z1 z3)) (Nat.ne_of_lt (Nat.lt_trans (Nat.lt_trans z1 z3) z5)) (Nat.ne_of_lt z3) (Nat.ne_of_lt (Nat.lt_trans z3 z5)) (Nat.ne_of_lt z5) z9 zb zc zd zy zz ze zo) hZ (own_W hw 58 rfl) (own_W hw 2 rfl) (by decide) (by decide)) zd5 zd6 (g := (mkF m 128 #[.val (.int p1), .val (.int p2), .val (.int p3), .val (.int p4), .val (.int p5), .val (.int p6), .val (.ref z0), .val (.int 1), .val (.int 3), .val (.int 1)] [(.ref z0)])) rfl (by rw [hml]; rfl) (Steps.refl _) (argsL := []) (rest := []) (lenOf own_pd4 rfl) rfl (by show 2 * 0 + _ ≤ _; exact Nat.le_of_eq rfl) (hb hby at_128) (fun _ _ => ⟨rfl, z2j, (by decide : 9 + 0 ≤ _), (by decide : 122 + 0 ≤ _)⟩)
      dsimp only [Pt.U, Pt.locs, Pt.cells, Pt.slots] at z20 l893 y893 z893 z7p z7o
      replace z20 := own_sub z20 l893 y893 z893
      obtain ⟨rfl, zd7, z4x, fB893, fM893⟩ := z7o
      have zd8 := Fr.app z3u zd7
      have zd9 := z2h.keep z4x (allS ze (allS zo (allS z9 (allS zd (allS zc (allS zb all0))))))
      have zgc := z4w.trans z4x (allS (Or.inr z1d) (allS (Or.inr z24) (allS (Or.inr z12) (allS (Or.inr z1c) (allS (Or.inr z1b) (allS (Or.inr z1a) all0))))))
      have zda := (z2i.keep z4x)
      have zdb := own_QB.size fB893
      obtain ⟨cq896, kq896, zdc, zgd, zdd⟩ := isOf hZ rfl zda
      obtain ⟨_, _, ⟨z3x, L896, zge, n896⟩, -, z1q, ⟨Lc896, z7q, l896, y896, z896⟩, z7r⟩ := z20.virtualBack hx (y := own_m0) (z := own_m0) hown (mvT hZ (own_W hw 32 rfl)) (mvT hZ (own_W hw 33 rfl)) (notFace_of_selects (args := #[]) (mvT hZ (own_W hw 35 rfl))) (mvT hZ (own_W hw 35 rfl)) (mvT hZ (own_W hw 34 rfl)) (by decide) (backOf (W := 0) (rmL7 l Z a0 hw [] z36.heap n0 p1 p2 p3 p4 p5 p6 A K z0 EN zd9 zdb) hZ (own_W hw 36 rfl) (own_W hw 2 rfl) (by decide) (by decide)) zdc zdd (g := (mkF m 160 #[.val (.int p1), .val (.int p2), .val (.int p3), .val (.int p4), .val (.int p5), .val (.int p6), .val (.ref z0), .val (.int 1), .val (.int 3), .val (.int 1)] [(.ref z0)])) rfl (by rw [hml]; rfl) (Steps.refl _) (argsL := []) (rest := []) (lenOf own_pd6 rfl) rfl (by show 2 * 0 + _ ≤ _; exact Nat.le_of_eq rfl) (hb hby at_160) (fun _ _ => ⟨rfl, rfl, (by decide : 9 + 0 ≤ _), (by decide : 122 + 0 ≤ _)⟩)
      dsimp only [Pt.U, Pt.locs, Pt.cells, Pt.slots] at z1q l896 y896 z896 z7r z7q
      replace z1q := own_sub z1q l896 y896 z896
      obtain ⟨rfl, zde, zgf⟩ := z7q
      have zdf := Fr.app zd8 zde
      obtain ⟨fs, hr, hrun, hended, hW, hsame⟩ := z1q.leave (v := some (.int 1)) (fun h => by rw [Bd.returns] at h; cases h)
      refine ⟨_, _, z3v _ ?_, hrun, hended, _, _, rfl, ?_, ⟨_, rfl⟩, hW, hsame.mono (by decide) (by decide)⟩
      · show Steps p.tables e below (z10.setTop (mkF m 122 #[.val (.int p1), .val (.int p2), .val (.int p3), .val (.int p4), .val (.int p5), .val (.int p6), .val (.ref z0), .val (.int 1), .val (.int 3), .val (.int (own_f_rmMin (((p1.toUInt32 >>> ((2 : Int32) &&& 31).toUInt32).toInt32) &&& (3 : Int32)) (3 : Int32)))] [(.int (own_f_rmMin (((p1.toUInt32 >>> ((2 : Int32) &&& 31).toUInt32).toInt32) &&& (3 : Int32)) (3 : Int32)))])) _
        rw [z2d]
        show Steps p.tables e below (z10.setTop (mkF m 122 #[.val (.int p1), .val (.int p2), .val (.int p3), .val (.int p4), .val (.int p5), .val (.int p6), .val (.ref z0), .val (.int 1), .val (.int 3), .val (.int 1)] [(.int 1)])) _
        refine XS.iconst z8.here hx rfl (hb hby at_122) ?_
        refine XS.icmpNo z8.here hx rfl (hb hby at_123) rfl (flt (by decide : ¬ ((1 : Int32) < (1 : Int32)))).1 ?_
        show Steps p.tables e below (z10.setTop (mkF m 126 #[.val (.int p1), .val (.int p2), .val (.int p3), .val (.int p4), .val (.int p5), .val (.int p6), .val (.ref z0), .val (.int 1), .val (.int 3), .val (.int 1)] [])) _
        refine XS.aload z8.here hx rfl (hb hby at_126) rfl rfl ?_
        refine z7p.trans ?_
        show Steps p.tables e below (z36.setTop (mkF m 131 #[.val (.int p1), .val (.int p2), .val (.int p3), .val (.int p4), .val (.int p5), .val (.int p6), .val (.ref z0), .val (.int 1), .val (.int 3), .val (.int 1)] [])) _
        refine XS.iload z20.here hx rfl (hb hby at_131) rfl ?_
        refine XS.iconst z20.here hx rfl (hb hby at_133) ?_
        refine XS.icmpYes z20.here hx rfl (pc0 := 134) (pc' := 142) rfl (hb hby at_134) rfl (tlt (by decide : (1 : Int32) < (2 : Int32))).1 (by decide) (by decide) ?_
        show Steps p.tables e below (z36.setTop (mkF m 142 #[.val (.int p1), .val (.int p2), .val (.int p3), .val (.int p4), .val (.int p5), .val (.int p6), .val (.ref z0), .val (.int 1), .val (.int 3), .val (.int 1)] [])) _
        refine XS.iload z20.here hx rfl (hb hby at_142) rfl ?_
        refine XS.iconst z20.here hx rfl (hb hby at_144) ?_
        refine XS.icmpYes z20.here hx rfl (pc0 := 145) (pc' := 153) rfl (hb hby at_145) rfl (tlt (by decide : (1 : Int32) < (3 : Int32))).1 (by decide) (by decide) ?_
        show Steps p.tables e below (z36.setTop (mkF m 153 #[.val (.int p1), .val (.int p2), .val (.int p3), .val (.int p4), .val (.int p5), .val (.int p6), .val (.ref z0), .val (.int 1), .val (.int 3), .val (.int 1)] [])) _
        refine XS.iload z20.here hx rfl (hb hby at_153) rfl ?_
        refine XS.ifNo z20.here hx rfl (hb hby at_155) rfl ((if0 _ _).trans (feq (by decide : ¬ ((1 : Int32) = (0 : Int32)))).1) ?_
        show Steps p.tables e below (z36.setTop (mkF m 158 #[.val (.int p1), .val (.int p2), .val (.int p3), .val (.int p4), .val (.int p5), .val (.int p6), .val (.ref z0), .val (.int 1), .val (.int 3), .val (.int 1)] [])) _
        refine XS.aload z20.here hx rfl (hb hby at_158) rfl rfl ?_
        refine z7r.trans ?_
        show Steps p.tables e below (z3x.setTop (mkF m 163 #[.val (.int p1), .val (.int p2), .val (.int p3), .val (.int p4), .val (.int p5), .val (.int p6), .val (.ref z0), .val (.int 1), .val (.int 3), .val (.int 1)] [(.int 0)])) _
        refine XS.iload z1q.here hx rfl (hb hby at_163) rfl ?_
        refine XS.iload z1q.here hx rfl (hb hby at_165) rfl ?_
        refine XS.icmpYes z1q.here hx rfl (pc0 := 167) (pc' := 174) rfl (hb hby at_167) rfl (feq (by decide : ¬ ((3 : Int32) = (1 : Int32)))).2 (by decide) (by decide) ?_
        show Steps p.tables e below (z3x.setTop (mkF m 174 #[.val (.int p1), .val (.int p2), .val (.int p3), .val (.int p4), .val (.int p5), .val (.int p6), .val (.ref z0), .val (.int 1), .val (.int 3), .val (.int 1)] [(.int 0)])) _
        refine XS.iconst z1q.here hx rfl (hb hby at_174) ?_
        refine XS.icmpNo z1q.here hx rfl (hb hby at_175) rfl (teq (by decide : (0 : Int32) = (0 : Int32))).2 ?_
        show Steps p.tables e below (z3x.setTop (mkF m 178 #[.val (.int p1), .val (.int p2), .val (.int p3), .val (.int p4), .val (.int p5), .val (.int p6), .val (.ref z0), .val (.int 1), .val (.int 3), .val (.int 1)] [])) _
        refine XS.iconst z1q.here hx rfl (hb hby at_178) ?_
        refine XS.goto z1q.here hx rfl (pc0 := 179) (pc' := 183) rfl (hb hby at_179) (by decide) (by decide) ?_
        refine XS.istore z1q.here hx rfl (hb hby at_183) rfl (l' := #[.val (.int p1), .val (.int p2), .val (.int p3), .val (.int p4), .val (.int p5), .val (.int p6), .val (.ref z0), .val (.int 1), .val (.int 3), .val (.int 1)]) rfl ?_
        refine XS.iload z1q.here hx rfl (hb hby at_185) rfl ?_
        exact retN z1q hx (t := .boolean) Bd.returns (by simp) (hb hby at_187) hr
      · show LQ n0 _ z3x.heap _
        exact ⟨rfl, zdf, trivial⟩
    | 2, _, z2d =>
      have zdg := (z3t.keep z2y (ninS (Ne.symm (Nat.ne_of_lt (Nat.lt_trans (Nat.lt_trans z1 z3) z5))) (ninS (Ne.symm (Nat.ne_of_lt (Nat.lt_trans z3 z5))) (ninS (Ne.symm (Nat.ne_of_lt z5)) (ninS (Ne.symm (Nat.ne_of_lt zp)) (ninS (Ne.symm (Nat.ne_of_lt (Nat.lt_trans (Nat.lt_trans (Nat.lt_trans (Nat.lt_trans (Nat.lt_trans z6 z4) z2) z1) z3) z5))) (ninS (Ne.symm (Nat.ne_of_lt (Nat.lt_trans (Nat.lt_trans (Nat.lt_trans (Nat.lt_trans z4 z2) z1) z3) z5))) (ninS (Ne.symm (Nat.ne_of_lt (Nat.lt_trans (Nat.lt_trans (Nat.lt_trans z2 z1) z3) z5))) nin0))))))))
      have zdh : own_AM Z z28.heap zg zx .int := ⟨_, _, zdg⟩
      obtain ⟨cq899, kq899, zdi, zgg, zdj⟩ := isOf hZ z2j z2i
      obtain ⟨_, _, ⟨z4y, L899, zgh, n899⟩, -, z2k, ⟨Lc899, z7s, l899, y899, z899⟩, z7t⟩ := z8.virtualBack hx (y := own_m1) (z := own_m1) hown (mvT hZ (own_W hw 54 rfl)) (mvT hZ (own_W hw 55 rfl)) (notFace_of_selects (args := #[]) (mvT hZ (own_W hw 57 rfl))) (mvT hZ (own_W hw 57 rfl)) (mvT hZ (own_W hw 56 rfl)) (by decide) (backOf (W := 0) (wR3 l Z a0 hw [] z28.heap n0 A K z0 zi zj zk zl zm zn zg zq zr zs zt zu zv zx EN z2h fB882 zdh (Nat.ne_of_lt z14) (Nat.ne_of_lt z15) (Nat.ne_of_lt z16) (Nat.ne_of_lt z17) (Nat.ne_of_lt z18) (Nat.ne_of_lt z19) (Nat.ne_of_lt zp) (Nat.ne_of_lt z6) (Nat.ne_of_lt (Nat.lt_trans z6 z4)) (Nat.ne_of_lt (Nat.lt_trans (Nat.lt_trans z6 z4) z2)) (Nat.ne_of_lt (Nat.lt_trans (Nat.lt_trans (Nat.lt_trans z6 z4) z2) z1)) (Nat.ne_of_lt (Nat.lt_trans (Nat.lt_trans (Nat.lt_trans (Nat.lt_trans z6 z4) z2) z1) z3)) (Nat.ne_of_lt (Nat.lt_trans (Nat.lt_trans (Nat.lt_trans (Nat.lt_trans (Nat.lt_trans z6 z4) z2) z1) z3) z5)) (Nat.ne_of_lt z4) (Nat.ne_of_lt (Nat.lt_trans z4 z2)) (Nat.ne_of_lt (Nat.lt_trans (Nat.lt_trans z4 z2) z1)) (Nat.ne_of_lt (Nat.lt_trans (Nat.lt_trans (Nat.lt_trans z4 z2) z1) z3)) (Nat.ne_of_lt (Nat.lt_trans (Nat.lt_trans (Nat.lt_trans (Nat.lt_trans z4 z2) z1) z3) z5)) (Nat.ne_of_lt z2) (Nat.ne_of_lt (Nat.lt_trans z2 z1)) (Nat.ne_of_lt (Nat.lt_trans (Nat.lt_trans z2 z1) z3)) (Nat.ne_of_lt (Nat.lt_trans (Nat.lt_trans (Nat.lt_trans z2 z1) z3) z5)) (Nat.ne_of_lt z1) (Nat.ne_of_lt (Nat.lt_trans z1 z3)) (Nat.ne_of_lt (Nat.lt_trans (Nat.lt_trans z1 z3) z5)) (Nat.ne_of_lt z3) (Nat.ne_of_lt (Nat.lt_trans z3 z5)) (Nat.ne_of_lt z5) z9 zb zc zd zy zz ze zo) hZ (own_W hw 58 rfl) (own_W hw 2 rfl) (by decide) (by decide)) zdi zdj (g := (mkF m 128 #[.val (.int p1), .val (.int p2), .val (.int p3), .val (.int p4), .val (.int p5), .val (.int p6), .val (.ref z0), .val (.int 1), .val (.int 3), .val (.int 2)] [(.ref z0)])) rfl (by rw [hml]; rfl) (Steps.refl _) (argsL := []) (rest := []) (lenOf own_pd4 rfl) rfl (by show 2 * 0 + _ ≤ _; exact Nat.le_of_eq rfl) (hb hby at_128) (fun _ _ => ⟨rfl, z2j, (by decide : 9 + 0 ≤ _), (by decide : 122 + 0 ≤ _)⟩)
      dsimp only [Pt.U, Pt.locs, Pt.cells, Pt.slots] at z2k l899 y899 z899 z7t z7s
      replace z2k := own_sub z2k l899 y899 z899
      obtain ⟨rfl, zdk, z4z, fB899, fM899⟩ := z7s
      have zdl := Fr.app z3u zdk
      have z7u := z2h.keep z4z (allS ze (allS zo (allS z9 (allS zd (allS zc (allS zb all0))))))
      have zdm := z4w.trans z4z (allS (Or.inr z1d) (allS (Or.inr z24) (allS (Or.inr z12) (allS (Or.inr z1c) (allS (Or.inr z1b) (allS (Or.inr z1a) all0))))))
      have z7v := (z2i.keep z4z)
      obtain ⟨cq901, kq901, zdn, zgi, zdo⟩ := isOf hZ rfl z7v
      obtain ⟨_, _, ⟨z3y, L901, zgj, n901⟩, -, z29, ⟨Lc901, z7w, l901, y901, z901⟩, z7x⟩ := z2k.virtualBack hx (y := own_m1) (z := own_m1) hown (mvT hZ (own_W hw 54 rfl)) (mvT hZ (own_W hw 55 rfl)) (notFace_of_selects (args := #[]) (mvT hZ (own_W hw 57 rfl))) (mvT hZ (own_W hw 57 rfl)) (mvT hZ (own_W hw 56 rfl)) (by decide) (backOf (W := 0) (wR2 l Z a0 hw [] z4y.heap n0 A K z0 zi zj zk zl zm zn zg zq zr zs zt zu zv zx EN z7u fB899 fM899 (Nat.ne_of_lt z14) (Nat.ne_of_lt z15) (Nat.ne_of_lt z16) (Nat.ne_of_lt z17) (Nat.ne_of_lt z18) (Nat.ne_of_lt z19) (Nat.ne_of_lt zp) (Nat.ne_of_lt z6) (Nat.ne_of_lt (Nat.lt_trans z6 z4)) (Nat.ne_of_lt (Nat.lt_trans (Nat.lt_trans z6 z4) z2)) (Nat.ne_of_lt (Nat.lt_trans (Nat.lt_trans (Nat.lt_trans z6 z4) z2) z1)) (Nat.ne_of_lt (Nat.lt_trans (Nat.lt_trans (Nat.lt_trans (Nat.lt_trans z6 z4) z2) z1) z3)) (Nat.ne_of_lt (Nat.lt_trans (Nat.lt_trans (Nat.lt_trans (Nat.lt_trans (Nat.lt_trans z6 z4) z2) z1) z3) z5)) (Nat.ne_of_lt z4) (Nat.ne_of_lt (Nat.lt_trans z4 z2)) (Nat.ne_of_lt (Nat.lt_trans (Nat.lt_trans z4 z2) z1)) (Nat.ne_of_lt (Nat.lt_trans (Nat.lt_trans (Nat.lt_trans z4 z2) z1) z3)) (Nat.ne_of_lt (Nat.lt_trans (Nat.lt_trans (Nat.lt_trans (Nat.lt_trans z4 z2) z1) z3) z5)) (Nat.ne_of_lt z2) (Nat.ne_of_lt (Nat.lt_trans z2 z1)) (Nat.ne_of_lt (Nat.lt_trans (Nat.lt_trans z2 z1) z3)) (Nat.ne_of_lt (Nat.lt_trans (Nat.lt_trans (Nat.lt_trans z2 z1) z3) z5)) (Nat.ne_of_lt z1) (Nat.ne_of_lt (Nat.lt_trans z1 z3)) (Nat.ne_of_lt (Nat.lt_trans (Nat.lt_trans z1 z3) z5)) (Nat.ne_of_lt z3) (Nat.ne_of_lt (Nat.lt_trans z3 z5)) (Nat.ne_of_lt z5) z9 zb zc zd zy zz ze zo) hZ (own_W hw 58 rfl) (own_W hw 2 rfl) (by decide) (by decide)) zdn zdo (g := (mkF m 139 #[.val (.int p1), .val (.int p2), .val (.int p3), .val (.int p4), .val (.int p5), .val (.int p6), .val (.ref z0), .val (.int 1), .val (.int 3), .val (.int 2)] [(.ref z0)])) rfl (by rw [hml]; rfl) (Steps.refl _) (argsL := []) (rest := []) (lenOf own_pd4 rfl) rfl (by show 2 * 0 + _ ≤ _; exact Nat.le_of_eq rfl) (hb hby at_139) (fun _ _ => ⟨rfl, rfl, (by decide : 9 + 0 ≤ _), (by decide : 122 + 0 ≤ _)⟩)
      dsimp only [Pt.U, Pt.locs, Pt.cells, Pt.slots] at z29 l901 y901 z901 z7x z7w
      replace z29 := own_sub z29 l901 y901 z901
      obtain ⟨rfl, zdp, z50, fB901, fM901⟩ := z7w
      have zdq := Fr.app zdl zdp
      have zdr := z7u.keep z50 (allS ze (allS zo (allS z9 (allS zd (allS zc (allS zb all0))))))
      have zgk := zdm.trans z50 (allS (Or.inr z1d) (allS (Or.inr z24) (allS (Or.inr z12) (allS (Or.inr z1c) (allS (Or.inr z1b) (allS (Or.inr z1a) all0))))))
      have zds := (z7v.keep z50)
      have zdt := own_QB.size fB901
      obtain ⟨cq904, kq904, zdu, zgl, zdv⟩ := isOf hZ rfl zds
      obtain ⟨_, _, ⟨z3z, L904, zgm, n904⟩, -, z1r, ⟨Lc904, z7y, l904, y904, z904⟩, z7z⟩ := z29.virtualBack hx (y := own_m0) (z := own_m0) hown (mvT hZ (own_W hw 32 rfl)) (mvT hZ (own_W hw 33 rfl)) (notFace_of_selects (args := #[]) (mvT hZ (own_W hw 35 rfl))) (mvT hZ (own_W hw 35 rfl)) (mvT hZ (own_W hw 34 rfl)) (by decide) (backOf (W := 0) (rmL6 l Z a0 hw [] z3y.heap n0 p1 p2 p3 p4 p5 p6 A K z0 EN zdr zdt) hZ (own_W hw 36 rfl) (own_W hw 2 rfl) (by decide) (by decide)) zdu zdv (g := (mkF m 160 #[.val (.int p1), .val (.int p2), .val (.int p3), .val (.int p4), .val (.int p5), .val (.int p6), .val (.ref z0), .val (.int 1), .val (.int 3), .val (.int 2)] [(.ref z0)])) rfl (by rw [hml]; rfl) (Steps.refl _) (argsL := []) (rest := []) (lenOf own_pd6 rfl) rfl (by show 2 * 0 + _ ≤ _; exact Nat.le_of_eq rfl) (hb hby at_160) (fun _ _ => ⟨rfl, rfl, (by decide : 9 + 0 ≤ _), (by decide : 122 + 0 ≤ _)⟩)
      dsimp only [Pt.U, Pt.locs, Pt.cells, Pt.slots] at z1r l904 y904 z904 z7z z7y
      replace z1r := own_sub z1r l904 y904 z904
      obtain ⟨rfl, zdw, zgn⟩ := z7y
      have zdx := Fr.app zdq zdw
      obtain ⟨fs, hr, hrun, hended, hW, hsame⟩ := z1r.leave (v := some (.int 1)) (fun h => by rw [Bd.returns] at h; cases h)
      refine ⟨_, _, z3v _ ?_, hrun, hended, _, _, rfl, ?_, ⟨_, rfl⟩, hW, hsame.mono (by decide) (by decide)⟩
      · show Steps p.tables e below (z10.setTop (mkF m 122 #[.val (.int p1), .val (.int p2), .val (.int p3), .val (.int p4), .val (.int p5), .val (.int p6), .val (.ref z0), .val (.int 1), .val (.int 3), .val (.int (own_f_rmMin (((p1.toUInt32 >>> ((2 : Int32) &&& 31).toUInt32).toInt32) &&& (3 : Int32)) (3 : Int32)))] [(.int (own_f_rmMin (((p1.toUInt32 >>> ((2 : Int32) &&& 31).toUInt32).toInt32) &&& (3 : Int32)) (3 : Int32)))])) _
        rw [z2d]
        show Steps p.tables e below (z10.setTop (mkF m 122 #[.val (.int p1), .val (.int p2), .val (.int p3), .val (.int p4), .val (.int p5), .val (.int p6), .val (.ref z0), .val (.int 1), .val (.int 3), .val (.int 2)] [(.int 2)])) _
        refine XS.iconst z8.here hx rfl (hb hby at_122) ?_
        refine XS.icmpNo z8.here hx rfl (hb hby at_123) rfl (flt (by decide : ¬ ((2 : Int32) < (1 : Int32)))).1 ?_
        show Steps p.tables e below (z10.setTop (mkF m 126 #[.val (.int p1), .val (.int p2), .val (.int p3), .val (.int p4), .val (.int p5), .val (.int p6), .val (.ref z0), .val (.int 1), .val (.int 3), .val (.int 2)] [])) _
        refine XS.aload z8.here hx rfl (hb hby at_126) rfl rfl ?_
        refine z7t.trans ?_
        show Steps p.tables e below (z4y.setTop (mkF m 131 #[.val (.int p1), .val (.int p2), .val (.int p3), .val (.int p4), .val (.int p5), .val (.int p6), .val (.ref z0), .val (.int 1), .val (.int 3), .val (.int 2)] [])) _
        refine XS.iload z2k.here hx rfl (hb hby at_131) rfl ?_
        refine XS.iconst z2k.here hx rfl (hb hby at_133) ?_
        refine XS.icmpNo z2k.here hx rfl (hb hby at_134) rfl (flt (by decide : ¬ ((2 : Int32) < (2 : Int32)))).1 ?_
        show Steps p.tables e below (z4y.setTop (mkF m 137 #[.val (.int p1), .val (.int p2), .val (.int p3), .val (.int p4), .val (.int p5), .val (.int p6), .val (.ref z0), .val (.int 1), .val (.int 3), .val (.int 2)] [])) _
        refine XS.aload z2k.here hx rfl (hb hby at_137) rfl rfl ?_
        refine z7x.trans ?_
        show Steps p.tables e below (z3y.setTop (mkF m 142 #[.val (.int p1), .val (.int p2), .val (.int p3), .val (.int p4), .val (.int p5), .val (.int p6), .val (.ref z0), .val (.int 1), .val (.int 3), .val (.int 2)] [])) _
        refine XS.iload z29.here hx rfl (hb hby at_142) rfl ?_
        refine XS.iconst z29.here hx rfl (hb hby at_144) ?_
        refine XS.icmpYes z29.here hx rfl (pc0 := 145) (pc' := 153) rfl (hb hby at_145) rfl (tlt (by decide : (2 : Int32) < (3 : Int32))).1 (by decide) (by decide) ?_
        show Steps p.tables e below (z3y.setTop (mkF m 153 #[.val (.int p1), .val (.int p2), .val (.int p3), .val (.int p4), .val (.int p5), .val (.int p6), .val (.ref z0), .val (.int 1), .val (.int 3), .val (.int 2)] [])) _
        refine XS.iload z29.here hx rfl (hb hby at_153) rfl ?_
        refine XS.ifNo z29.here hx rfl (hb hby at_155) rfl ((if0 _ _).trans (feq (by decide : ¬ ((1 : Int32) = (0 : Int32)))).1) ?_
        show Steps p.tables e below (z3y.setTop (mkF m 158 #[.val (.int p1), .val (.int p2), .val (.int p3), .val (.int p4), .val (.int p5), .val (.int p6), .val (.ref z0), .val (.int 1), .val (.int 3), .val (.int 2)] [])) _
        refine XS.aload z29.here hx rfl (hb hby at_158) rfl rfl ?_
        refine z7z.trans ?_
        show Steps p.tables e below (z3z.setTop (mkF m 163 #[.val (.int p1), .val (.int p2), .val (.int p3), .val (.int p4), .val (.int p5), .val (.int p6), .val (.ref z0), .val (.int 1), .val (.int 3), .val (.int 2)] [(.int 0)])) _
        refine XS.iload z1r.here hx rfl (hb hby at_163) rfl ?_
        refine XS.iload z1r.here hx rfl (hb hby at_165) rfl ?_
        refine XS.icmpYes z1r.here hx rfl (pc0 := 167) (pc' := 174) rfl (hb hby at_167) rfl (feq (by decide : ¬ ((3 : Int32) = (2 : Int32)))).2 (by decide) (by decide) ?_
        show Steps p.tables e below (z3z.setTop (mkF m 174 #[.val (.int p1), .val (.int p2), .val (.int p3), .val (.int p4), .val (.int p5), .val (.int p6), .val (.ref z0), .val (.int 1), .val (.int 3), .val (.int 2)] [(.int 0)])) _
        refine XS.iconst z1r.here hx rfl (hb hby at_174) ?_
        refine XS.icmpNo z1r.here hx rfl (hb hby at_175) rfl (teq (by decide : (0 : Int32) = (0 : Int32))).2 ?_
        show Steps p.tables e below (z3z.setTop (mkF m 178 #[.val (.int p1), .val (.int p2), .val (.int p3), .val (.int p4), .val (.int p5), .val (.int p6), .val (.ref z0), .val (.int 1), .val (.int 3), .val (.int 2)] [])) _
        refine XS.iconst z1r.here hx rfl (hb hby at_178) ?_
        refine XS.goto z1r.here hx rfl (pc0 := 179) (pc' := 183) rfl (hb hby at_179) (by decide) (by decide) ?_
        refine XS.istore z1r.here hx rfl (hb hby at_183) rfl (l' := #[.val (.int p1), .val (.int p2), .val (.int p3), .val (.int p4), .val (.int p5), .val (.int p6), .val (.ref z0), .val (.int 1), .val (.int 3), .val (.int 2)]) rfl ?_
        refine XS.iload z1r.here hx rfl (hb hby at_185) rfl ?_
        exact retN z1r hx (t := .boolean) Bd.returns (by simp) (hb hby at_187) hr
      · show LQ n0 _ z3z.heap _
        exact ⟨rfl, zdx, trivial⟩
    | 3, _, z2d =>
      have zdy := (z3t.keep z2y (ninS (Ne.symm (Nat.ne_of_lt (Nat.lt_trans (Nat.lt_trans z1 z3) z5))) (ninS (Ne.symm (Nat.ne_of_lt (Nat.lt_trans z3 z5))) (ninS (Ne.symm (Nat.ne_of_lt z5)) (ninS (Ne.symm (Nat.ne_of_lt zp)) (ninS (Ne.symm (Nat.ne_of_lt (Nat.lt_trans (Nat.lt_trans (Nat.lt_trans (Nat.lt_trans (Nat.lt_trans z6 z4) z2) z1) z3) z5))) (ninS (Ne.symm (Nat.ne_of_lt (Nat.lt_trans (Nat.lt_trans (Nat.lt_trans (Nat.lt_trans z4 z2) z1) z3) z5))) (ninS (Ne.symm (Nat.ne_of_lt (Nat.lt_trans (Nat.lt_trans (Nat.lt_trans z2 z1) z3) z5))) nin0))))))))
      have zdz : own_AM Z z28.heap zg zx .int := ⟨_, _, zdy⟩
      obtain ⟨cq907, kq907, ze0, zgo, ze1⟩ := isOf hZ z2j z2i
      obtain ⟨_, _, ⟨z51, L907, zgp, n907⟩, -, z2l, ⟨Lc907, z80, l907, y907, z907⟩, z81⟩ := z8.virtualBack hx (y := own_m1) (z := own_m1) hown (mvT hZ (own_W hw 54 rfl)) (mvT hZ (own_W hw 55 rfl)) (notFace_of_selects (args := #[]) (mvT hZ (own_W hw 57 rfl))) (mvT hZ (own_W hw 57 rfl)) (mvT hZ (own_W hw 56 rfl)) (by decide) (backOf (W := 0) (wR3 l Z a0 hw [] z28.heap n0 A K z0 zi zj zk zl zm zn zg zq zr zs zt zu zv zx EN z2h fB882 zdz (Nat.ne_of_lt z14) (Nat.ne_of_lt z15) (Nat.ne_of_lt z16) (Nat.ne_of_lt z17) (Nat.ne_of_lt z18) (Nat.ne_of_lt z19) (Nat.ne_of_lt zp) (Nat.ne_of_lt z6) (Nat.ne_of_lt (Nat.lt_trans z6 z4)) (Nat.ne_of_lt (Nat.lt_trans (Nat.lt_trans z6 z4) z2)) (Nat.ne_of_lt (Nat.lt_trans (Nat.lt_trans (Nat.lt_trans z6 z4) z2) z1)) (Nat.ne_of_lt (Nat.lt_trans (Nat.lt_trans (Nat.lt_trans (Nat.lt_trans z6 z4) z2) z1) z3)) (Nat.ne_of_lt (Nat.lt_trans (Nat.lt_trans (Nat.lt_trans (Nat.lt_trans (Nat.lt_trans z6 z4) z2) z1) z3) z5)) (Nat.ne_of_lt z4) (Nat.ne_of_lt (Nat.lt_trans z4 z2)) (Nat.ne_of_lt (Nat.lt_trans (Nat.lt_trans z4 z2) z1)) (Nat.ne_of_lt (Nat.lt_trans (Nat.lt_trans (Nat.lt_trans z4 z2) z1) z3)) (Nat.ne_of_lt (Nat.lt_trans (Nat.lt_trans (Nat.lt_trans (Nat.lt_trans z4 z2) z1) z3) z5)) (Nat.ne_of_lt z2) (Nat.ne_of_lt (Nat.lt_trans z2 z1)) (Nat.ne_of_lt (Nat.lt_trans (Nat.lt_trans z2 z1) z3)) (Nat.ne_of_lt (Nat.lt_trans (Nat.lt_trans (Nat.lt_trans z2 z1) z3) z5)) (Nat.ne_of_lt z1) (Nat.ne_of_lt (Nat.lt_trans z1 z3)) (Nat.ne_of_lt (Nat.lt_trans (Nat.lt_trans z1 z3) z5)) (Nat.ne_of_lt z3) (Nat.ne_of_lt (Nat.lt_trans z3 z5)) (Nat.ne_of_lt z5) z9 zb zc zd zy zz ze zo) hZ (own_W hw 58 rfl) (own_W hw 2 rfl) (by decide) (by decide)) ze0 ze1 (g := (mkF m 128 #[.val (.int p1), .val (.int p2), .val (.int p3), .val (.int p4), .val (.int p5), .val (.int p6), .val (.ref z0), .val (.int 1), .val (.int 3), .val (.int 3)] [(.ref z0)])) rfl (by rw [hml]; rfl) (Steps.refl _) (argsL := []) (rest := []) (lenOf own_pd4 rfl) rfl (by show 2 * 0 + _ ≤ _; exact Nat.le_of_eq rfl) (hb hby at_128) (fun _ _ => ⟨rfl, z2j, (by decide : 9 + 0 ≤ _), (by decide : 122 + 0 ≤ _)⟩)
      dsimp only [Pt.U, Pt.locs, Pt.cells, Pt.slots] at z2l l907 y907 z907 z81 z80
      replace z2l := own_sub z2l l907 y907 z907
      obtain ⟨rfl, ze2, z52, fB907, fM907⟩ := z80
      have ze3 := Fr.app z3u ze2
      have z82 := z2h.keep z52 (allS ze (allS zo (allS z9 (allS zd (allS zc (allS zb all0))))))
      have ze4 := z4w.trans z52 (allS (Or.inr z1d) (allS (Or.inr z24) (allS (Or.inr z12) (allS (Or.inr z1c) (allS (Or.inr z1b) (allS (Or.inr z1a) all0))))))
      have z83 := (z2i.keep z52)
      obtain ⟨cq909, kq909, ze5, zgq, ze6⟩ := isOf hZ rfl z83
      obtain ⟨_, _, ⟨z53, L909, zgr, n909⟩, -, z2m, ⟨Lc909, z84, l909, y909, z909⟩, z85⟩ := z2l.virtualBack hx (y := own_m1) (z := own_m1) hown (mvT hZ (own_W hw 54 rfl)) (mvT hZ (own_W hw 55 rfl)) (notFace_of_selects (args := #[]) (mvT hZ (own_W hw 57 rfl))) (mvT hZ (own_W hw 57 rfl)) (mvT hZ (own_W hw 56 rfl)) (by decide) (backOf (W := 0) (wR2 l Z a0 hw [] z51.heap n0 A K z0 zi zj zk zl zm zn zg zq zr zs zt zu zv zx EN z82 fB907 fM907 (Nat.ne_of_lt z14) (Nat.ne_of_lt z15) (Nat.ne_of_lt z16) (Nat.ne_of_lt z17) (Nat.ne_of_lt z18) (Nat.ne_of_lt z19) (Nat.ne_of_lt zp) (Nat.ne_of_lt z6) (Nat.ne_of_lt (Nat.lt_trans z6 z4)) (Nat.ne_of_lt (Nat.lt_trans (Nat.lt_trans z6 z4) z2)) (Nat.ne_of_lt (Nat.lt_trans (Nat.lt_trans (Nat.lt_trans z6 z4) z2) z1)) (Nat.ne_of_lt (Nat.lt_trans (Nat.lt_trans (Nat.lt_trans (Nat.lt_trans z6 z4) z2) z1) z3)) (Nat.ne_of_lt (Nat.lt_trans (Nat.lt_trans (Nat.lt_trans (Nat.lt_trans (Nat.lt_trans z6 z4) z2) z1) z3) z5)) (Nat.ne_of_lt z4) (Nat.ne_of_lt (Nat.lt_trans z4 z2)) (Nat.ne_of_lt (Nat.lt_trans (Nat.lt_trans z4 z2) z1)) (Nat.ne_of_lt (Nat.lt_trans (Nat.lt_trans (Nat.lt_trans z4 z2) z1) z3)) (Nat.ne_of_lt (Nat.lt_trans (Nat.lt_trans (Nat.lt_trans (Nat.lt_trans z4 z2) z1) z3) z5)) (Nat.ne_of_lt z2) (Nat.ne_of_lt (Nat.lt_trans z2 z1)) (Nat.ne_of_lt (Nat.lt_trans (Nat.lt_trans z2 z1) z3)) (Nat.ne_of_lt (Nat.lt_trans (Nat.lt_trans (Nat.lt_trans z2 z1) z3) z5)) (Nat.ne_of_lt z1) (Nat.ne_of_lt (Nat.lt_trans z1 z3)) (Nat.ne_of_lt (Nat.lt_trans (Nat.lt_trans z1 z3) z5)) (Nat.ne_of_lt z3) (Nat.ne_of_lt (Nat.lt_trans z3 z5)) (Nat.ne_of_lt z5) z9 zb zc zd zy zz ze zo) hZ (own_W hw 58 rfl) (own_W hw 2 rfl) (by decide) (by decide)) ze5 ze6 (g := (mkF m 139 #[.val (.int p1), .val (.int p2), .val (.int p3), .val (.int p4), .val (.int p5), .val (.int p6), .val (.ref z0), .val (.int 1), .val (.int 3), .val (.int 3)] [(.ref z0)])) rfl (by rw [hml]; rfl) (Steps.refl _) (argsL := []) (rest := []) (lenOf own_pd4 rfl) rfl (by show 2 * 0 + _ ≤ _; exact Nat.le_of_eq rfl) (hb hby at_139) (fun _ _ => ⟨rfl, rfl, (by decide : 9 + 0 ≤ _), (by decide : 122 + 0 ≤ _)⟩)
      dsimp only [Pt.U, Pt.locs, Pt.cells, Pt.slots] at z2m l909 y909 z909 z85 z84
      replace z2m := own_sub z2m l909 y909 z909
      obtain ⟨rfl, ze7, z54, fB909, fM909⟩ := z84
      have ze8 := Fr.app ze3 ze7
      have z86 := z82.keep z54 (allS ze (allS zo (allS z9 (allS zd (allS zc (allS zb all0))))))
      have ze9 := ze4.trans z54 (allS (Or.inr z1d) (allS (Or.inr z24) (allS (Or.inr z12) (allS (Or.inr z1c) (allS (Or.inr z1b) (allS (Or.inr z1a) all0))))))
      have z87 := (z83.keep z54)
      obtain ⟨cq911, kq911, zea, zgs, zeb⟩ := isOf hZ rfl z87
      obtain ⟨_, _, ⟨z55, L911, zgt, n911⟩, -, z2p, ⟨Lc911, z88, l911, y911, z911⟩, z89⟩ := z2m.virtualBack hx (y := own_m1) (z := own_m1) hown (mvT hZ (own_W hw 54 rfl)) (mvT hZ (own_W hw 55 rfl)) (notFace_of_selects (args := #[]) (mvT hZ (own_W hw 57 rfl))) (mvT hZ (own_W hw 57 rfl)) (mvT hZ (own_W hw 56 rfl)) (by decide) (backOf (W := 0) (wR1 l Z a0 hw [] z53.heap n0 A K z0 zi zj zk zl zm zn zg zq zr zs zt zu zv zx EN z86 fB909 fM909 (Nat.ne_of_lt z14) (Nat.ne_of_lt z15) (Nat.ne_of_lt z16) (Nat.ne_of_lt z17) (Nat.ne_of_lt z18) (Nat.ne_of_lt z19) (Nat.ne_of_lt zp) (Nat.ne_of_lt z6) (Nat.ne_of_lt (Nat.lt_trans z6 z4)) (Nat.ne_of_lt (Nat.lt_trans (Nat.lt_trans z6 z4) z2)) (Nat.ne_of_lt (Nat.lt_trans (Nat.lt_trans (Nat.lt_trans z6 z4) z2) z1)) (Nat.ne_of_lt (Nat.lt_trans (Nat.lt_trans (Nat.lt_trans (Nat.lt_trans z6 z4) z2) z1) z3)) (Nat.ne_of_lt (Nat.lt_trans (Nat.lt_trans (Nat.lt_trans (Nat.lt_trans (Nat.lt_trans z6 z4) z2) z1) z3) z5)) (Nat.ne_of_lt z4) (Nat.ne_of_lt (Nat.lt_trans z4 z2)) (Nat.ne_of_lt (Nat.lt_trans (Nat.lt_trans z4 z2) z1)) (Nat.ne_of_lt (Nat.lt_trans (Nat.lt_trans (Nat.lt_trans z4 z2) z1) z3)) (Nat.ne_of_lt (Nat.lt_trans (Nat.lt_trans (Nat.lt_trans (Nat.lt_trans z4 z2) z1) z3) z5)) (Nat.ne_of_lt z2) (Nat.ne_of_lt (Nat.lt_trans z2 z1)) (Nat.ne_of_lt (Nat.lt_trans (Nat.lt_trans z2 z1) z3)) (Nat.ne_of_lt (Nat.lt_trans (Nat.lt_trans (Nat.lt_trans z2 z1) z3) z5)) (Nat.ne_of_lt z1) (Nat.ne_of_lt (Nat.lt_trans z1 z3)) (Nat.ne_of_lt (Nat.lt_trans (Nat.lt_trans z1 z3) z5)) (Nat.ne_of_lt z3) (Nat.ne_of_lt (Nat.lt_trans z3 z5)) (Nat.ne_of_lt z5) z9 zb zc zd zy zz ze zo) hZ (own_W hw 58 rfl) (own_W hw 2 rfl) (by decide) (by decide)) zea zeb (g := (mkF m 150 #[.val (.int p1), .val (.int p2), .val (.int p3), .val (.int p4), .val (.int p5), .val (.int p6), .val (.ref z0), .val (.int 1), .val (.int 3), .val (.int 3)] [(.ref z0)])) rfl (by rw [hml]; rfl) (Steps.refl _) (argsL := []) (rest := []) (lenOf own_pd4 rfl) rfl (by show 2 * 0 + _ ≤ _; exact Nat.le_of_eq rfl) (hb hby at_150) (fun _ _ => ⟨rfl, rfl, (by decide : 9 + 0 ≤ _), (by decide : 122 + 0 ≤ _)⟩)
      dsimp only [Pt.U, Pt.locs, Pt.cells, Pt.slots] at z2p l911 y911 z911 z89 z88
      replace z2p := own_sub z2p l911 y911 z911
      obtain ⟨rfl, zec, z56, fB911, fM911⟩ := z88
      have zed := Fr.app ze8 zec
      have zee := z86.keep z56 (allS ze (allS zo (allS z9 (allS zd (allS zc (allS zb all0))))))
      have zgu := ze9.trans z56 (allS (Or.inr z1d) (allS (Or.inr z24) (allS (Or.inr z12) (allS (Or.inr z1c) (allS (Or.inr z1b) (allS (Or.inr z1a) all0))))))
      have zef := (z87.keep z56)
      have zeg := own_QB.size fB911
      obtain ⟨cq914, kq914, zeh, zgv, zei⟩ := isOf hZ rfl zef
      obtain ⟨_, _, ⟨z40, L914, zgw, n914⟩, -, z1i, ⟨Lc914, z8a, l914, y914, z914⟩, z8b⟩ := z2p.virtualBack hx (y := own_m0) (z := own_m0) hown (mvT hZ (own_W hw 32 rfl)) (mvT hZ (own_W hw 33 rfl)) (notFace_of_selects (args := #[]) (mvT hZ (own_W hw 35 rfl))) (mvT hZ (own_W hw 35 rfl)) (mvT hZ (own_W hw 34 rfl)) (by decide) (backOf (W := 0) (rmL5 l Z a0 hw [] z55.heap n0 p1 p2 p3 p4 p5 p6 A K z0 EN zee zeg) hZ (own_W hw 36 rfl) (own_W hw 2 rfl) (by decide) (by decide)) zeh zei (g := (mkF m 160 #[.val (.int p1), .val (.int p2), .val (.int p3), .val (.int p4), .val (.int p5), .val (.int p6), .val (.ref z0), .val (.int 1), .val (.int 3), .val (.int 3)] [(.ref z0)])) rfl (by rw [hml]; rfl) (Steps.refl _) (argsL := []) (rest := []) (lenOf own_pd6 rfl) rfl (by show 2 * 0 + _ ≤ _; exact Nat.le_of_eq rfl) (hb hby at_160) (fun _ _ => ⟨rfl, rfl, (by decide : 9 + 0 ≤ _), (by decide : 122 + 0 ≤ _)⟩)
      dsimp only [Pt.U, Pt.locs, Pt.cells, Pt.slots] at z1i l914 y914 z914 z8b z8a
      replace z1i := own_sub z1i l914 y914 z914
      obtain ⟨rfl, zej, zgx⟩ := z8a
      have zek := Fr.app zed zej
      obtain ⟨fs, hr, hrun, hended, hW, hsame⟩ := z1i.leave (v := some (.int 1)) (fun h => by rw [Bd.returns] at h; cases h)
      refine ⟨_, _, z3v _ ?_, hrun, hended, _, _, rfl, ?_, ⟨_, rfl⟩, hW, hsame.mono (by decide) (by decide)⟩
      · show Steps p.tables e below (z10.setTop (mkF m 122 #[.val (.int p1), .val (.int p2), .val (.int p3), .val (.int p4), .val (.int p5), .val (.int p6), .val (.ref z0), .val (.int 1), .val (.int 3), .val (.int (own_f_rmMin (((p1.toUInt32 >>> ((2 : Int32) &&& 31).toUInt32).toInt32) &&& (3 : Int32)) (3 : Int32)))] [(.int (own_f_rmMin (((p1.toUInt32 >>> ((2 : Int32) &&& 31).toUInt32).toInt32) &&& (3 : Int32)) (3 : Int32)))])) _
        rw [z2d]
        show Steps p.tables e below (z10.setTop (mkF m 122 #[.val (.int p1), .val (.int p2), .val (.int p3), .val (.int p4), .val (.int p5), .val (.int p6), .val (.ref z0), .val (.int 1), .val (.int 3), .val (.int 3)] [(.int 3)])) _
        refine XS.iconst z8.here hx rfl (hb hby at_122) ?_
        refine XS.icmpNo z8.here hx rfl (hb hby at_123) rfl (flt (by decide : ¬ ((3 : Int32) < (1 : Int32)))).1 ?_
        show Steps p.tables e below (z10.setTop (mkF m 126 #[.val (.int p1), .val (.int p2), .val (.int p3), .val (.int p4), .val (.int p5), .val (.int p6), .val (.ref z0), .val (.int 1), .val (.int 3), .val (.int 3)] [])) _
        refine XS.aload z8.here hx rfl (hb hby at_126) rfl rfl ?_
        refine z81.trans ?_
        show Steps p.tables e below (z51.setTop (mkF m 131 #[.val (.int p1), .val (.int p2), .val (.int p3), .val (.int p4), .val (.int p5), .val (.int p6), .val (.ref z0), .val (.int 1), .val (.int 3), .val (.int 3)] [])) _
        refine XS.iload z2l.here hx rfl (hb hby at_131) rfl ?_
        refine XS.iconst z2l.here hx rfl (hb hby at_133) ?_
        refine XS.icmpNo z2l.here hx rfl (hb hby at_134) rfl (flt (by decide : ¬ ((3 : Int32) < (2 : Int32)))).1 ?_
        show Steps p.tables e below (z51.setTop (mkF m 137 #[.val (.int p1), .val (.int p2), .val (.int p3), .val (.int p4), .val (.int p5), .val (.int p6), .val (.ref z0), .val (.int 1), .val (.int 3), .val (.int 3)] [])) _
        refine XS.aload z2l.here hx rfl (hb hby at_137) rfl rfl ?_
        refine z85.trans ?_
        show Steps p.tables e below (z53.setTop (mkF m 142 #[.val (.int p1), .val (.int p2), .val (.int p3), .val (.int p4), .val (.int p5), .val (.int p6), .val (.ref z0), .val (.int 1), .val (.int 3), .val (.int 3)] [])) _
        refine XS.iload z2m.here hx rfl (hb hby at_142) rfl ?_
        refine XS.iconst z2m.here hx rfl (hb hby at_144) ?_
        refine XS.icmpNo z2m.here hx rfl (hb hby at_145) rfl (flt (by decide : ¬ ((3 : Int32) < (3 : Int32)))).1 ?_
        show Steps p.tables e below (z53.setTop (mkF m 148 #[.val (.int p1), .val (.int p2), .val (.int p3), .val (.int p4), .val (.int p5), .val (.int p6), .val (.ref z0), .val (.int 1), .val (.int 3), .val (.int 3)] [])) _
        refine XS.aload z2m.here hx rfl (hb hby at_148) rfl rfl ?_
        refine z89.trans ?_
        show Steps p.tables e below (z55.setTop (mkF m 153 #[.val (.int p1), .val (.int p2), .val (.int p3), .val (.int p4), .val (.int p5), .val (.int p6), .val (.ref z0), .val (.int 1), .val (.int 3), .val (.int 3)] [])) _
        refine XS.iload z2p.here hx rfl (hb hby at_153) rfl ?_
        refine XS.ifNo z2p.here hx rfl (hb hby at_155) rfl ((if0 _ _).trans (feq (by decide : ¬ ((1 : Int32) = (0 : Int32)))).1) ?_
        show Steps p.tables e below (z55.setTop (mkF m 158 #[.val (.int p1), .val (.int p2), .val (.int p3), .val (.int p4), .val (.int p5), .val (.int p6), .val (.ref z0), .val (.int 1), .val (.int 3), .val (.int 3)] [])) _
        refine XS.aload z2p.here hx rfl (hb hby at_158) rfl rfl ?_
        refine z8b.trans ?_
        show Steps p.tables e below (z40.setTop (mkF m 163 #[.val (.int p1), .val (.int p2), .val (.int p3), .val (.int p4), .val (.int p5), .val (.int p6), .val (.ref z0), .val (.int 1), .val (.int 3), .val (.int 3)] [(.int 1)])) _
        refine XS.iload z1i.here hx rfl (hb hby at_163) rfl ?_
        refine XS.iload z1i.here hx rfl (hb hby at_165) rfl ?_
        refine XS.icmpNo z1i.here hx rfl (hb hby at_167) rfl (teq (by decide : (3 : Int32) = (3 : Int32))).2 ?_
        show Steps p.tables e below (z40.setTop (mkF m 170 #[.val (.int p1), .val (.int p2), .val (.int p3), .val (.int p4), .val (.int p5), .val (.int p6), .val (.ref z0), .val (.int 1), .val (.int 3), .val (.int 3)] [(.int 1)])) _
        refine XS.iconst z1i.here hx rfl (hb hby at_170) ?_
        refine XS.goto z1i.here hx rfl (pc0 := 171) (pc' := 175) rfl (hb hby at_171) (by decide) (by decide) ?_
        refine XS.icmpNo z1i.here hx rfl (hb hby at_175) rfl (teq (by decide : (1 : Int32) = (1 : Int32))).2 ?_
        show Steps p.tables e below (z40.setTop (mkF m 178 #[.val (.int p1), .val (.int p2), .val (.int p3), .val (.int p4), .val (.int p5), .val (.int p6), .val (.ref z0), .val (.int 1), .val (.int 3), .val (.int 3)] [])) _
        refine XS.iconst z1i.here hx rfl (hb hby at_178) ?_
        refine XS.goto z1i.here hx rfl (pc0 := 179) (pc' := 183) rfl (hb hby at_179) (by decide) (by decide) ?_
        refine XS.istore z1i.here hx rfl (hb hby at_183) rfl (l' := #[.val (.int p1), .val (.int p2), .val (.int p3), .val (.int p4), .val (.int p5), .val (.int p6), .val (.ref z0), .val (.int 1), .val (.int 3), .val (.int 3)]) rfl ?_
        refine XS.iload z1i.here hx rfl (hb hby at_185) rfl ?_
        exact retN z1i hx (t := .boolean) Bd.returns (by simp) (hb hby at_187) hr
      · show LQ n0 _ z40.heap _
        exact ⟨rfl, zek, trivial⟩
    | kk + 4, h, _ => exact absurd h (by omega)
  | kk + 4, h, _ => exact absurd h (by omega)
set_option maxRecDepth 65536 in
set_option maxHeartbeats 40000000 in
theorem comes_1 {Post : Tables → Env → Array Value → State → Outcome → State → Prop} (hpost : ∀ tb e args s v u, (limb_1_1.after args s (.returned v) u = true ∧ limb_1_2.after args s (.returned v) u = true ∧ True) → FrameEnd s (.returned v) u (Jvm.fieldLocs frame_1_writes args s ++ Jvm.arrayLocs frame_1_arrays args s ++ Jvm.staticLocs frame_1_statics s) 32 320 → Post tb e args s (.returned v) u) :
    ArmFor flags0 classFile x code maxLocals ret World_1 tables_1 room_1 Calls_1 rest_1 Pre_1 Post := by
  intro l hfl _ _ p e ha hc hk s m args below hf hA hF happ hP
  obtain ⟨hcalls, hrest, hpre⟩ := hP
  obtain ⟨-, -, -, hnamed, -, -, -, hat⟩ := (Spec.applies_iff hf).mp happ
  obtain ⟨hg, hn⟩ := and_e (Cond.before_iff.mp (show (Jvm.Cond.and given_1 narrow_1).before args s = true from hpre))
  obtain ⟨gA0, gB0⟩ := and_e hg
  obtain ⟨gA1, gB1⟩ := and_e gB0
  obtain ⟨gA2, gB2⟩ := and_e gB1
  obtain ⟨gA3, gB3⟩ := and_e gB2
  obtain ⟨gA4, gB4⟩ := and_e gB3
  obtain ⟨gA5, gB5⟩ := and_e gB4
  obtain ⟨w0, w1, w2, w3, w4, w5, rfl⟩ : ∃ w0 w1 w2 w3 w4 w5 : Value, args = #[w0, w1, w2, w3, w4, w5] := by
    have hs : args.size = 6 := by simpa [Cond.value, given_1] using gA0
    obtain ⟨L⟩ := args
    match L, hs with
    | [w0, w1, w2, w3, w4, w5], _ => exact ⟨w0, w1, w2, w3, w4, w5, rfl⟩
  have hw := fun d (hd : d ∈ tables_1) => atoms_spec (ws := Jvm.Cond.code x code maxLocals ret :: tables_1) hat d (List.mem_cons_of_mem _ hd)
  have hfit : Fit s := fun {y c} hc i hi => by
    obtain ⟨ha, rfl⟩ := Array.getElem?_eq_some_iff.mp hc
    have q := List.all_eq_true.mp ((Array.all_eq_true_iff_forall_mem.mp hF) _ (Array.getElem_mem ha)) i (List.mem_range.mpr hi)
    simpa [Array.getElem?_eq_getElem hi] using q
  obtain ⟨hsets, hown0⟩ := atoms_of _ (rest_1_c_eq ▸ (show rest_1_c.before _ s = true from hrest))
  have hr0 := Cond.before_iff.mp hown0
  obtain ⟨i0, ei0⟩ := is_v gA1
  obtain rfl : w0 = (.int i0) := Option.some.inj ei0
  obtain ⟨i1, ei1⟩ := is_v gA2
  obtain rfl : w1 = (.int i1) := Option.some.inj ei1
  obtain ⟨i2, ei2⟩ := is_v gA3
  obtain rfl : w2 = (.int i2) := Option.some.inj ei2
  obtain ⟨i3, ei3⟩ := is_v gA4
  obtain rfl : w3 = (.int i3) := Option.some.inj ei3
  obtain ⟨i4, ei4⟩ := is_v gA5
  obtain rfl : w4 = (.int i4) := Option.some.inj ei4
  obtain ⟨i5, ei5⟩ := is_v gB5
  obtain rfl : w5 = (.int i5) := Option.some.inj ei5
  obtain ⟨aS0, eS0⟩ := exa_v (Cond.before_iff.mp (hsets _ (List.mem_of_getElem? (i := 5) rfl)))
  obtain ⟨cS0, ArS0, szS0, lnS0⟩ := own_len eS0 (Cond.before_iff.mp (hsets _ (List.mem_of_getElem? (i := 4) rfl))) (Cond.before_iff.mp (hsets _ (List.mem_of_getElem? (i := 6) rfl))) (by decide)
  have EN : own_St s (fun n => [aS0].getD n 0) (fun n => [].getD n 0) := ⟨⟨Sta.start eS0 (Or.inr ⟨(own_W hw 64 rfl), (hsets _ (List.mem_of_getElem? (i := 2) rfl))⟩), Exa.start eS0 (Cond.before_iff.mp (hsets _ (List.mem_of_getElem? (i := 5) rfl))), Sta.start (own_eqv (Term.int_eval _) (Cond.before_iff.mp (hsets _ (List.mem_of_getElem? (i := 3) rfl)))) (Or.inl (hsets _ (List.mem_of_getElem? (i := 1) rfl))), own_bxstart (fun _ => eS0) ArS0 szS0 lnS0 (Cond.before_iff.mp (hsets _ (List.mem_of_getElem? (i := 7) rfl))), trivial⟩, trivial⟩
  obtain ⟨n, o, h1, h2, h3, _, L, rfl, hQ, hq⟩ := rm0 l s _ hw tables_1 s.heap s.heap.size i0 i1 i2 i3 i4 i5 (fun n => [aS0].getD n 0) (fun n => [].getD n 0) EN (Old.start s) p e ha hc hk s m _ below hf ((Spec.applies_iff_loose hf).mp happ).1 ⟨rfl, State.Warmed39.refl s, rfl⟩ trivial
  obtain ⟨rfl, N, -⟩ := hQ
  refine ⟨n, _, h1, h2, h3, hpost _ _ _ _ _ _ ⟨Cond.after_iff.mpr rfl, Cond.after_iff.mpr (eq_i res_at (Term.int_eval (1)) rfl), trivial⟩ ⟨hq.1, hq.2.1, (hq.2.2.sift fun y hy => Or.inr (N y hy)).mono (by decide) (by decide)⟩⟩
theorem main_1_1 : Claimed_1_1 := comes_1 fun _ _ _ _ _ _ h hF => ⟨h.1, hF⟩
theorem main_1_2 : Claimed_1_2 := comes_1 fun _ _ _ _ _ _ h hF => ⟨h.2.1, hF⟩
end Jvm.Pilot.@@N@@
namespace Jvm.Pilot.@@N@@
open Jvm Jvm.ClassFile Sem Op Lib Jvm.Free Jvm.Stand Jvm.Pilot.@@N@@.Jvm.D
/-! MADE BY PROGRAM (witnessworld.py) out of the Statement's table words and the real class files: 22 classes; the members and pool entries that the words name. The judged class is class 1, her method 1. -/
namespace start1
open Jvm.ClassFile
def u (s : String) : CpInfo := .utf8 (stringToUtf16 s)
/-- a pool by its gaps: so many unusable entries, then the entry; so many at the end -/
def gap : Nat → List CpInfo → List CpInfo
  | 0, r => r
  | n + 1, r => .unusable :: gap n r
def poolList (es : List (Nat × CpInfo)) (last : Nat) : List CpInfo := es.foldr (fun e r => gap e.1 (e.2 :: r)) (gap last [])
def pool (es : List (Nat × CpInfo)) (last : Nat) : Array CpInfo := ⟨poolList es last⟩
def fileOf (pool : Array CpInfo) (this : Nat) (attrs : Array Attribute := #[]) (ms : Array MethodInfo := #[]) (fl : Nat := 33) (sup : Nat := 0) (ifs : Array Nat := #[]) (fds : Array FieldInfo := #[]) : ClassFile where
  minorVersion := 0
  majorVersion := 65
  constantPool := pool
  accessFlags := fl
  thisClass := this
  superClass := sup
  interfaces := ifs
  fields := fds
  methods := ms
  attributes := attrs
def plain (name : String) (sup : Option ClassId) : Class where
  name := name
  kind := .ordinary
  loader := none
  accessFlags := 33
  super := sup
  interfaces := #[]
  cf := none
  fields := #[]
  methods := #[]
  instanceTypes := #[]
  staticTypes := #[]
  resolved := #[]
  callSites := []
  init := .initialized
  statics := none
  mirror := none

def pool0 : Array CpInfo := pool [(5, u "<init>"), (0, u "()V"), (1, .class_ 10), (1, u "java/lang/Object")] 113

def k0c0 : Code := { maxStack := 0, maxLocals := 1, code := object_method_1_code, exceptionTable := #[], attributes := #[] }
def k0m0 : Method := { name := "<init>", desc := "()V", sig := { parameters := [], returnType := none }, accessFlags := 1, code := some k0c0 }
/-- java/lang/Object -/
def k0 : Class := { plain "java/lang/Object" none with
  accessFlags := 33
  interfaces := #[]
  cf := some (fileOf pool0 8 #[] #[{ accessFlags := 1, nameIndex := 5, descriptorIndex := 6, attributes := #[] }] 33 0 #[] #[])
  fields := #[]
  methods := #[k0m0]
  instanceTypes := #[]
  staticTypes := #[]
  resolved := Array.replicate 124 none
  statics := none }

def pool1 : Array CpInfo := pool [(2, .class_ 4), (0, .nameAndType 5 6), (0, u "java/lang/Object"), (0, u "<init>"), (0, u "()V"), (0, .class_ 8), (0, u "com/example/ringleader/ringleader/engine/EventQueue"), (0, .methodref 7 3), (0, .methodref 7 11), (0, .nameAndType 12 13), (0, u "isEmpty"), (0, u "()Z"), (0, .methodref 15 16), (0, .class_ 17), (0, .nameAndType 18 19), (0, u "java/lang/Math"), (0, u "min"), (0, u "(II)I"), (0, .methodref 7 21), (0, .nameAndType 22 23), (0, u "add"), (0, u "(DIILjava/lang/Object;)V"), (0, .methodref 25 26), (0, .class_ 27), (0, .nameAndType 28 29), (0, u "java/lang/Integer"), (0, u "valueOf"), (0, u "(I)Ljava/lang/Integer;"), (0, .methodref 7 31), (0, .nameAndType 32 6), (0, u "removeFirst"), (0, .class_ 34), (0, u "com/example/ringleader/ringleader/engine/EventQueueIsEmptyPinLaw"), (2, u "law"), (0, u "(IIIIII)Z")] 3

def k1m0 : Method := { name := "<init>", desc := "()V", sig := { parameters := [], returnType := none }, accessFlags := 1, code := none }
def k1c1 : Code := { maxStack := 6, maxLocals := 10, code := code, exceptionTable := #[], attributes := #[] }
def k1m1 : Method := { name := "law", desc := "(IIIIII)Z", sig := { parameters := [.int, .int, .int, .int, .int, .int], returnType := some .boolean }, accessFlags := 9, code := some k1c1 }
/-- com/example/ringleader/ringleader/engine/EventQueueIsEmptyPinLaw -/
def k1 : Class := { plain "com/example/ringleader/ringleader/engine/EventQueueIsEmptyPinLaw" (some 0) with
  accessFlags := 49
  interfaces := #[]
  cf := some (fileOf pool1 33 #[] #[{ accessFlags := 1, nameIndex := 5, descriptorIndex := 6, attributes := #[] }, { accessFlags := 9, nameIndex := 37, descriptorIndex := 38, attributes := #[] }] 49 2 #[] #[])
  fields := #[]
  methods := #[k1m0, k1m1]
  instanceTypes := #[]
  staticTypes := #[]
  resolved := Array.replicate 42 none
  statics := none }

def pool2 : Array CpInfo := pool [(3, .methodref 4 5), (0, .class_ 6), (0, .nameAndType 7 8), (0, u "java/lang/Object"), (0, u "<init>"), (0, u "()V"), (0, .fieldref 10 11), (0, .class_ 12), (0, .nameAndType 13 14), (0, u "com/example/ringleader/ringleader/engine/EventQueue"), (0, u "at"), (0, u "[D"), (0, .fieldref 10 16), (0, .nameAndType 17 18), (0, u "added"), (0, u "[J"), (0, .fieldref 10 20), (0, .nameAndType 21 22), (0, u "slot"), (0, u "[I"), (0, .fieldref 10 24), (0, .nameAndType 25 22), (0, u "from"), (0, .fieldref 10 27), (0, .nameAndType 28 22), (0, u "to"), (0, .fieldref 10 30), (0, .nameAndType 31 32), (0, u "message"), (0, u "[Ljava/lang/Object;"), (0, .fieldref 10 34), (0, .nameAndType 35 22), (0, u "free"), (0, .methodref 10 37), (0, .nameAndType 38 39), (0, u "fillFree"), (0, u "(I)V"), (0, .fieldref 10 41), (0, .nameAndType 42 43), (0, u "size"), (0, u "I"), (3, .methodref 10 48), (0, .nameAndType 49 50), (0, u "move"), (0, u "(II)V"), (0, .fieldref 10 52), (0, .nameAndType 53 54), (0, u "additions"), (0, u "J"), (0, .methodref 10 56), (0, .nameAndType 57 58), (0, u "put"), (0, u "(IDJI)V"), (0, .methodref 60 61), (0, .class_ 62), (0, .nameAndType 63 64), (0, u "java/lang/Math"), (0, u "min"), (0, u "(II)I"), (0, .methodref 10 66), (0, .nameAndType 67 68), (0, u "isBefore"), (0, u "(DJDJ)Z"), (33, u "ARITY"), (2, u "MAX_EVENTS"), (3, u "add"), (0, u "(DIILjava/lang/Object;)V"), (3, u "isEmpty"), (0, u "()Z"), (8, u "removeFirst")] 18

def k2c0 : Code := { maxStack := 2, maxLocals := 1, code := prog_48_method_1_code, exceptionTable := #[], attributes := #[] }
def k2m0 : Method := { name := "<init>", desc := "()V", sig := { parameters := [], returnType := none }, accessFlags := 0, code := some k2c0 }
def k2c1 : Code := { maxStack := 11, maxLocals := 9, code := prog_48_method_2_code, exceptionTable := #[], attributes := #[] }
def k2m1 : Method := { name := "add", desc := "(DIILjava/lang/Object;)V", sig := { parameters := [.double, .int, .int, (.object "java/lang/Object")], returnType := none }, accessFlags := 0, code := some k2c1 }
def k2c2 : Code := { maxStack := 1, maxLocals := 1, code := prog_48_method_3_code, exceptionTable := #[], attributes := #[] }
def k2m2 : Method := { name := "isEmpty", desc := "()Z", sig := { parameters := [], returnType := some .boolean }, accessFlags := 0, code := some k2c2 }
def k2c3 : Code := { maxStack := 8, maxLocals := 12, code := prog_48_method_8_code, exceptionTable := #[], attributes := #[] }
def k2m3 : Method := { name := "removeFirst", desc := "()V", sig := { parameters := [], returnType := none }, accessFlags := 0, code := some k2c3 }
def k2c4 : Code := { maxStack := 4, maxLocals := 8, code := prog_48_method_9_code, exceptionTable := #[], attributes := #[] }
def k2m4 : Method := { name := "isBefore", desc := "(DJDJ)Z", sig := { parameters := [.double, .long, .double, .long], returnType := some .boolean }, accessFlags := 10, code := some k2c4 }
def k2c5 : Code := { maxStack := 8, maxLocals := 3, code := prog_48_method_10_code, exceptionTable := #[], attributes := #[] }
def k2m5 : Method := { name := "move", desc := "(II)V", sig := { parameters := [.int, .int], returnType := none }, accessFlags := 2, code := some k2c5 }
def k2c6 : Code := { maxStack := 4, maxLocals := 7, code := prog_48_method_11_code, exceptionTable := #[], attributes := #[] }
def k2m6 : Method := { name := "put", desc := "(IDJI)V", sig := { parameters := [.int, .double, .long, .int], returnType := none }, accessFlags := 2, code := some k2c6 }
def k2c7 : Code := { maxStack := 3, maxLocals := 3, code := prog_48_method_13_code, exceptionTable := #[], attributes := #[] }
def k2m7 : Method := { name := "fillFree", desc := "(I)V", sig := { parameters := [.int], returnType := none }, accessFlags := 2, code := some k2c7 }
/-- com/example/ringleader/ringleader/engine/EventQueue -/
def k2 : Class := { plain "com/example/ringleader/ringleader/engine/EventQueue" (some 0) with
  accessFlags := 32
  interfaces := #[]
  cf := some (fileOf pool2 10 #[] #[{ accessFlags := 0, nameIndex := 7, descriptorIndex := 8, attributes := #[] }, { accessFlags := 0, nameIndex := 109, descriptorIndex := 110, attributes := #[] }, { accessFlags := 0, nameIndex := 114, descriptorIndex := 115, attributes := #[] }, { accessFlags := 0, nameIndex := 124, descriptorIndex := 8, attributes := #[] }, { accessFlags := 10, nameIndex := 67, descriptorIndex := 68, attributes := #[] }, { accessFlags := 2, nameIndex := 49, descriptorIndex := 50, attributes := #[] }, { accessFlags := 2, nameIndex := 57, descriptorIndex := 58, attributes := #[] }, { accessFlags := 2, nameIndex := 38, descriptorIndex := 39, attributes := #[] }] 32 4 #[] #[{ accessFlags := 26, nameIndex := 102, descriptorIndex := 43, attributes := #[] }, { accessFlags := 26, nameIndex := 105, descriptorIndex := 43, attributes := #[] }, { accessFlags := 2, nameIndex := 13, descriptorIndex := 14, attributes := #[] }, { accessFlags := 2, nameIndex := 17, descriptorIndex := 18, attributes := #[] }, { accessFlags := 2, nameIndex := 21, descriptorIndex := 22, attributes := #[] }, { accessFlags := 2, nameIndex := 25, descriptorIndex := 22, attributes := #[] }, { accessFlags := 2, nameIndex := 28, descriptorIndex := 22, attributes := #[] }, { accessFlags := 2, nameIndex := 31, descriptorIndex := 32, attributes := #[] }, { accessFlags := 2, nameIndex := 35, descriptorIndex := 22, attributes := #[] }, { accessFlags := 2, nameIndex := 42, descriptorIndex := 43, attributes := #[] }, { accessFlags := 2, nameIndex := 53, descriptorIndex := 54, attributes := #[] }])
  fields := #[{ name := "ARITY", type := .int, accessFlags := 26, slot := 0, constantValue := 0 }, { name := "MAX_EVENTS", type := .int, accessFlags := 26, slot := 1, constantValue := 0 }, { name := "at", type := (.array .double), accessFlags := 2, slot := 0, constantValue := 0 }, { name := "added", type := (.array .long), accessFlags := 2, slot := 1, constantValue := 0 }, { name := "slot", type := (.array .int), accessFlags := 2, slot := 2, constantValue := 0 }, { name := "from", type := (.array .int), accessFlags := 2, slot := 3, constantValue := 0 }, { name := "to", type := (.array .int), accessFlags := 2, slot := 4, constantValue := 0 }, { name := "message", type := (.array (.object "java/lang/Object")), accessFlags := 2, slot := 5, constantValue := 0 }, { name := "free", type := (.array .int), accessFlags := 2, slot := 6, constantValue := 0 }, { name := "size", type := .int, accessFlags := 2, slot := 7, constantValue := 0 }, { name := "additions", type := .long, accessFlags := 2, slot := 8, constantValue := 0 }]
  methods := #[k2m0, k2m1, k2m2, k2m3, k2m4, k2m5, k2m6, k2m7]
  instanceTypes := #[(.array .double), (.array .long), (.array .int), (.array .int), (.array .int), (.array (.object "java/lang/Object")), (.array .int), .int, .long]
  staticTypes := #[.int, .int]
  resolved := Array.replicate 143 none
  statics := none }

def pool3 : Array CpInfo := pool [(1, .class_ 2), (0, u "java/lang/Math"), (1, .class_ 6), (1, u "java/lang/Object"), (0, u "<init>"), (0, u "()V"), (89, .class_ 100), (1, u "java/lang/Math$RandomNumberGeneratorHolder"), (71, u "negativeZeroFloatBits"), (0, u "J"), (2, u "negativeZeroDoubleBits"), (24, u "min"), (43, u "$assertionsDisabled"), (0, u "Z"), (88, u "(II)I"), (2, u "twoToTheDoubleScaleDown"), (0, u "D"), (4, u "twoToTheDoubleScaleUp"), (9, u "E"), (3, u "PI"), (2, u "TAU"), (2, u "DEGREES_TO_RADIANS"), (0, u "RADIANS_TO_DEGREES")] 94

def k3m0 : Method := { name := "<init>", desc := "()V", sig := { parameters := [], returnType := none }, accessFlags := 2, code := none }
def k3c1 : Code := { maxStack := 2, maxLocals := 2, code := jdk_29_method_69_code, exceptionTable := #[], attributes := #[] }
def k3m1 : Method := { name := "min", desc := "(II)I", sig := { parameters := [.int, .int], returnType := some .int }, accessFlags := 9, code := some k3c1 }
/-- java/lang/Math -/
def k3 : Class := { plain "java/lang/Math" (some 0) with
  accessFlags := 49
  interfaces := #[]
  cf := some (fileOf pool3 1 #[.nestMembers #[98]] #[{ accessFlags := 2, nameIndex := 7, descriptorIndex := 8, attributes := #[] }, { accessFlags := 9, nameIndex := 201, descriptorIndex := 335, attributes := #[] }] 49 4 #[] #[{ accessFlags := 25, nameIndex := 354, descriptorIndex := 339, attributes := #[] }, { accessFlags := 25, nameIndex := 358, descriptorIndex := 339, attributes := #[] }, { accessFlags := 25, nameIndex := 361, descriptorIndex := 339, attributes := #[] }, { accessFlags := 26, nameIndex := 364, descriptorIndex := 339, attributes := #[] }, { accessFlags := 26, nameIndex := 365, descriptorIndex := 339, attributes := #[] }, { accessFlags := 26, nameIndex := 172, descriptorIndex := 173, attributes := #[] }, { accessFlags := 26, nameIndex := 176, descriptorIndex := 173, attributes := #[] }, { accessFlags := 8, nameIndex := 344, descriptorIndex := 339, attributes := #[] }, { accessFlags := 8, nameIndex := 338, descriptorIndex := 339, attributes := #[] }, { accessFlags := 4120, nameIndex := 245, descriptorIndex := 246, attributes := #[] }])
  fields := #[{ name := "E", type := .double, accessFlags := 25, slot := 0, constantValue := 0 }, { name := "PI", type := .double, accessFlags := 25, slot := 1, constantValue := 0 }, { name := "TAU", type := .double, accessFlags := 25, slot := 2, constantValue := 0 }, { name := "DEGREES_TO_RADIANS", type := .double, accessFlags := 26, slot := 3, constantValue := 0 }, { name := "RADIANS_TO_DEGREES", type := .double, accessFlags := 26, slot := 4, constantValue := 0 }, { name := "negativeZeroFloatBits", type := .long, accessFlags := 26, slot := 5, constantValue := 0 }, { name := "negativeZeroDoubleBits", type := .long, accessFlags := 26, slot := 6, constantValue := 0 }, { name := "twoToTheDoubleScaleUp", type := .double, accessFlags := 8, slot := 7, constantValue := 0 }, { name := "twoToTheDoubleScaleDown", type := .double, accessFlags := 8, slot := 8, constantValue := 0 }, { name := "$assertionsDisabled", type := .boolean, accessFlags := 4120, slot := 9, constantValue := 0 }]
  methods := #[k3m0, k3m1]
  instanceTypes := #[]
  staticTypes := #[.double, .double, .double, .double, .double, .long, .long, .double, .double, .boolean]
  resolved := Array.replicate 460 none
  statics := none }

def pool4 : Array CpInfo := pool [(1, .class_ 2), (0, u "java/io/Serializable"), (0, .class_ 4), (0, u "java/lang/Object")] 2

/-- java/io/Serializable -/
def k4 : Class := { plain "java/io/Serializable" (some 0) with
  accessFlags := 1537
  interfaces := #[]
  cf := some (fileOf pool4 1 #[] #[] 1537 3 #[] #[])
  fields := #[]
  methods := #[]
  instanceTypes := #[]
  staticTypes := #[]
  resolved := Array.replicate 7 none
  statics := none }

def pool5 : Array CpInfo := pool [(1, .methodref 2 3), (0, .class_ 4), (0, .nameAndType 5 6), (0, u "java/lang/Object"), (0, u "<init>"), (0, u "()V"), (1, .class_ 10), (1, u "java/lang/Number"), (2, .class_ 14), (0, u "java/io/Serializable"), (0, u "serialVersionUID"), (0, u "J")] 20

def k5c0 : Code := { maxStack := 1, maxLocals := 1, code := jdk_18_method_1_code, exceptionTable := #[], attributes := #[] }
def k5m0 : Method := { name := "<init>", desc := "()V", sig := { parameters := [], returnType := none }, accessFlags := 1, code := some k5c0 }
/-- java/lang/Number -/
def k5 : Class := { plain "java/lang/Number" (some 0) with
  accessFlags := 1057
  interfaces := #[4]
  cf := some (fileOf pool5 8 #[] #[{ accessFlags := 1, nameIndex := 5, descriptorIndex := 6, attributes := #[] }] 1057 2 #[13] #[{ accessFlags := 26, nameIndex := 15, descriptorIndex := 16, attributes := #[] }])
  fields := #[{ name := "serialVersionUID", type := .long, accessFlags := 26, slot := 0, constantValue := 0 }]
  methods := #[k5m0]
  instanceTypes := #[]
  staticTypes := #[.long]
  resolved := Array.replicate 37 none
  statics := none }

def pool6 : Array CpInfo := pool [(1, .class_ 2), (0, u "java/lang/Comparable"), (0, .class_ 4), (0, u "java/lang/Object")] 7

/-- java/lang/Comparable -/
def k6 : Class := { plain "java/lang/Comparable" (some 0) with
  accessFlags := 1537
  interfaces := #[]
  cf := some (fileOf pool6 1 #[] #[] 1537 3 #[] #[])
  fields := #[]
  methods := #[]
  instanceTypes := #[]
  staticTypes := #[]
  resolved := Array.replicate 12 none
  statics := none }

def pool7 : Array CpInfo := pool [(1, .class_ 2), (0, u "java/lang/constant/Constable"), (0, .class_ 4), (0, u "java/lang/Object")] 6

/-- java/lang/constant/Constable -/
def k7 : Class := { plain "java/lang/constant/Constable" (some 0) with
  accessFlags := 1537
  interfaces := #[]
  cf := some (fileOf pool7 1 #[] #[] 1537 3 #[] #[])
  fields := #[]
  methods := #[]
  instanceTypes := #[]
  staticTypes := #[]
  resolved := Array.replicate 11 none
  statics := none }

def pool8 : Array CpInfo := pool [(1, .class_ 2), (0, u "java/lang/constant/ConstantDesc"), (0, .class_ 4), (0, u "java/lang/Object")] 32

/-- java/lang/constant/ConstantDesc -/
def k8 : Class := { plain "java/lang/constant/ConstantDesc" (some 0) with
  accessFlags := 1537
  interfaces := #[]
  cf := some (fileOf pool8 1 #[] #[] 1537 3 #[] #[])
  fields := #[]
  methods := #[]
  instanceTypes := #[]
  staticTypes := #[]
  resolved := Array.replicate 37 none
  statics := none }

def pool9 : Array CpInfo := pool [(1, .class_ 2), (0, u "java/lang/Integer"), (16, u "digits"), (0, u "[C"), (46, u "<init>"), (17, u "DigitOnes"), (0, u "[B"), (2, u "DigitTens"), (10, .nameAndType 67 101), (0, u "()V"), (85, u "valueOf"), (0, u "(I)Ljava/lang/Integer;"), (0, .class_ 190), (0, u "java/lang/Integer$IntegerCache"), (0, .fieldref 189 192), (0, .nameAndType 193 194), (0, u "high"), (0, u "I"), (0, .fieldref 189 196), (0, .nameAndType 197 198), (0, u "cache"), (0, u "[Ljava/lang/Integer;"), (0, .methodref 1 200), (0, .nameAndType 67 201), (0, u "(I)V"), (0, .methodref 203 100), (0, .class_ 204), (0, u "java/lang/Number"), (0, .fieldref 1 206), (0, .nameAndType 207 194), (0, u "value"), (94, u "TYPE"), (0, u "Ljava/lang/Class;"), (0, .class_ 305), (0, u "java/lang/Comparable"), (0, .class_ 307), (0, u "java/lang/constant/Constable"), (0, .class_ 309), (0, u "java/lang/constant/ConstantDesc"), (0, u "MIN_VALUE"), (1, u "MAX_VALUE"), (3, u "SIZE"), (1, u "BYTES"), (1, u "serialVersionUID"), (0, u "J")] 131

def k9c0 : Code := { maxStack := 3, maxLocals := 1, code := jdk_33_method_22_code, exceptionTable := #[], attributes := #[] }
def k9m0 : Method := { name := "valueOf", desc := "(I)Ljava/lang/Integer;", sig := { parameters := [.int], returnType := some (.object "java/lang/Integer") }, accessFlags := 9, code := some k9c0 }
def k9c1 : Code := { maxStack := 2, maxLocals := 2, code := jdk_33_method_23_code, exceptionTable := #[], attributes := #[] }
def k9m1 : Method := { name := "<init>", desc := "(I)V", sig := { parameters := [.int], returnType := none }, accessFlags := 1, code := some k9c1 }
/-- java/lang/Integer -/
def k9 : Class := { plain "java/lang/Integer" (some 5) with
  accessFlags := 49
  interfaces := #[6, 7, 8]
  cf := some (fileOf pool9 1 #[.nestMembers #[189]] #[{ accessFlags := 9, nameIndex := 187, descriptorIndex := 188, attributes := #[] }, { accessFlags := 1, nameIndex := 67, descriptorIndex := 201, attributes := #[] }] 49 203 #[304, 306, 308] #[{ accessFlags := 25, nameIndex := 310, descriptorIndex := 194, attributes := #[] }, { accessFlags := 25, nameIndex := 312, descriptorIndex := 194, attributes := #[] }, { accessFlags := 25, nameIndex := 302, descriptorIndex := 303, attributes := #[] }, { accessFlags := 24, nameIndex := 19, descriptorIndex := 20, attributes := #[] }, { accessFlags := 24, nameIndex := 89, descriptorIndex := 86, attributes := #[] }, { accessFlags := 24, nameIndex := 85, descriptorIndex := 86, attributes := #[] }, { accessFlags := 18, nameIndex := 207, descriptorIndex := 194, attributes := #[] }, { accessFlags := 25, nameIndex := 316, descriptorIndex := 194, attributes := #[] }, { accessFlags := 25, nameIndex := 318, descriptorIndex := 194, attributes := #[] }, { accessFlags := 26, nameIndex := 320, descriptorIndex := 321, attributes := #[] }])
  fields := #[{ name := "MIN_VALUE", type := .int, accessFlags := 25, slot := 0, constantValue := 0 }, { name := "MAX_VALUE", type := .int, accessFlags := 25, slot := 1, constantValue := 0 }, { name := "TYPE", type := (.object "java/lang/Class"), accessFlags := 25, slot := 2, constantValue := 0 }, { name := "digits", type := (.array .char), accessFlags := 24, slot := 3, constantValue := 0 }, { name := "DigitTens", type := (.array .byte), accessFlags := 24, slot := 4, constantValue := 0 }, { name := "DigitOnes", type := (.array .byte), accessFlags := 24, slot := 5, constantValue := 0 }, { name := "value", type := .int, accessFlags := 18, slot := 0, constantValue := 0 }, { name := "SIZE", type := .int, accessFlags := 25, slot := 6, constantValue := 0 }, { name := "BYTES", type := .int, accessFlags := 25, slot := 7, constantValue := 0 }, { name := "serialVersionUID", type := .long, accessFlags := 26, slot := 8, constantValue := 0 }]
  methods := #[k9m0, k9m1]
  instanceTypes := #[.int]
  staticTypes := #[.int, .int, (.object "java/lang/Class"), (.array .char), (.array .byte), (.array .byte), .int, .int, .long]
  resolved := Array.replicate 453 none
  statics := none }

def pool10 : Array CpInfo := pool [(2, .class_ 4), (1, u "java/lang/Object"), (0, u "<init>"), (0, u "()V"), (0, .class_ 8), (0, u "java/lang/Integer"), (7, .class_ 18), (1, u "java/lang/Integer$IntegerCache"), (0, u "$assertionsDisabled"), (0, u "Z"), (26, u "high"), (0, u "I"), (8, u "archivedCache"), (0, u "[Ljava/lang/Integer;"), (12, u "cache"), (0, u "low")] 27

def k10m0 : Method := { name := "<init>", desc := "()V", sig := { parameters := [], returnType := none }, accessFlags := 2, code := none }
/-- java/lang/Integer$IntegerCache -/
def k10 : Class := { plain "java/lang/Integer$IntegerCache" (some 0) with
  accessFlags := 48
  interfaces := #[]
  cf := some (fileOf pool10 16 #[.nestHost 7] #[{ accessFlags := 2, nameIndex := 5, descriptorIndex := 6, attributes := #[] }] 48 2 #[] #[{ accessFlags := 24, nameIndex := 72, descriptorIndex := 48, attributes := #[] }, { accessFlags := 24, nameIndex := 47, descriptorIndex := 48, attributes := #[] }, { accessFlags := 24, nameIndex := 71, descriptorIndex := 58, attributes := #[] }, { accessFlags := 8, nameIndex := 57, descriptorIndex := 58, attributes := #[] }, { accessFlags := 4120, nameIndex := 19, descriptorIndex := 20, attributes := #[] }])
  fields := #[{ name := "low", type := .int, accessFlags := 24, slot := 0, constantValue := 0 }, { name := "high", type := .int, accessFlags := 24, slot := 1, constantValue := 0 }, { name := "cache", type := (.array (.object "java/lang/Integer")), accessFlags := 24, slot := 2, constantValue := 0 }, { name := "archivedCache", type := (.array (.object "java/lang/Integer")), accessFlags := 8, slot := 3, constantValue := 0 }, { name := "$assertionsDisabled", type := .boolean, accessFlags := 4120, slot := 4, constantValue := 0 }]
  methods := #[k10m0]
  instanceTypes := #[]
  staticTypes := #[.int, .int, (.array (.object "java/lang/Integer")), (.array (.object "java/lang/Integer")), .boolean]
  resolved := Array.replicate 100 none
  statics := some 0 }

def pool11 : Array CpInfo := pool [(1, u "java/lang/Cloneable"), (0, .class_ 1), (0, u "java/lang/Object"), (0, .class_ 3)] 3

/-- java/lang/Cloneable -/
def k11 : Class := { plain "java/lang/Cloneable" (some 0) with
  accessFlags := 1537
  interfaces := #[]
  cf := some (fileOf pool11 2 #[] #[] 1537 4 #[] #[])
  fields := #[]
  methods := #[]
  instanceTypes := #[]
  staticTypes := #[]
  resolved := Array.replicate 8 none
  statics := none }

/-- the primitive byte -/
def k12 : Class := { plain "byte" none with kind := .primitive 'B', accessFlags := 0x411 }
/-- [B -/
def k13 : Class := { plain "[B" (some 0) with kind := .array 12 .byte, interfaces := #[11, 4], accessFlags := 1041 }

/-- the primitive double -/
def k14 : Class := { plain "double" none with kind := .primitive 'D', accessFlags := 0x411 }
/-- [D -/
def k15 : Class := { plain "[D" (some 0) with kind := .array 14 .double, interfaces := #[11, 4], accessFlags := 1041 }

/-- the primitive int -/
def k16 : Class := { plain "int" none with kind := .primitive 'I', accessFlags := 0x411 }
/-- [I -/
def k17 : Class := { plain "[I" (some 0) with kind := .array 16 .int, interfaces := #[11, 4], accessFlags := 1041 }

/-- the primitive long -/
def k18 : Class := { plain "long" none with kind := .primitive 'J', accessFlags := 0x411 }
/-- [J -/
def k19 : Class := { plain "[J" (some 0) with kind := .array 18 .long, interfaces := #[11, 4], accessFlags := 1041 }

/-- [Ljava/lang/Integer; -/
def k20 : Class := { plain "[Ljava/lang/Integer;" (some 0) with kind := .array 9 (.object "java/lang/Integer"), interfaces := #[11, 4], accessFlags := 1041 }

/-- [Ljava/lang/Object; -/
def k21 : Class := { plain "[Ljava/lang/Object;" (some 0) with kind := .array 0 (.object "java/lang/Object"), interfaces := #[11, 4], accessFlags := 1041 }

def heap : Heap := #[{ cls := 10, slots := #[.int 0, .int 127, .ref 257, .null, .int 0], vm := .statics 10 },
  { cls := 9, slots := #[.int (-128)], vm := .none },
  { cls := 9, slots := #[.int (-127)], vm := .none },
  { cls := 9, slots := #[.int (-126)], vm := .none },
  { cls := 9, slots := #[.int (-125)], vm := .none },
  { cls := 9, slots := #[.int (-124)], vm := .none },
  { cls := 9, slots := #[.int (-123)], vm := .none },
  { cls := 9, slots := #[.int (-122)], vm := .none },
  { cls := 9, slots := #[.int (-121)], vm := .none },
  { cls := 9, slots := #[.int (-120)], vm := .none },
  { cls := 9, slots := #[.int (-119)], vm := .none },
  { cls := 9, slots := #[.int (-118)], vm := .none },
  { cls := 9, slots := #[.int (-117)], vm := .none },
  { cls := 9, slots := #[.int (-116)], vm := .none },
  { cls := 9, slots := #[.int (-115)], vm := .none },
  { cls := 9, slots := #[.int (-114)], vm := .none },
  { cls := 9, slots := #[.int (-113)], vm := .none },
  { cls := 9, slots := #[.int (-112)], vm := .none },
  { cls := 9, slots := #[.int (-111)], vm := .none },
  { cls := 9, slots := #[.int (-110)], vm := .none },
  { cls := 9, slots := #[.int (-109)], vm := .none },
  { cls := 9, slots := #[.int (-108)], vm := .none },
  { cls := 9, slots := #[.int (-107)], vm := .none },
  { cls := 9, slots := #[.int (-106)], vm := .none },
  { cls := 9, slots := #[.int (-105)], vm := .none },
  { cls := 9, slots := #[.int (-104)], vm := .none },
  { cls := 9, slots := #[.int (-103)], vm := .none },
  { cls := 9, slots := #[.int (-102)], vm := .none },
  { cls := 9, slots := #[.int (-101)], vm := .none },
  { cls := 9, slots := #[.int (-100)], vm := .none },
  { cls := 9, slots := #[.int (-99)], vm := .none },
  { cls := 9, slots := #[.int (-98)], vm := .none },
  { cls := 9, slots := #[.int (-97)], vm := .none },
  { cls := 9, slots := #[.int (-96)], vm := .none },
  { cls := 9, slots := #[.int (-95)], vm := .none },
  { cls := 9, slots := #[.int (-94)], vm := .none },
  { cls := 9, slots := #[.int (-93)], vm := .none },
  { cls := 9, slots := #[.int (-92)], vm := .none },
  { cls := 9, slots := #[.int (-91)], vm := .none },
  { cls := 9, slots := #[.int (-90)], vm := .none },
  { cls := 9, slots := #[.int (-89)], vm := .none },
  { cls := 9, slots := #[.int (-88)], vm := .none },
  { cls := 9, slots := #[.int (-87)], vm := .none },
  { cls := 9, slots := #[.int (-86)], vm := .none },
  { cls := 9, slots := #[.int (-85)], vm := .none },
  { cls := 9, slots := #[.int (-84)], vm := .none },
  { cls := 9, slots := #[.int (-83)], vm := .none },
  { cls := 9, slots := #[.int (-82)], vm := .none },
  { cls := 9, slots := #[.int (-81)], vm := .none },
  { cls := 9, slots := #[.int (-80)], vm := .none },
  { cls := 9, slots := #[.int (-79)], vm := .none },
  { cls := 9, slots := #[.int (-78)], vm := .none },
  { cls := 9, slots := #[.int (-77)], vm := .none },
  { cls := 9, slots := #[.int (-76)], vm := .none },
  { cls := 9, slots := #[.int (-75)], vm := .none },
  { cls := 9, slots := #[.int (-74)], vm := .none },
  { cls := 9, slots := #[.int (-73)], vm := .none },
  { cls := 9, slots := #[.int (-72)], vm := .none },
  { cls := 9, slots := #[.int (-71)], vm := .none },
  { cls := 9, slots := #[.int (-70)], vm := .none },
  { cls := 9, slots := #[.int (-69)], vm := .none },
  { cls := 9, slots := #[.int (-68)], vm := .none },
  { cls := 9, slots := #[.int (-67)], vm := .none },
  { cls := 9, slots := #[.int (-66)], vm := .none },
  { cls := 9, slots := #[.int (-65)], vm := .none },
  { cls := 9, slots := #[.int (-64)], vm := .none },
  { cls := 9, slots := #[.int (-63)], vm := .none },
  { cls := 9, slots := #[.int (-62)], vm := .none },
  { cls := 9, slots := #[.int (-61)], vm := .none },
  { cls := 9, slots := #[.int (-60)], vm := .none },
  { cls := 9, slots := #[.int (-59)], vm := .none },
  { cls := 9, slots := #[.int (-58)], vm := .none },
  { cls := 9, slots := #[.int (-57)], vm := .none },
  { cls := 9, slots := #[.int (-56)], vm := .none },
  { cls := 9, slots := #[.int (-55)], vm := .none },
  { cls := 9, slots := #[.int (-54)], vm := .none },
  { cls := 9, slots := #[.int (-53)], vm := .none },
  { cls := 9, slots := #[.int (-52)], vm := .none },
  { cls := 9, slots := #[.int (-51)], vm := .none },
  { cls := 9, slots := #[.int (-50)], vm := .none },
  { cls := 9, slots := #[.int (-49)], vm := .none },
  { cls := 9, slots := #[.int (-48)], vm := .none },
  { cls := 9, slots := #[.int (-47)], vm := .none },
  { cls := 9, slots := #[.int (-46)], vm := .none },
  { cls := 9, slots := #[.int (-45)], vm := .none },
  { cls := 9, slots := #[.int (-44)], vm := .none },
  { cls := 9, slots := #[.int (-43)], vm := .none },
  { cls := 9, slots := #[.int (-42)], vm := .none },
  { cls := 9, slots := #[.int (-41)], vm := .none },
  { cls := 9, slots := #[.int (-40)], vm := .none },
  { cls := 9, slots := #[.int (-39)], vm := .none },
  { cls := 9, slots := #[.int (-38)], vm := .none },
  { cls := 9, slots := #[.int (-37)], vm := .none },
  { cls := 9, slots := #[.int (-36)], vm := .none },
  { cls := 9, slots := #[.int (-35)], vm := .none },
  { cls := 9, slots := #[.int (-34)], vm := .none },
  { cls := 9, slots := #[.int (-33)], vm := .none },
  { cls := 9, slots := #[.int (-32)], vm := .none },
  { cls := 9, slots := #[.int (-31)], vm := .none },
  { cls := 9, slots := #[.int (-30)], vm := .none },
  { cls := 9, slots := #[.int (-29)], vm := .none },
  { cls := 9, slots := #[.int (-28)], vm := .none },
  { cls := 9, slots := #[.int (-27)], vm := .none },
  { cls := 9, slots := #[.int (-26)], vm := .none },
  { cls := 9, slots := #[.int (-25)], vm := .none },
  { cls := 9, slots := #[.int (-24)], vm := .none },
  { cls := 9, slots := #[.int (-23)], vm := .none },
  { cls := 9, slots := #[.int (-22)], vm := .none },
  { cls := 9, slots := #[.int (-21)], vm := .none },
  { cls := 9, slots := #[.int (-20)], vm := .none },
  { cls := 9, slots := #[.int (-19)], vm := .none },
  { cls := 9, slots := #[.int (-18)], vm := .none },
  { cls := 9, slots := #[.int (-17)], vm := .none },
  { cls := 9, slots := #[.int (-16)], vm := .none },
  { cls := 9, slots := #[.int (-15)], vm := .none },
  { cls := 9, slots := #[.int (-14)], vm := .none },
  { cls := 9, slots := #[.int (-13)], vm := .none },
  { cls := 9, slots := #[.int (-12)], vm := .none },
  { cls := 9, slots := #[.int (-11)], vm := .none },
  { cls := 9, slots := #[.int (-10)], vm := .none },
  { cls := 9, slots := #[.int (-9)], vm := .none },
  { cls := 9, slots := #[.int (-8)], vm := .none },
  { cls := 9, slots := #[.int (-7)], vm := .none },
  { cls := 9, slots := #[.int (-6)], vm := .none },
  { cls := 9, slots := #[.int (-5)], vm := .none },
  { cls := 9, slots := #[.int (-4)], vm := .none },
  { cls := 9, slots := #[.int (-3)], vm := .none },
  { cls := 9, slots := #[.int (-2)], vm := .none },
  { cls := 9, slots := #[.int (-1)], vm := .none },
  { cls := 9, slots := #[.int 0], vm := .none },
  { cls := 9, slots := #[.int 1], vm := .none },
  { cls := 9, slots := #[.int 2], vm := .none },
  { cls := 9, slots := #[.int 3], vm := .none },
  { cls := 9, slots := #[.int 4], vm := .none },
  { cls := 9, slots := #[.int 5], vm := .none },
  { cls := 9, slots := #[.int 6], vm := .none },
  { cls := 9, slots := #[.int 7], vm := .none },
  { cls := 9, slots := #[.int 8], vm := .none },
  { cls := 9, slots := #[.int 9], vm := .none },
  { cls := 9, slots := #[.int 10], vm := .none },
  { cls := 9, slots := #[.int 11], vm := .none },
  { cls := 9, slots := #[.int 12], vm := .none },
  { cls := 9, slots := #[.int 13], vm := .none },
  { cls := 9, slots := #[.int 14], vm := .none },
  { cls := 9, slots := #[.int 15], vm := .none },
  { cls := 9, slots := #[.int 16], vm := .none },
  { cls := 9, slots := #[.int 17], vm := .none },
  { cls := 9, slots := #[.int 18], vm := .none },
  { cls := 9, slots := #[.int 19], vm := .none },
  { cls := 9, slots := #[.int 20], vm := .none },
  { cls := 9, slots := #[.int 21], vm := .none },
  { cls := 9, slots := #[.int 22], vm := .none },
  { cls := 9, slots := #[.int 23], vm := .none },
  { cls := 9, slots := #[.int 24], vm := .none },
  { cls := 9, slots := #[.int 25], vm := .none },
  { cls := 9, slots := #[.int 26], vm := .none },
  { cls := 9, slots := #[.int 27], vm := .none },
  { cls := 9, slots := #[.int 28], vm := .none },
  { cls := 9, slots := #[.int 29], vm := .none },
  { cls := 9, slots := #[.int 30], vm := .none },
  { cls := 9, slots := #[.int 31], vm := .none },
  { cls := 9, slots := #[.int 32], vm := .none },
  { cls := 9, slots := #[.int 33], vm := .none },
  { cls := 9, slots := #[.int 34], vm := .none },
  { cls := 9, slots := #[.int 35], vm := .none },
  { cls := 9, slots := #[.int 36], vm := .none },
  { cls := 9, slots := #[.int 37], vm := .none },
  { cls := 9, slots := #[.int 38], vm := .none },
  { cls := 9, slots := #[.int 39], vm := .none },
  { cls := 9, slots := #[.int 40], vm := .none },
  { cls := 9, slots := #[.int 41], vm := .none },
  { cls := 9, slots := #[.int 42], vm := .none },
  { cls := 9, slots := #[.int 43], vm := .none },
  { cls := 9, slots := #[.int 44], vm := .none },
  { cls := 9, slots := #[.int 45], vm := .none },
  { cls := 9, slots := #[.int 46], vm := .none },
  { cls := 9, slots := #[.int 47], vm := .none },
  { cls := 9, slots := #[.int 48], vm := .none },
  { cls := 9, slots := #[.int 49], vm := .none },
  { cls := 9, slots := #[.int 50], vm := .none },
  { cls := 9, slots := #[.int 51], vm := .none },
  { cls := 9, slots := #[.int 52], vm := .none },
  { cls := 9, slots := #[.int 53], vm := .none },
  { cls := 9, slots := #[.int 54], vm := .none },
  { cls := 9, slots := #[.int 55], vm := .none },
  { cls := 9, slots := #[.int 56], vm := .none },
  { cls := 9, slots := #[.int 57], vm := .none },
  { cls := 9, slots := #[.int 58], vm := .none },
  { cls := 9, slots := #[.int 59], vm := .none },
  { cls := 9, slots := #[.int 60], vm := .none },
  { cls := 9, slots := #[.int 61], vm := .none },
  { cls := 9, slots := #[.int 62], vm := .none },
  { cls := 9, slots := #[.int 63], vm := .none },
  { cls := 9, slots := #[.int 64], vm := .none },
  { cls := 9, slots := #[.int 65], vm := .none },
  { cls := 9, slots := #[.int 66], vm := .none },
  { cls := 9, slots := #[.int 67], vm := .none },
  { cls := 9, slots := #[.int 68], vm := .none },
  { cls := 9, slots := #[.int 69], vm := .none },
  { cls := 9, slots := #[.int 70], vm := .none },
  { cls := 9, slots := #[.int 71], vm := .none },
  { cls := 9, slots := #[.int 72], vm := .none },
  { cls := 9, slots := #[.int 73], vm := .none },
  { cls := 9, slots := #[.int 74], vm := .none },
  { cls := 9, slots := #[.int 75], vm := .none },
  { cls := 9, slots := #[.int 76], vm := .none },
  { cls := 9, slots := #[.int 77], vm := .none },
  { cls := 9, slots := #[.int 78], vm := .none },
  { cls := 9, slots := #[.int 79], vm := .none },
  { cls := 9, slots := #[.int 80], vm := .none },
  { cls := 9, slots := #[.int 81], vm := .none },
  { cls := 9, slots := #[.int 82], vm := .none },
  { cls := 9, slots := #[.int 83], vm := .none },
  { cls := 9, slots := #[.int 84], vm := .none },
  { cls := 9, slots := #[.int 85], vm := .none },
  { cls := 9, slots := #[.int 86], vm := .none },
  { cls := 9, slots := #[.int 87], vm := .none },
  { cls := 9, slots := #[.int 88], vm := .none },
  { cls := 9, slots := #[.int 89], vm := .none },
  { cls := 9, slots := #[.int 90], vm := .none },
  { cls := 9, slots := #[.int 91], vm := .none },
  { cls := 9, slots := #[.int 92], vm := .none },
  { cls := 9, slots := #[.int 93], vm := .none },
  { cls := 9, slots := #[.int 94], vm := .none },
  { cls := 9, slots := #[.int 95], vm := .none },
  { cls := 9, slots := #[.int 96], vm := .none },
  { cls := 9, slots := #[.int 97], vm := .none },
  { cls := 9, slots := #[.int 98], vm := .none },
  { cls := 9, slots := #[.int 99], vm := .none },
  { cls := 9, slots := #[.int 100], vm := .none },
  { cls := 9, slots := #[.int 101], vm := .none },
  { cls := 9, slots := #[.int 102], vm := .none },
  { cls := 9, slots := #[.int 103], vm := .none },
  { cls := 9, slots := #[.int 104], vm := .none },
  { cls := 9, slots := #[.int 105], vm := .none },
  { cls := 9, slots := #[.int 106], vm := .none },
  { cls := 9, slots := #[.int 107], vm := .none },
  { cls := 9, slots := #[.int 108], vm := .none },
  { cls := 9, slots := #[.int 109], vm := .none },
  { cls := 9, slots := #[.int 110], vm := .none },
  { cls := 9, slots := #[.int 111], vm := .none },
  { cls := 9, slots := #[.int 112], vm := .none },
  { cls := 9, slots := #[.int 113], vm := .none },
  { cls := 9, slots := #[.int 114], vm := .none },
  { cls := 9, slots := #[.int 115], vm := .none },
  { cls := 9, slots := #[.int 116], vm := .none },
  { cls := 9, slots := #[.int 117], vm := .none },
  { cls := 9, slots := #[.int 118], vm := .none },
  { cls := 9, slots := #[.int 119], vm := .none },
  { cls := 9, slots := #[.int 120], vm := .none },
  { cls := 9, slots := #[.int 121], vm := .none },
  { cls := 9, slots := #[.int 122], vm := .none },
  { cls := 9, slots := #[.int 123], vm := .none },
  { cls := 9, slots := #[.int 124], vm := .none },
  { cls := 9, slots := #[.int 125], vm := .none },
  { cls := 9, slots := #[.int 126], vm := .none },
  { cls := 9, slots := #[.int 127], vm := .none },
  { cls := 20, slots := #[.ref 1, .ref 2, .ref 3, .ref 4, .ref 5, .ref 6, .ref 7, .ref 8, .ref 9, .ref 10, .ref 11, .ref 12, .ref 13, .ref 14, .ref 15, .ref 16, .ref 17, .ref 18, .ref 19, .ref 20, .ref 21, .ref 22, .ref 23, .ref 24, .ref 25, .ref 26, .ref 27, .ref 28, .ref 29, .ref 30, .ref 31, .ref 32, .ref 33, .ref 34, .ref 35, .ref 36, .ref 37, .ref 38, .ref 39, .ref 40, .ref 41, .ref 42, .ref 43, .ref 44, .ref 45, .ref 46, .ref 47, .ref 48, .ref 49, .ref 50, .ref 51, .ref 52, .ref 53, .ref 54, .ref 55, .ref 56, .ref 57, .ref 58, .ref 59, .ref 60, .ref 61, .ref 62, .ref 63, .ref 64, .ref 65, .ref 66, .ref 67, .ref 68, .ref 69, .ref 70, .ref 71, .ref 72, .ref 73, .ref 74, .ref 75, .ref 76, .ref 77, .ref 78, .ref 79, .ref 80, .ref 81, .ref 82, .ref 83, .ref 84, .ref 85, .ref 86, .ref 87, .ref 88, .ref 89, .ref 90, .ref 91, .ref 92, .ref 93, .ref 94, .ref 95, .ref 96, .ref 97, .ref 98, .ref 99, .ref 100, .ref 101, .ref 102, .ref 103, .ref 104, .ref 105, .ref 106, .ref 107, .ref 108, .ref 109, .ref 110, .ref 111, .ref 112, .ref 113, .ref 114, .ref 115, .ref 116, .ref 117, .ref 118, .ref 119, .ref 120, .ref 121, .ref 122, .ref 123, .ref 124, .ref 125, .ref 126, .ref 127, .ref 128, .ref 129, .ref 130, .ref 131, .ref 132, .ref 133, .ref 134, .ref 135, .ref 136, .ref 137, .ref 138, .ref 139, .ref 140, .ref 141, .ref 142, .ref 143, .ref 144, .ref 145, .ref 146, .ref 147, .ref 148, .ref 149, .ref 150, .ref 151, .ref 152, .ref 153, .ref 154, .ref 155, .ref 156, .ref 157, .ref 158, .ref 159, .ref 160, .ref 161, .ref 162, .ref 163, .ref 164, .ref 165, .ref 166, .ref 167, .ref 168, .ref 169, .ref 170, .ref 171, .ref 172, .ref 173, .ref 174, .ref 175, .ref 176, .ref 177, .ref 178, .ref 179, .ref 180, .ref 181, .ref 182, .ref 183, .ref 184, .ref 185, .ref 186, .ref 187, .ref 188, .ref 189, .ref 190, .ref 191, .ref 192, .ref 193, .ref 194, .ref 195, .ref 196, .ref 197, .ref 198, .ref 199, .ref 200, .ref 201, .ref 202, .ref 203, .ref 204, .ref 205, .ref 206, .ref 207, .ref 208, .ref 209, .ref 210, .ref 211, .ref 212, .ref 213, .ref 214, .ref 215, .ref 216, .ref 217, .ref 218, .ref 219, .ref 220, .ref 221, .ref 222, .ref 223, .ref 224, .ref 225, .ref 226, .ref 227, .ref 228, .ref 229, .ref 230, .ref 231, .ref 232, .ref 233, .ref 234, .ref 235, .ref 236, .ref 237, .ref 238, .ref 239, .ref 240, .ref 241, .ref 242, .ref 243, .ref 244, .ref 245, .ref 246, .ref 247, .ref 248, .ref 249, .ref 250, .ref 251, .ref 252, .ref 253, .ref 254, .ref 255, .ref 256], vm := .none }]
def classes : Array Class := #[k0, k1, k2, k3, k4, k5, k6, k7, k8, k9, k10, k11, k12, k13, k14, k15, k16, k17, k18, k19, k20, k21]
def interned : List (Array UInt16 × Addr) := []
def slotsUsed : Nat := 517
def theMethod : MethodId := ⟨1, 1⟩
def args0 : Array Value := #[.int 5, .int 4, .int 3, .int 1, .int 2, .int 3]
def aboutOver (below : List Frame) : State where
  vm := { classes := classes, interned := interned.toArray }
  heap := heap
  slotsUsed := slotsUsed
  threads := #[{ frames := .invoking theMethod args0 :: below }]
def below0 : List Frame := [.native { method := ⟨0, 0⟩, args := #[] }]
def about1 : State := aboutOver below0
def p0 : Program := .bare "" "" ""
def e0 : Env := launch0.env 0 0 0
theorem w_frames : about1.frames = Frame.invoking theMethod args0 :: below0 := rfl
set_option maxRecDepth 65536 in
theorem w_args : argsFit about1.vm theMethod args0 = true := by decide +kernel
set_option maxRecDepth 65536 in
theorem w_heap : heapFits about1 = true := by decide +kernel
set_option maxRecDepth 65536 in
theorem w_runnable : about1.curStatus? = some .runnable := by decide +kernel
set_option maxRecDepth 65536 in
theorem w_alone : about1.alone = true := by decide +kernel
set_option maxRecDepth 65536 in
theorem w_named : about1.methodNamed? x = some theMethod := by decide +kernel
set_option maxRecDepth 65536 in
theorem w_hears : about1.hears theMethod below0 = true := by decide +kernel
set_option maxRecDepth 65536 in
theorem w_ripe : about1.ripe theMethod args0 below0 = true := by decide +kernel
theorem w_running : about1.status = .running := rfl
set_option maxRecDepth 65536 in
theorem w_room : about1.hasRoom e0.platform room_1 = true :=
  launch0.hasRoom_least _ room_1 (by decide +kernel) (by decide +kernel) (by decide +kernel) (by decide +kernel) (by decide +kernel) (by decide +kernel)
theorem allAtoms_all (ts : List Jvm.Cond) (a : Array Jvm.Value) (st : Jvm.State) : (allAtoms ts).before a st = ts.all (fun c => c.before a st) := by
  induction ts with
  | nil => rfl
  | cons c t ih =>
    show (Jvm.Cond.and c (allAtoms t)).before a st = _
    rw [Jvm.Cond.before_and, ih, List.all_cons]
def words1 : List Jvm.Cond := Jvm.Cond.code x code maxLocals ret :: tables_1
/-- a 'code' word, met by the world's own term for the bytes: nothing is compared byte by byte -/
theorem code_word {y : MethodName} {bytes : ByteArray} {mx : Nat} {rt : Option FieldType} {a : Array Value} {s : State} {m : MethodId} {meth : Method} {c : Code} (h1 : s.methodNamed? y = some m) (h2 : s.vm.method? m = some meth) (h3 : meth.code = some c) (h4 : c.code = bytes)
    (h5 : (c.maxLocals == mx && c.exceptionTable.isEmpty && decide (c.maxStack ≤ mostOperands) && decide (meth.sig.returnType = rt) && !meth.locks && decide (parseMethodDescriptor y.desc = some meth.sig)) = true) : (Jvm.Cond.code y bytes mx rt).before a s = true := by
  simp only [Bool.and_eq_true, beq_iff_eq, Bool.not_eq_true', decide_eq_true_eq] at h5
  obtain ⟨⟨⟨⟨⟨g1, g2⟩, g3⟩, g4⟩, g5⟩, g6⟩ := h5
  simp [Cond.before, Cond.holds, Cond.value, h1, h2, h3, h4, g1, g2, g3, g4, g5, g6]
def isCode : Jvm.Cond → Bool
  | .code _ _ _ _ => true
  | _ => false
theorem all_split {L : List Jvm.Cond} {P : Jvm.Cond → Bool} (h1 : L.all (fun c => isCode c || P c) = true) (h2 : ∀ c ∈ L.filter isCode, P c = true) : L.all P = true := by
  refine List.all_eq_true.mpr fun c hc => ?_
  have h := List.all_eq_true.mp h1 c hc
  rcases Bool.eq_false_or_eq_true (isCode c) with hi | hi
  · exact h2 c (List.mem_filter.mpr ⟨hc, hi⟩)
  · simpa [hi] using h
set_option maxRecDepth 65536 in
theorem w_c0 : (Jvm.Cond.code x code maxLocals ret).before args0 about1 = true := code_word (m := ⟨1, 1⟩) (meth := k1m1) (c := k1c1) (by decide +kernel) rfl rfl rfl (by decide +kernel)
set_option maxRecDepth 65536 in
theorem w_c1 : (Jvm.Cond.code ({ cls := "com/example/ringleader/ringleader/engine/EventQueue", name := "<init>", desc := "()V" } : Jvm.MethodName) prog_48_method_1_code (1 : Nat) (Option.none : Option Jvm.ClassFile.FieldType)).before args0 about1 = true := code_word (m := ⟨2, 0⟩) (meth := k2m0) (c := k2c0) (by decide +kernel) rfl rfl rfl (by decide +kernel)
set_option maxRecDepth 65536 in
theorem w_c2 : (Jvm.Cond.code ({ cls := "java/lang/Object", name := "<init>", desc := "()V" } : Jvm.MethodName) object_method_1_code (1 : Nat) (Option.none : Option Jvm.ClassFile.FieldType)).before args0 about1 = true := code_word (m := ⟨0, 0⟩) (meth := k0m0) (c := k0c0) (by decide +kernel) rfl rfl rfl (by decide +kernel)
set_option maxRecDepth 65536 in
theorem w_c3 : (Jvm.Cond.code ({ cls := "com/example/ringleader/ringleader/engine/EventQueue", name := "fillFree", desc := "(I)V" } : Jvm.MethodName) prog_48_method_13_code (3 : Nat) (Option.none : Option Jvm.ClassFile.FieldType)).before args0 about1 = true := code_word (m := ⟨2, 7⟩) (meth := k2m7) (c := k2c7) (by decide +kernel) rfl rfl rfl (by decide +kernel)
set_option maxRecDepth 65536 in
theorem w_c4 : (Jvm.Cond.code ({ cls := "com/example/ringleader/ringleader/engine/EventQueue", name := "isEmpty", desc := "()Z" } : Jvm.MethodName) prog_48_method_3_code (1 : Nat) (Option.some Jvm.ClassFile.FieldType.boolean)).before args0 about1 = true := code_word (m := ⟨2, 2⟩) (meth := k2m2) (c := k2c2) (by decide +kernel) rfl rfl rfl (by decide +kernel)
set_option maxRecDepth 65536 in
theorem w_c5 : (Jvm.Cond.code ({ cls := "java/lang/Math", name := "min", desc := "(II)I" } : Jvm.MethodName) jdk_29_method_69_code (2 : Nat) (Option.some Jvm.ClassFile.FieldType.int)).before args0 about1 = true := code_word (m := ⟨3, 1⟩) (meth := k3m1) (c := k3c1) (by decide +kernel) rfl rfl rfl (by decide +kernel)
set_option maxRecDepth 65536 in
theorem w_c6 : (Jvm.Cond.code ({ cls := "com/example/ringleader/ringleader/engine/EventQueue", name := "add", desc := "(DIILjava/lang/Object;)V" } : Jvm.MethodName) prog_48_method_2_code (9 : Nat) (Option.none : Option Jvm.ClassFile.FieldType)).before args0 about1 = true := code_word (m := ⟨2, 1⟩) (meth := k2m1) (c := k2c1) (by decide +kernel) rfl rfl rfl (by decide +kernel)
set_option maxRecDepth 65536 in
theorem w_c7 : (Jvm.Cond.code ({ cls := "com/example/ringleader/ringleader/engine/EventQueue", name := "put", desc := "(IDJI)V" } : Jvm.MethodName) prog_48_method_11_code (7 : Nat) (Option.none : Option Jvm.ClassFile.FieldType)).before args0 about1 = true := code_word (m := ⟨2, 6⟩) (meth := k2m6) (c := k2c6) (by decide +kernel) rfl rfl rfl (by decide +kernel)
set_option maxRecDepth 65536 in
theorem w_c8 : (Jvm.Cond.code ({ cls := "com/example/ringleader/ringleader/engine/EventQueue", name := "removeFirst", desc := "()V" } : Jvm.MethodName) prog_48_method_8_code (12 : Nat) (Option.none : Option Jvm.ClassFile.FieldType)).before args0 about1 = true := code_word (m := ⟨2, 3⟩) (meth := k2m3) (c := k2c3) (by decide +kernel) rfl rfl rfl (by decide +kernel)
set_option maxRecDepth 65536 in
theorem w_c9 : (Jvm.Cond.code ({ cls := "java/lang/Integer", name := "valueOf", desc := "(I)Ljava/lang/Integer;" } : Jvm.MethodName) jdk_33_method_22_code (1 : Nat) (Option.some (Jvm.ClassFile.FieldType.object "java/lang/Integer"))).before args0 about1 = true := code_word (m := ⟨9, 0⟩) (meth := k9m0) (c := k9c0) (by decide +kernel) rfl rfl rfl (by decide +kernel)
set_option maxRecDepth 65536 in
theorem w_c10 : (Jvm.Cond.code ({ cls := "com/example/ringleader/ringleader/engine/EventQueue", name := "isBefore", desc := "(DJDJ)Z" } : Jvm.MethodName) prog_48_method_9_code (8 : Nat) (Option.some Jvm.ClassFile.FieldType.boolean)).before args0 about1 = true := code_word (m := ⟨2, 4⟩) (meth := k2m4) (c := k2c4) (by decide +kernel) rfl rfl rfl (by decide +kernel)
set_option maxRecDepth 65536 in
theorem w_c11 : (Jvm.Cond.code ({ cls := "java/lang/Integer", name := "<init>", desc := "(I)V" } : Jvm.MethodName) jdk_33_method_23_code (2 : Nat) (Option.none : Option Jvm.ClassFile.FieldType)).before args0 about1 = true := code_word (m := ⟨9, 1⟩) (meth := k9m1) (c := k9c1) (by decide +kernel) rfl rfl rfl (by decide +kernel)
set_option maxRecDepth 65536 in
theorem w_c12 : (Jvm.Cond.code ({ cls := "java/lang/Number", name := "<init>", desc := "()V" } : Jvm.MethodName) jdk_18_method_1_code (1 : Nat) (Option.none : Option Jvm.ClassFile.FieldType)).before args0 about1 = true := code_word (m := ⟨5, 0⟩) (meth := k5m0) (c := k5c0) (by decide +kernel) rfl rfl rfl (by decide +kernel)
set_option maxRecDepth 65536 in
theorem w_c13 : (Jvm.Cond.code ({ cls := "com/example/ringleader/ringleader/engine/EventQueue", name := "move", desc := "(II)V" } : Jvm.MethodName) prog_48_method_10_code (3 : Nat) (Option.none : Option Jvm.ClassFile.FieldType)).before args0 about1 = true := code_word (m := ⟨2, 5⟩) (meth := k2m5) (c := k2c5) (by decide +kernel) rfl rfl rfl (by decide +kernel)
def codes1 : List Jvm.Cond := [Jvm.Cond.code x code maxLocals ret, Jvm.Cond.code ({ cls := "com/example/ringleader/ringleader/engine/EventQueue", name := "<init>", desc := "()V" } : Jvm.MethodName) prog_48_method_1_code (1 : Nat) (Option.none : Option Jvm.ClassFile.FieldType), Jvm.Cond.code ({ cls := "java/lang/Object", name := "<init>", desc := "()V" } : Jvm.MethodName) object_method_1_code (1 : Nat) (Option.none : Option Jvm.ClassFile.FieldType), Jvm.Cond.code ({ cls := "com/example/ringleader/ringleader/engine/EventQueue", name := "fillFree", desc := "(I)V" } : Jvm.MethodName) prog_48_method_13_code (3 : Nat) (Option.none : Option Jvm.ClassFile.FieldType), Jvm.Cond.code ({ cls := "com/example/ringleader/ringleader/engine/EventQueue", name := "isEmpty", desc := "()Z" } : Jvm.MethodName) prog_48_method_3_code (1 : Nat) (Option.some Jvm.ClassFile.FieldType.boolean), Jvm.Cond.code ({ cls := "java/lang/Math", name := "min", desc := "(II)I" } : Jvm.MethodName) jdk_29_method_69_code (2 : Nat) (Option.some Jvm.ClassFile.FieldType.int), Jvm.Cond.code ({ cls := "com/example/ringleader/ringleader/engine/EventQueue", name := "add", desc := "(DIILjava/lang/Object;)V" } : Jvm.MethodName) prog_48_method_2_code (9 : Nat) (Option.none : Option Jvm.ClassFile.FieldType), Jvm.Cond.code ({ cls := "com/example/ringleader/ringleader/engine/EventQueue", name := "put", desc := "(IDJI)V" } : Jvm.MethodName) prog_48_method_11_code (7 : Nat) (Option.none : Option Jvm.ClassFile.FieldType), Jvm.Cond.code ({ cls := "com/example/ringleader/ringleader/engine/EventQueue", name := "removeFirst", desc := "()V" } : Jvm.MethodName) prog_48_method_8_code (12 : Nat) (Option.none : Option Jvm.ClassFile.FieldType), Jvm.Cond.code ({ cls := "java/lang/Integer", name := "valueOf", desc := "(I)Ljava/lang/Integer;" } : Jvm.MethodName) jdk_33_method_22_code (1 : Nat) (Option.some (Jvm.ClassFile.FieldType.object "java/lang/Integer")), Jvm.Cond.code ({ cls := "com/example/ringleader/ringleader/engine/EventQueue", name := "isBefore", desc := "(DJDJ)Z" } : Jvm.MethodName) prog_48_method_9_code (8 : Nat) (Option.some Jvm.ClassFile.FieldType.boolean), Jvm.Cond.code ({ cls := "java/lang/Integer", name := "<init>", desc := "(I)V" } : Jvm.MethodName) jdk_33_method_23_code (2 : Nat) (Option.none : Option Jvm.ClassFile.FieldType), Jvm.Cond.code ({ cls := "java/lang/Number", name := "<init>", desc := "()V" } : Jvm.MethodName) jdk_18_method_1_code (1 : Nat) (Option.none : Option Jvm.ClassFile.FieldType), Jvm.Cond.code ({ cls := "com/example/ringleader/ringleader/engine/EventQueue", name := "move", desc := "(II)V" } : Jvm.MethodName) prog_48_method_10_code (3 : Nat) (Option.none : Option Jvm.ClassFile.FieldType)]
set_option maxRecDepth 65536 in
theorem codes_eq : words1.filter isCode = codes1 := rfl
theorem w_codes : ∀ c ∈ words1.filter isCode, c.before args0 about1 = true := by
  rw [codes_eq]
  intro c hc
  simp only [codes1, List.mem_cons, List.not_mem_nil, or_false] at hc
  rcases hc with rfl | rfl | rfl | rfl | rfl | rfl | rfl | rfl | rfl | rfl | rfl | rfl | rfl | rfl
  · exact w_c0
  · exact w_c1
  · exact w_c2
  · exact w_c3
  · exact w_c4
  · exact w_c5
  · exact w_c6
  · exact w_c7
  · exact w_c8
  · exact w_c9
  · exact w_c10
  · exact w_c11
  · exact w_c12
  · exact w_c13
set_option maxRecDepth 65536 in
theorem w_t1 : (words1.take 24).all (fun c => isCode c || c.before args0 about1) = true := by decide +kernel
set_option maxRecDepth 65536 in
theorem w_t2 : ((words1.drop 24).take 24).all (fun c => isCode c || c.before args0 about1) = true := by decide +kernel
set_option maxRecDepth 65536 in
theorem w_t3 : (((words1.drop 24).drop 24).take 24).all (fun c => isCode c || c.before args0 about1) = true := by decide +kernel
set_option maxRecDepth 65536 in
theorem w_t4 : (((words1.drop 24).drop 24).drop 24).all (fun c => isCode c || c.before args0 about1) = true := by decide +kernel
theorem w_tables : (allAtoms (Jvm.Cond.code x code maxLocals ret :: tables_1)).before args0 about1 = true := by
  rw [allAtoms_all]
  show words1.all (fun c => c.before args0 about1) = true
  refine all_split ?_ w_codes
  rw [← List.take_append_drop 24 words1, List.all_append, w_t1, ← List.take_append_drop 24 (words1.drop 24), List.all_append, w_t2, ← List.take_append_drop 24 ((words1.drop 24).drop 24), List.all_append, w_t3, w_t4]
  rfl
set_option maxRecDepth 65536 in
theorem w_rest : rest_1_c.before args0 about1 = true := by decide +kernel
set_option maxRecDepth 65536 in
theorem w_case : (Jvm.Cond.and given_1 narrow_1).before args0 about1 = true := by decide +kernel
theorem w_applies : (headSpec (Jvm.Cond.code x code maxLocals ret :: tables_1) room_1).applies x e0.platform about1 = true :=
  (Spec.applies_iff w_frames).mpr ⟨w_running, w_runnable, w_alone, w_named, w_hears, w_ripe, w_room, w_tables⟩
theorem atStart : AtStart classFile x code maxLocals ret World_1 tables_1 room_1 Calls_1 rest_1 Pre_1 launch0 p0 e0 about1 theMethod args0 below0 :=
  ⟨lists_1, trivial, launch0.admits_env _ _ _, launch0.least_env, fairChoices_fair.cas, fairChoices_fair.clock, w_frames, w_args, w_heap, w_applies, trivial, w_rest, w_case⟩
end start1
theorem witness_1 : WitnessClaimed_1 := ⟨start1.p0, start1.e0, start1.about1, start1.theMethod, start1.args0, start1.below0, start1.atStart⟩
end Jvm.Pilot.@@N@@
