import JvmDerived
import JvmDerived.Pilot.@@N@@Statement
import JvmDerived.Pilot.@@N@@Code
set_option linter.unusedVariables false
set_option linter.unusedSimpArgs false
namespace Jvm.RoadKit
open Sem ClassFile Op Lib Jvm.Stand Jvm.Free Jvm.LawKit
section New
variable {p : Program} {l : Launch} {e : Env} {R : Room} {s : State} {m : MethodId} {args : Array Value} {below : List Frame} {meth : Method} {c : Code} {T : State} {locs : List Loc} {cells slots : Nat}
theorem retI (X : Stand p l e R s m args below meth c T locs cells slots) (hx : p.tables.exec = Jvm.exec) {pc : Nat} {Ls : Array Slot} {z : Int32} {rest : List Value} (hret : meth.sig.returnType = some .int) (hd : decode c.code pc = .ok (.ireturn, 1)) {fs : List Frame}
    (hl : ∀ (f : JFrame) (acts : List Action), f.method = m → f.locked = none → f.entered = [] → (doReturn e (T.setTop f) acts (some (.int z))).1 = T.setFrames fs) : Steps p.tables e below (T.setTop (mkF m pc Ls (.int z :: rest))) (T.setFrames fs) := by
  have hm' : T.vm.method? m = some meth := X.method'
  have hn : narrow .int (.int z) = .int z := rfl
  show Steps p.tables e below (T.setTop { method := m, pc := pc, locals := Ls, stack := _ :: rest, locked := none }) _
  jvm_step X.here [X.here.top, hx, hd, hm', hret, hn]
  first | (intro acts; rw [hl _ acts rfl rfl rfl]) | rw [hl _ _ rfl rfl rfl]
  exact Steps.refl _
end New
end Jvm.RoadKit
namespace Jvm.Pilot.@@N@@
open Jvm Jvm.ClassFile Sem Op Lib Jvm.Free Jvm.Stand Jvm.LawKit Jvm.RoadKit Bundle Jvm.Pilot.@@N@@.Jvm.D
theorem own_ext_refl (h : Heap) : Ext h h := ⟨Nat.le_refl _, fun _ _ q => q⟩
theorem own_ext_trans {h h' h2 : Heap} (A : Ext h h') (B : Ext h' h2) : Ext h h2 := ⟨Nat.le_trans A.1 B.1, fun a c q => B.2 a c (A.2 a c q)⟩
theorem own_ext_keep {h h' h2 : Heap} {ws : List Addr} (A : Ext h h') (K : Keep h' h2 ws) (q : ∀ x ∈ ws, h.size ≤ x) : Ext h h2 := ⟨Nat.le_trans A.1 K.1, fun a c r => K.2.1 a c (A.2 a c r) fun z => absurd (Array.getElem?_eq_some_iff.mp r).1 (Nat.not_lt.mpr (q a z))⟩
theorem own_pin {args : Array Value} {Z : State} {t : Term} {C : String} (h : (Jvm.Cond.exactly t C).value args Z none Z [] = some true) : ∃ a, t.eval args Z none [] Z = some (.ref a) ∧ Exa Z Z.heap a C := by
  obtain ⟨a, ev⟩ := exa_v h
  exact ⟨a, ev, Exa.start ev h⟩
theorem own_fld {args : Array Value} {Z : State} {t : Term} {a : Addr} {C n d : String} {k : Int32} (ev : t.eval args Z none [] Z = some (.ref a)) (h : (Jvm.Cond.eq (.field t C n d) (.int k)).value args Z none Z [] = some true) : Fld Z Z.heap a C n d (.int k) := by
  obtain ⟨x, y, h1, h2, hk, -⟩ := cmp_v (Or.inl h)
  have h2' : y = .int k := (Option.some.inj h2).symm
  subst h2'
  have hx : ∃ z, x = .int z := by cases x <;> simp [Kin, Value.isRef] at hk ⊢
  obtain ⟨z, rfl⟩ := hx
  have hv : (Jvm.Cond.eq (.field t C n d) (.int k)).value args Z none Z [] = some (decide (z = k)) := by simp only [Jvm.Cond.value, h1, h2]
  have e : z = k := gotT hv h
  subst e
  exact Fld.start (by rw [← fld_at ev]; exact h1)
theorem own_eqint {args : Array Value} {Z : State} {t : Term} {k : Int32} (h : (Jvm.Cond.eq t (.int k)).value args Z none Z [] = some true) : t.eval args Z none [] Z = some (.int k) := by
  obtain ⟨x, y, h1, h2, hk, -⟩ := cmp_v (Or.inl h)
  have h2' : y = .int k := (Option.some.inj h2).symm
  subst h2'
  have hx : ∃ z, x = .int z := by cases x <;> simp [Kin, Value.isRef] at hk ⊢
  obtain ⟨z, rfl⟩ := hx
  have hv : (Jvm.Cond.eq t (.int k)).value args Z none Z [] = some (decide (z = k)) := by simp only [Jvm.Cond.value, h1, h2]
  have e : z = k := gotT hv h
  rw [h1, e]
def CacheF (Z : State) (cA : Addr) (cl : Cell) : Prop := Sta Z Z.heap "java/lang/Integer$IntegerCache" "high" "I" (.int (127 : Int32)) ∧ Sta Z Z.heap "java/lang/Integer$IntegerCache" "cache" "[Ljava/lang/Integer;" (.ref cA) ∧ Arr Z Z.heap cA cl (.object "java/lang/Integer") ∧ cl.slots.size = 256 ∧ ∀ j : Int32, ¬ (j < 0 ∨ 256 ≤ j.toNatClampNeg) → ∃ r, cl.slots[j.toNatClampNeg]? = some (.ref r) ∧ Exa Z Z.heap r "java/lang/Integer"
theorem own_cache {Z : State} {args : Array Value} (hsets : ∀ w ∈ jdkStatics_1, w.before args Z = true) (hi : (Jvm.Cond.initialized "java/lang/Integer$IntegerCache").before args Z = true) : ∃ cA cl, CacheF Z cA cl := by
  have s3 := Cond.before_iff.mp (hsets _ (List.mem_of_getElem? (i := 3) rfl))
  have s4 := Cond.before_iff.mp (hsets _ (List.mem_of_getElem? (i := 4) rfl))
  have s6 := Cond.before_iff.mp (hsets _ (List.mem_of_getElem? (i := 6) rfl))
  have s7 := Cond.before_iff.mp (hsets _ (List.mem_of_getElem? (i := 7) rfl))
  have ev1 := own_eqint s3
  obtain ⟨cA, ev⟩ := arr_v s4
  obtain ⟨cl, A⟩ := Arr.start ev s4
  have harr : Z.arrayAt? cA = some cl := Arr.fin (Vm.Alike.refl _) A
  have ev6 := own_eqint s6
  have hsz : cl.slots.size = 256 := by
    have q := ev6
    simp only [Term.eval] at q ev
    rw [ev] at q
    simp only [harr, Option.bind_eq_bind, Option.bind_some] at q
    by_cases hl : cl.slots.size < 2 ^ 31
    · rw [if_pos hl] at q
      have q2 : cl.slots.size.toInt32 = 256 := by simpa using q
      have q3 := congrArg Int32.toInt q2
      rw [len_toInt hl] at q3
      have q4 : (256 : Int32).toInt = 256 := by decide
      omega
    · rw [if_neg hl] at q; cases q
  refine ⟨cA, cl, Sta.start ev1 (Or.inl (hsets _ (List.mem_of_getElem? (i := 1) rfl))), Sta.start ev (Or.inr ⟨hi, (hsets _ (List.mem_of_getElem? (i := 2) rfl))⟩), A, hsz, fun j hj => ?_⟩
  have hj0 : ¬ j < 0 := fun q => hj (Or.inl q)
  have hlt : j.toNatClampNeg < cl.slots.size := by rw [hsz]; exact Nat.lt_of_not_le fun q => hj (Or.inr q)
  have hall := (and_e (Cond.all_elim ev harr s7 j.toNatClampNeg hlt)).1
  obtain ⟨r, hr⟩ := exa_v hall
  have ev' : (Term.static "java/lang/Integer$IntegerCache" "cache" "[Ljava/lang/Integer;").eval args Z none [j.toNatClampNeg] Z = some (.ref cA) := ev
  exact ⟨r, (elem_in hr ev' (idx_at hj0) A.1).2, exa_at hr hall⟩
theorem own_idx {p : Int32} (h1 : ¬ (p < (-128 : Int32))) (h2 : ¬ ((127 : Int32) < p)) : ¬ ((p + (128 : Int32)) < 0 ∨ 256 ≤ (p + (128 : Int32)).toNatClampNeg) := by
  have e1 : (-128 : Int32).toInt = -128 := by decide
  have e2 : (127 : Int32).toInt = 127 := by decide
  have e3 : (128 : Int32).toInt = 128 := by decide
  have e0 : (0 : Int32).toInt = 0 := by decide
  rw [Int32.lt_iff_toInt_lt, e1] at h1
  rw [Int32.lt_iff_toInt_lt, e2] at h2
  have a := c_iadd p 128
  have r := rng32 (p + 128)
  rw [e3] at a
  have hn : ¬ (p + (128 : Int32)) < 0 := by rw [Int32.lt_iff_toInt_lt, e0]; omega
  have q := nat_of hn
  intro h
  rcases h with h | h
  · exact hn h
  · omega
theorem own_ns_root {Z : State} {a0 : Array Value} {O K : String} {n : Nat} (w : (Jvm.Cond.noSuperclass O).before a0 Z = true) (wk : (Jvm.Cond.instantiable K n).before a0 Z = true) (hn : O ≠ K) : NS Z O K := by
  obtain ⟨c, k, h1, h2, h3, -, -⟩ := Cond.noSuperclass_spec w
  obtain ⟨t, kt, g1, -⟩ := Cond.instantiable_spec wk
  have hne := ids_ne h1 g1 hn
  exact ⟨c, t, h1, g1, fun fuel => by cases fuel <;> simp [Vm.isSubclassAux, hne, h2, h3]⟩
theorem own_ns_no {Z : State} {a0 : Array Value} {C S K : String} {n : Nat} (w : (Jvm.Cond.superclass C S).before a0 Z = true) (wk : (Jvm.Cond.instantiable K n).before a0 Z = true) (N : NS Z C K) (hn : C ≠ K) : ∃ c t, Z.vm.findClass C = some c ∧ Z.vm.findClass K = some t ∧ Z.vm.assignable c t = false := by
  obtain ⟨c, t, h0, g0, n3⟩ := N
  obtain ⟨p, k, kp, h1, h2, h3, h4, h5, -, h7⟩ := Cond.superclass_spec h0 w
  obtain ⟨t', kt, g1, g2, g3, g4, -⟩ := Cond.instantiable_spec wk
  cases g0.symm.trans g1
  have hne := ids_ne h0 g0 hn
  have g7 : kt.isInterface = false := (Bool.or_eq_false_iff.mp g4).1
  refine ⟨c, t, h0, g0, ?_⟩
  show Z.vm.assignableAux (255 + 1) c t = false
  simp [Vm.assignableAux, hne, h2, g2, h5, g3, g7, Vm.isSubclass, n3]
def eqNF (x0 x1 x2 x3 y0 y1 y2 y3 : Int32) : Int32 := (if x0 = y0 then (if x1 = y1 then (if x2 = y2 then (if x3 = y3 then (1 : Int32) else (0 : Int32)) else (0 : Int32)) else (0 : Int32)) else (0 : Int32))
theorem own_eq_yes {x0 x1 x2 x3 y0 y1 y2 y3 : Int32} (h0 : x0 = y0) (h1 : x1 = y1) (h2 : x2 = y2) (h3 : x3 = y3) : eqNF x0 x1 x2 x3 y0 y1 y2 y3 = (1 : Int32) := by simp [eqNF, h0, h1, h2, h3]
theorem own_eq_no {x0 x1 x2 x3 y0 y1 y2 y3 : Int32} (h : ¬ (x0 = y0 ∧ x1 = y1 ∧ x2 = y2 ∧ x3 = y3)) : eqNF x0 x1 x2 x3 y0 y1 y2 y3 = (0 : Int32) := by
  unfold eqNF
  repeat' split
  all_goals first | rfl | (exfalso; apply h; simp_all)
def minJ (x y : Int64) : Int64 := if y < x then y else x
def maxJ (x y : Int64) : Int64 := if x < y then y else x
theorem own_minJ (x y : Int64) : (minJ x y).toInt = min x.toInt y.toInt := by
  unfold minJ
  split
  · rename_i h
    rw [Int64.lt_iff_toInt_lt] at h
    omega
  · rename_i h
    rw [Int64.lt_iff_toInt_lt] at h
    omega
theorem own_maxJ (x y : Int64) : (maxJ x y).toInt = max x.toInt y.toInt := by
  unfold maxJ
  split
  · rename_i h
    rw [Int64.lt_iff_toInt_lt] at h
    omega
  · rename_i h
    rw [Int64.lt_iff_toInt_lt] at h
    omega
theorem own_M : (2147483647 : Int64).toInt = 2147483647 := by decide
theorem own_ladd {x y : Int64} (h : -9223372036854775808 ≤ x.toInt + y.toInt ∧ x.toInt + y.toInt < 9223372036854775808) : (x + y).toInt = x.toInt + y.toInt := by
  have a := c_ladd x y
  have r := rng64 (x + y)
  omega
theorem own_lsub {x y : Int64} (h : -9223372036854775808 ≤ x.toInt - y.toInt ∧ x.toInt - y.toInt < 9223372036854775808) : (x - y).toInt = x.toInt - y.toInt := by
  have a := c_lsub x y
  have r := rng64 (x - y)
  omega
theorem own_l2i {x : Int64} (h : -2147483648 ≤ x.toInt ∧ x.toInt < 2147483648) : x.toInt32.toInt = x.toInt := by
  have a := c_l2i x
  have r := rng32 x.toInt32
  omega
def OkR (a b : Int32) : Prop := a.toInt ≤ b.toInt ∧ b.toInt - a.toInt ≤ 2147483647
theorem own_ok1 {a b : Int32} (h : OkR a b) : ¬ (b < a) := by
  rw [Int32.lt_iff_toInt_lt]
  have := h.1
  omega
theorem own_ok2 {a b : Int32} (h : OkR a b) : ¬ ((0 : Int32) < (lcmpW ((b.toInt64) - (a.toInt64)) (2147483647 : Int64))) := by
  rw [lw_gt, Int64.lt_iff_toInt_lt, own_M]
  have h1 := rng32 a
  have h2 := rng32 b
  rw [own_lsub (by rw [c_i2l, c_i2l]; omega), c_i2l, c_i2l]
  have := h.2
  omega
def rF (l w : Int32) : Int32 := ((minJ ((l.toInt64) + ((w &&& (2147483647 : Int32)).toInt64)) (2147483647 : Int64)).toInt32)
def lF (r d : Int32) : Int32 := ((maxJ ((r.toInt64) - (2147483647 : Int64)) (minJ (d.toInt64) (r.toInt64))).toInt32)
def sF (l d : Int32) : Int32 := ((minJ (maxJ (d.toInt64) (l.toInt64)) ((l.toInt64) + (2147483647 : Int64))).toInt32)
theorem own_rF (l w : Int32) : OkR l (rF l w) := by
  have h := c_mask w 2147483647 31 (by decide) (by decide)
  have hl := rng32 l
  have e1 : ((l.toInt64) + ((w &&& (2147483647 : Int32)).toInt64)).toInt = l.toInt + (w &&& (2147483647 : Int32)).toInt := by
    rw [own_ladd (by rw [c_i2l, c_i2l]; omega), c_i2l, c_i2l]
  have e2 := own_minJ ((l.toInt64) + ((w &&& (2147483647 : Int32)).toInt64)) (2147483647 : Int64)
  rw [e1, own_M] at e2
  have e3 : (rF l w).toInt = min (l.toInt + (w &&& (2147483647 : Int32)).toInt) 2147483647 := by
    unfold rF
    rw [own_l2i (by rw [e2]; omega), e2]
  unfold OkR
  omega
theorem own_lF (r d : Int32) : OkR (lF r d) r := by
  have hr := rng32 r
  have hd := rng32 d
  have e1 : ((r.toInt64) - (2147483647 : Int64)).toInt = r.toInt - 2147483647 := by
    rw [own_lsub (by rw [c_i2l, own_M]; omega), c_i2l, own_M]
  have e2 := own_minJ (d.toInt64) (r.toInt64)
  rw [c_i2l, c_i2l] at e2
  have e3 := own_maxJ ((r.toInt64) - (2147483647 : Int64)) (minJ (d.toInt64) (r.toInt64))
  rw [e1, e2] at e3
  have e4 : (lF r d).toInt = max (r.toInt - 2147483647) (min d.toInt r.toInt) := by
    unfold lF
    rw [own_l2i (by rw [e3]; omega), e3]
  unfold OkR
  omega
theorem own_sF (l d : Int32) : OkR l (sF l d) := by
  have hr := rng32 l
  have hd := rng32 d
  have e1 : ((l.toInt64) + (2147483647 : Int64)).toInt = l.toInt + 2147483647 := by
    rw [own_ladd (by rw [c_i2l, own_M]; omega), c_i2l, own_M]
  have e2 := own_maxJ (d.toInt64) (l.toInt64)
  rw [c_i2l, c_i2l] at e2
  have e3 := own_minJ (maxJ (d.toInt64) (l.toInt64)) ((l.toInt64) + (2147483647 : Int64))
  rw [e1, e2] at e3
  have e4 : (sF l d).toInt = min (max d.toInt l.toInt) (l.toInt + 2147483647) := by
    unfold sF
    rw [own_l2i (by rw [e3]; omega), e3]
  unfold OkR
  omega
theorem ef_8 (m : MethodId) (x0 : Addr) : entryFrame m #[(.ref x0)] 1 = mkF m 0 #[.val (.ref x0)] [] := by first | (simp [entryFrame, mkF, argsToLocals, Value.category]; done) | rfl
theorem pn_java_lang_Number : plainName "java/lang/Number" = true := by first | (simp [plainName, overriddenIn]; done) | decide +kernel
theorem d8_0 : decode jdk_18_method_1_code 0 = .ok (.aload_n 0, 1) := by decide +kernel
theorem d8_1 : decode jdk_18_method_1_code 1 = .ok (.invokespecial 1, 3) := by decide +kernel
theorem d8_4 : decode jdk_18_method_1_code 4 = .ok (.return_, 1) := by decide +kernel
def Q_rm_num (Z : State) (a1 : Addr) (h0 : Heap) (n0 : Nat) (v : Option Value) (h : Heap) (L : List Loc) : Prop := v = none ∧ Fr n0 L ∧ h = h0
set_option maxRecDepth 65536 in
set_option maxHeartbeats 40000000 in
theorem rm_num (l : Launch) (Z : State) (a0 : Array Value) (hw : ∀ d ∈ tables_1, d.before a0 Z = true) (ws : List Jvm.Cond) (a1 : Addr) (h0 : Heap) (n0 : Nat) (Z0 : n0 ≤ h0.size) (O0 : Ext Z.heap h0) :
    MetFree l (⟨"java/lang/Number", "<init>", "()V"⟩ : MethodName) (head1 (Jvm.Cond.code (⟨"java/lang/Number", "<init>", "()V"⟩ : MethodName) jdk_18_method_1_code 1 none :: ws) ({ frames := 1, cells := 0, slots := 0, locals := 12 } : Room)) (fun a U => a = #[(.ref a1)] ∧ Z.Warmed39 U.vm ∧ U.heap = h0) (fun _ _ _ _ _ => True) (fun _ U o U' => ∃ v L, o = .returned v ∧ Q_rm_num Z a1 h0 n0 v U'.heap L ∧ FrameEnd U o U' L ({ frames := 1, cells := 0, slots := 0, locals := 12 } : Room).cells ({ frames := 1, cells := 0, slots := 0, locals := 12 } : Room).slots) := by
  refine MetFree.of_bodySF (plainFor_of_name pn_java_lang_Number) hisR ?_
  intro p e s m args below meth c s₁ Bd hml0 hP hK
  obtain ⟨rfl, hZ, hh⟩ := hP
  have hx := Bd.exec
  have hby := Bd.bytes
  have hml : c.maxLocals = 1 := hml0
  have hown : s.vm.findClass "java/lang/Number" = some m.cls := findClass_of_methodNamed Bd.named
  have hnm := (name_of_methodNamed Bd.named Bd.method).1
  have X0 : Stand p l e ({ frames := 1, cells := 0, slots := 0, locals := 12 } : Room) s m #[(.ref a1)] below meth c s₁ [] 0 0 := Stand.of_body Bd
  have e0 : s₁.heap = h0 := by rw [← hh, Bd.state]; rfl
  have N0 := Fr.nil n0
  have pre0 : ∀ t, Steps p.tables e below (s₁.setTop (mkF m 0 #[.val (.ref a1)] [])) t → Steps p.tables e below (s₁.setTop (entryFrame m #[(.ref a1)] 1)) t := fun t k => castTop (ef_8 m a1) k
  have pre1 : ∀ t, Steps p.tables e below (s₁.setTop (mkF m 1 #[.val (.ref a1)] [(.ref a1)])) t → Steps p.tables e below (s₁.setTop (entryFrame m #[(.ref a1)] 1)) t := fun t k => pre0 t (by
    show Steps p.tables e below (s₁.setTop (mkF m 0 #[.val (.ref a1)] [])) _
    refine XS.aloadN X0.here hx rfl (hb hby d8_0) rfl rfl ?_
    exact k)
  obtain ⟨T2, X2, e2, st2⟩ := initO X0 hx hZ hown (hw _ (List.mem_of_getElem? (i := 52) rfl)) (hw _ (List.mem_of_getElem? (i := 13) rfl)) (hw _ (List.mem_of_getElem? (i := 14) rfl)) e0 (g := (mkF m 1 #[.val (.ref a1)] [(.ref a1)])) rfl (by rw [hml]; rfl) rfl (hb hby d8_1) (by decide) (W := 0) (by show 2 * 0 + _ ≤ _; exact Nat.le_of_eq rfl) (by decide)
  have pre3 : ∀ t, Steps p.tables e below (T2.setTop (mkF m 4 #[.val (.ref a1)] [])) t → Steps p.tables e below (s₁.setTop (entryFrame m #[(.ref a1)] 1)) t := fun t k => pre1 t (st2 t k)
  obtain ⟨fs, hr, hrun, hended, hW, hsame⟩ := X2.leave (v := none) (fun _ => rfl)
  refine ⟨_, _, pre3 _ ?_, hrun, hended, _, _, rfl, ?_, ⟨_, rfl⟩, hW, hsame.mono (by decide) (by decide)⟩
  · exact X2.returnOut hx Bd.returns (hb hby d8_4) hr
  · show Q_rm_num Z a1 h0 n0 _ T2.heap _
    rw [e2]
    exact ⟨rfl, N0, rfl⟩
theorem ef_7 (m : MethodId) (x0 : Addr) (x1 : Int32) : entryFrame m #[(.ref x0), (.int x1)] 2 = mkF m 0 #[.val (.ref x0), .val (.int x1)] [] := by first | (simp [entryFrame, mkF, argsToLocals, Value.category]; done) | rfl
theorem pn_java_lang_Integer : plainName "java/lang/Integer" = true := by first | (simp [plainName, overriddenIn]; done) | decide +kernel
theorem d7_0 : decode jdk_33_method_23_code 0 = .ok (.aload_n 0, 1) := by decide +kernel
theorem pd_0 : parseMethodDescriptor "()V" = some ⟨[], none⟩ := by decide +kernel
theorem d7_1 : decode jdk_33_method_23_code 1 = .ok (.invokespecial 202, 3) := by decide +kernel
theorem d7_4 : decode jdk_33_method_23_code 4 = .ok (.aload_n 0, 1) := by decide +kernel
theorem d7_5 : decode jdk_33_method_23_code 5 = .ok (.iload_n 1, 1) := by decide +kernel
theorem d7_6 : decode jdk_33_method_23_code 6 = .ok (.putfield 205, 3) := by decide +kernel
theorem d7_9 : decode jdk_33_method_23_code 9 = .ok (.return_, 1) := by decide +kernel
def Q_rm_ini (Z : State) (a1 : Addr) (p1 : Int32) (h0 : Heap) (n0 : Nat) (v : Option Value) (h : Heap) (L : List Loc) : Prop := v = none ∧ Fr n0 L ∧ Keep h0 h [a1] ∧ Exa Z h a1 "java/lang/Integer" ∧ Fld Z h a1 "java/lang/Integer" "value" "I" (.int p1)
set_option maxRecDepth 65536 in
set_option maxHeartbeats 40000000 in
theorem rm_ini (l : Launch) (Z : State) (a0 : Array Value) (hw : ∀ d ∈ tables_1, d.before a0 Z = true) (ws : List Jvm.Cond) (a1 : Addr) (p1 : Int32) (h0 : Heap) (n0 : Nat) (Z0 : n0 ≤ h0.size) (O0 : Ext Z.heap h0) (E_a1 : Exa Z h0 a1 "java/lang/Integer") (F_value : Fld Z h0 a1 "java/lang/Integer" "value" "I" (.int (0 : Int32))) (g_a1 : n0 ≤ a1) (z_a1 : Z.heap.size ≤ a1) :
    MetFree l (⟨"java/lang/Integer", "<init>", "(I)V"⟩ : MethodName) (head1 (Jvm.Cond.code (⟨"java/lang/Integer", "<init>", "(I)V"⟩ : MethodName) jdk_33_method_23_code 2 none :: ws) ({ frames := 2, cells := 0, slots := 0, locals := 24 } : Room)) (fun a U => a = #[(.ref a1), (.int p1)] ∧ Z.Warmed39 U.vm ∧ U.heap = h0) (fun _ _ _ _ _ => True) (fun _ U o U' => ∃ v L, o = .returned v ∧ Q_rm_ini Z a1 p1 h0 n0 v U'.heap L ∧ FrameEnd U o U' L ({ frames := 2, cells := 0, slots := 0, locals := 24 } : Room).cells ({ frames := 2, cells := 0, slots := 0, locals := 24 } : Room).slots) := by
  refine MetFree.of_bodySF (plainFor_of_name pn_java_lang_Integer) hisR ?_
  intro p e s m args below meth c s₁ Bd hml0 hP hK
  obtain ⟨rfl, hZ, hh⟩ := hP
  have hx := Bd.exec
  have hby := Bd.bytes
  have hml : c.maxLocals = 2 := hml0
  have hown : s.vm.findClass "java/lang/Integer" = some m.cls := findClass_of_methodNamed Bd.named
  have hnm := (name_of_methodNamed Bd.named Bd.method).1
  have X0 : Stand p l e ({ frames := 2, cells := 0, slots := 0, locals := 24 } : Room) s m #[(.ref a1), (.int p1)] below meth c s₁ [] 0 0 := Stand.of_body Bd
  have e0 : s₁.heap = h0 := by rw [← hh, Bd.state]; rfl
  have N0 := Fr.nil n0
  have pre0 : ∀ t, Steps p.tables e below (s₁.setTop (mkF m 0 #[.val (.ref a1), .val (.int p1)] [])) t → Steps p.tables e below (s₁.setTop (entryFrame m #[(.ref a1), (.int p1)] 2)) t := fun t k => castTop (ef_7 m a1 p1) k
  have pre1 : ∀ t, Steps p.tables e below (s₁.setTop (mkF m 1 #[.val (.ref a1), .val (.int p1)] [(.ref a1)])) t → Steps p.tables e below (s₁.setTop (entryFrame m #[(.ref a1), (.int p1)] 2)) t := fun t k => pre0 t (by
    show Steps p.tables e below (s₁.setTop (mkF m 0 #[.val (.ref a1), .val (.int p1)] [])) _
    refine XS.aloadN X0.here hx rfl (hb hby d7_0) rfl rfl ?_
    exact k)
  obtain ⟨_, _, ⟨T2, L2, k2, n2⟩, -, X2, ⟨Lc2, hQ2, l2, y2, z2⟩, st2⟩ := X0.specialBack hx (y := (⟨"java/lang/Number", "<init>", "()V"⟩ : MethodName)) rfl hown (mvT hZ (hw _ (List.mem_of_getElem? (i := 46) rfl))) (mvT hZ (hw _ (List.mem_of_getElem? (i := 47) rfl))) (mvT hZ (hw _ (List.mem_of_getElem? (i := 51) rfl))) (by decide) (backOf (W := 0) (rm_num l Z a0 hw [] a1 h0 n0 Z0 O0) hZ (hw _ (List.mem_of_getElem? (i := 51) rfl)) (hw _ (List.mem_of_getElem? (i := 50) rfl)) (by decide) (by decide)) (g := (mkF m 1 #[.val (.ref a1), .val (.int p1)] [(.ref a1)])) rfl (by rw [hml]; rfl) (Steps.refl _) (a := a1) (argsL := []) (rest := []) (lenOf pd_0 rfl) rfl (by show 2 * 0 + _ ≤ _; exact Nat.le_of_eq rfl) (hb hby d7_1) (fun _ _ => ⟨rfl, e0, (by decide : 0 + 0 ≤ _), (by decide : 0 + 0 ≤ _)⟩)
  dsimp only [Pt.U, Pt.locs, Pt.cells, Pt.slots] at X2 l2 y2 z2 st2 hQ2
  subst l2 y2 z2
  obtain ⟨rfl, N2q, e2⟩ := hQ2
  have N2 := Fr.app N0 N2q
  have pre3 : ∀ t, Steps p.tables e below (T2.setTop (mkF m 4 #[.val (.ref a1), .val (.int p1)] [])) t → Steps p.tables e below (s₁.setTop (entryFrame m #[(.ref a1), (.int p1)] 2)) t := fun t k => pre1 t (st2.trans k)
  have pre4 : ∀ t, Steps p.tables e below (T2.setTop (mkF m 6 #[.val (.ref a1), .val (.int p1)] [(.int p1), (.ref a1)])) t → Steps p.tables e below (s₁.setTop (entryFrame m #[(.ref a1), (.int p1)] 2)) t := fun t k => pre3 t (by
    show Steps p.tables e below (T2.setTop (mkF m 4 #[.val (.ref a1), .val (.int p1)] [])) _
    refine XS.aloadN X2.here hx rfl (hb hby d7_4) rfl rfl ?_
    show Steps p.tables e below (T2.setTop (mkF m 5 #[.val (.ref a1), .val (.int p1)] [(.ref a1)])) _
    refine XS.iloadN X2.here hx rfl (hb hby d7_5) rfl ?_
    exact k)
  obtain ⟨T5, h5, X5, e5, W5, st5⟩ := putF X2 hx hZ hown (host := "") (Or.inl (hw _ (List.mem_of_getElem? (i := 53) rfl))) Via.refl e2 F_value E_a1 (Or.inr ⟨(hw _ (List.mem_of_getElem? (i := 54) rfl)), rfl, hnm⟩) (hw _ (List.mem_of_getElem? (i := 41) rfl)) (ty := .int) (by decide) rfl rfl (g := (mkF m 6 #[.val (.ref a1), .val (.int p1)] [(.int p1), (.ref a1)])) rfl rfl (hb hby d7_6)
  have Fw5 := F_value.same W5
  have f6 := (E_a1.wr W5)
  have N5 := Fr.snoc X5 N2 g_a1
  have K5 := (Keep.refl h0 [a1]).wr W5 (Or.inl (List.mem_of_getElem? (i := 0) rfl))
  have O5 : Ext Z.heap h5 := own_ext_keep O0 (Keep.of_wr W5) (allS z_a1 all0)
  have Z5 : n0 ≤ h5.size := Nat.le_trans Z0 (Keep.of_wr W5).1
  have pre7 : ∀ t, Steps p.tables e below (T5.setTop (mkF m 9 #[.val (.ref a1), .val (.int p1)] [])) t → Steps p.tables e below (s₁.setTop (entryFrame m #[(.ref a1), (.int p1)] 2)) t := fun t k => pre4 t (st5 t k)
  obtain ⟨fs, hr, hrun, hended, hW, hsame⟩ := X5.leave (v := none) (fun _ => rfl)
  refine ⟨_, _, pre7 _ ?_, hrun, hended, _, _, rfl, ?_, ⟨_, rfl⟩, hW, hsame.mono (by decide) (by decide)⟩
  · exact X5.returnOut hx Bd.returns (hb hby d7_9) hr
  · show Q_rm_ini Z a1 p1 h0 n0 _ T5.heap _
    rw [e5]
    exact ⟨rfl, N5, K5, f6, Fw5⟩
theorem ef_6 (m : MethodId) (x0 : Int32) : entryFrame m #[(.int x0)] 1 = mkF m 0 #[.val (.int x0)] [] := by first | (simp [entryFrame, mkF, argsToLocals, Value.category]; done) | rfl
theorem d6_0 : decode jdk_33_method_22_code 0 = .ok (.iload_n 0, 1) := by decide +kernel
theorem d6_1 : decode jdk_33_method_22_code 1 = .ok (.bipush (-128), 2) := by decide +kernel
theorem d6_3 : decode jdk_33_method_22_code 3 = .ok (.if_icmp .lt 20, 3) := by decide +kernel
theorem d6_23 : decode jdk_33_method_22_code 23 = .ok (.new 1, 3) := by decide +kernel
theorem d6_26 : decode jdk_33_method_22_code 26 = .ok (.dup, 1) := by decide +kernel
theorem d6_27 : decode jdk_33_method_22_code 27 = .ok (.iload_n 0, 1) := by decide +kernel
theorem pd_1 : parseMethodDescriptor "(I)V" = some ⟨[.int], none⟩ := by decide +kernel
theorem d6_28 : decode jdk_33_method_22_code 28 = .ok (.invokespecial 199, 3) := by decide +kernel
theorem d6_31 : decode jdk_33_method_22_code 31 = .ok (.areturn, 1) := by decide +kernel
theorem d6_6 : decode jdk_33_method_22_code 6 = .ok (.iload_n 0, 1) := by decide +kernel
theorem d6_7 : decode jdk_33_method_22_code 7 = .ok (.getstatic 191, 3) := by decide +kernel
theorem d6_10 : decode jdk_33_method_22_code 10 = .ok (.if_icmp .gt 13, 3) := by decide +kernel
theorem d6_13 : decode jdk_33_method_22_code 13 = .ok (.getstatic 195, 3) := by decide +kernel
theorem d6_16 : decode jdk_33_method_22_code 16 = .ok (.iload_n 0, 1) := by decide +kernel
theorem d6_17 : decode jdk_33_method_22_code 17 = .ok (.sipush 128, 3) := by decide +kernel
theorem d6_20 : decode jdk_33_method_22_code 20 = .ok (.iadd, 1) := by decide +kernel
theorem d6_21 : decode jdk_33_method_22_code 21 = .ok (.aaload, 1) := by decide +kernel
theorem d6_22 : decode jdk_33_method_22_code 22 = .ok (.areturn, 1) := by decide +kernel
def Q_rm_vo (Z : State) (p1 : Int32) (cA : Addr) (cl : Cell) (h0 : Heap) (n0 : Nat) (v : Option Value) (h : Heap) (L : List Loc) : Prop := (∃ r : Addr, v = some (.ref r) ∧ Exa Z h r "java/lang/Integer") ∧ Fr n0 L ∧ Keep h0 h []
set_option maxRecDepth 65536 in
set_option maxHeartbeats 40000000 in
theorem rm_vo (l : Launch) (Z : State) (a0 : Array Value) (hw : ∀ d ∈ tables_1, d.before a0 Z = true) (ws : List Jvm.Cond) (p1 : Int32) (cA : Addr) (cl : Cell) (h0 : Heap) (n0 : Nat) (Z0 : n0 ≤ h0.size) (O0 : Ext Z.heap h0) (C0 : CacheF Z cA cl) :
    MetFree l (⟨"java/lang/Integer", "valueOf", "(I)Ljava/lang/Integer;"⟩ : MethodName) (head1 (Jvm.Cond.code (⟨"java/lang/Integer", "valueOf", "(I)Ljava/lang/Integer;"⟩ : MethodName) jdk_33_method_22_code 1 (some (.object "java/lang/Integer")) :: ws) ({ frames := 3, cells := 1, slots := 1, locals := 38 } : Room)) (fun a U => a = #[(.int p1)] ∧ Z.Warmed39 U.vm ∧ U.heap = h0) (fun _ _ _ _ _ => True) (fun _ U o U' => ∃ v L, o = .returned v ∧ Q_rm_vo Z p1 cA cl h0 n0 v U'.heap L ∧ FrameEnd U o U' L ({ frames := 3, cells := 1, slots := 1, locals := 38 } : Room).cells ({ frames := 3, cells := 1, slots := 1, locals := 38 } : Room).slots) := by
  refine MetFree.of_bodySF (plainFor_of_name pn_java_lang_Integer) hisR ?_
  intro p e s m args below meth c s₁ Bd hml0 hP hK
  obtain ⟨rfl, hZ, hh⟩ := hP
  have hx := Bd.exec
  have hby := Bd.bytes
  have hml : c.maxLocals = 1 := hml0
  have hown : s.vm.findClass "java/lang/Integer" = some m.cls := findClass_of_methodNamed Bd.named
  have hnm := (name_of_methodNamed Bd.named Bd.method).1
  have X0 : Stand p l e ({ frames := 3, cells := 1, slots := 1, locals := 38 } : Room) s m #[(.int p1)] below meth c s₁ [] 0 0 := Stand.of_body Bd
  have e0 : s₁.heap = h0 := by rw [← hh, Bd.state]; rfl
  have N0 := Fr.nil n0
  have pre0 : ∀ t, Steps p.tables e below (s₁.setTop (mkF m 0 #[.val (.int p1)] [])) t → Steps p.tables e below (s₁.setTop (entryFrame m #[(.int p1)] 1)) t := fun t k => castTop (ef_6 m p1) k
  obtain ⟨S_high, S_cache, A_cache, hsz, hel⟩ := C0
  have pre1 : ∀ t, Steps p.tables e below (s₁.setTop (mkF m 3 #[.val (.int p1)] [(.int (-128 : Int32)), (.int p1)])) t → Steps p.tables e below (s₁.setTop (entryFrame m #[(.int p1)] 1)) t := fun t k => pre0 t (by
    show Steps p.tables e below (s₁.setTop (mkF m 0 #[.val (.int p1)] [])) _
    refine XS.iloadN X0.here hx rfl (hb hby d6_0) rfl ?_
    show Steps p.tables e below (s₁.setTop (mkF m 1 #[.val (.int p1)] [(.int p1)])) _
    refine XS.bipush X0.here hx rfl (hb hby d6_1) ?_
    exact k)
  by_cases hc3_2 : p1 < (-128 : Int32)
  · have pre3 : ∀ t, Steps p.tables e below (s₁.setTop (mkF m 23 #[.val (.int p1)] [])) t → Steps p.tables e below (s₁.setTop (entryFrame m #[(.int p1)] 1)) t := fun t k => pre1 t (by
      show Steps p.tables e below (s₁.setTop (mkF m 3 #[.val (.int p1)] [(.int (-128 : Int32)), (.int p1)])) _
      refine XS.icmpYes X0.here hx rfl (pc0 := 3) (pc' := 23) rfl (hb hby d6_3) rfl (tlt hc3_2).1 (by decide) (by decide) ?_
      exact k)
    obtain ⟨T4, h4, X4, e4, E4, A4, D4, -, st4⟩ := newO X0 hx hZ hown (hw _ (List.mem_of_getElem? (i := 40) rfl)) (hw _ (List.mem_of_getElem? (i := 41) rfl)) (hw _ (List.mem_of_getElem? (i := 36) rfl)) e0 (g := (mkF m 23 #[.val (.int p1)] [])) rfl (hb hby d6_23) (by decide) (by decide)
    obtain ⟨b4, g4⟩ : ∃ z, z = h0.size := ⟨_, rfl⟩
    rw [← g4] at A4 D4 st4
    have F_value_b4 : Fld Z h4 b4 "java/lang/Integer" "value" "I" (.int (0 : Int32)) := D4 (Or.inr (hw _ (List.mem_of_getElem? (i := 54) rfl))) (ty := .int) (by decide)
    have g_b4 : n0 ≤ b4 := Nat.le_trans Z0 (Nat.le_of_eq g4.symm)
    have z_b4 : Z.heap.size ≤ b4 := Nat.le_trans O0.1 (Nat.le_of_eq g4.symm)
    have sz_b4 : h0.size ≤ b4 := Nat.le_trans (Keep.refl h0 []).1 (Nat.le_of_eq g4.symm)
    have K4 := (Keep.refl h0 []).ext E4
    have O4 : Ext Z.heap h4 := own_ext_trans O0 E4
    have Z4 : n0 ≤ h4.size := Nat.le_trans Z0 E4.1
    have pre5 : ∀ t, Steps p.tables e below (T4.setTop (mkF m 26 #[.val (.int p1)] [(.ref b4)])) t → Steps p.tables e below (s₁.setTop (entryFrame m #[(.int p1)] 1)) t := fun t k => pre3 t (st4 t k)
    have pre6 : ∀ t, Steps p.tables e below (T4.setTop (mkF m 28 #[.val (.int p1)] [(.int p1), (.ref b4), (.ref b4)])) t → Steps p.tables e below (s₁.setTop (entryFrame m #[(.int p1)] 1)) t := fun t k => pre5 t (by
      show Steps p.tables e below (T4.setTop (mkF m 26 #[.val (.int p1)] [(.ref b4)])) _
      refine XS.dup X4.here hx rfl (hb hby d6_26) rfl rfl ?_
      show Steps p.tables e below (T4.setTop (mkF m 27 #[.val (.int p1)] [(.ref b4), (.ref b4)])) _
      refine XS.iloadN X4.here hx rfl (hb hby d6_27) rfl ?_
      exact k)
    obtain ⟨_, _, ⟨T7, L7, k7, n7⟩, -, X7, ⟨Lc7, hQ7, l7, y7, z7⟩, st7⟩ := X4.specialBack hx (y := (⟨"java/lang/Integer", "<init>", "(I)V"⟩ : MethodName)) rfl hown (mvT hZ (hw _ (List.mem_of_getElem? (i := 42) rfl))) (mvT hZ (hw _ (List.mem_of_getElem? (i := 43) rfl))) (mvT hZ (hw _ (List.mem_of_getElem? (i := 45) rfl))) (by decide) (backOf (W := 1) (rm_ini l Z a0 hw [] b4 p1 h4 n0 Z4 O4 A4 F_value_b4 g_b4 z_b4) hZ (hw _ (List.mem_of_getElem? (i := 45) rfl)) (hw _ (List.mem_of_getElem? (i := 36) rfl)) (by decide) (by decide)) (g := (mkF m 28 #[.val (.int p1)] [(.int p1), (.ref b4), (.ref b4)])) rfl (by rw [hml]; rfl) (Steps.refl _) (a := b4) (argsL := [(.int p1)]) (rest := [(.ref b4)]) (lenOf pd_1 rfl) rfl (by show 2 * 0 + _ ≤ _; exact Nat.le_of_eq rfl) (hb hby d6_28) (fun _ _ => ⟨rfl, e4, (by decide : 1 + 0 ≤ _), (by decide : 1 + 0 ≤ _)⟩)
    dsimp only [Pt.U, Pt.locs, Pt.cells, Pt.slots] at X7 l7 y7 z7 st7 hQ7
    subst l7 y7 z7
    obtain ⟨rfl, N7q, Kq7, r7_0, r7_1⟩ := hQ7
    have O7 : Ext Z.heap T7.heap := own_ext_keep O4 Kq7 (allS z_b4 all0)
    have K7 := K4.trans Kq7 (allS (Or.inr sz_b4) all0)
    have Z7 : n0 ≤ T7.heap.size := Nat.le_trans Z4 Kq7.1
    have N7 := Fr.app N0 N7q
    have pre8 : ∀ t, Steps p.tables e below (T7.setTop (mkF m 31 #[.val (.int p1)] [(.ref b4)])) t → Steps p.tables e below (s₁.setTop (entryFrame m #[(.int p1)] 1)) t := fun t k => pre6 t (st7.trans k)
    obtain ⟨fs, hr, hrun, hended, hW, hsame⟩ := X7.leave (v := some (.ref b4)) (fun h => by rw [Bd.returns] at h; cases h)
    refine ⟨_, _, pre8 _ ?_, hrun, hended, _, _, rfl, ?_, ⟨_, rfl⟩, hW, hsame.mono (by decide) (by decide)⟩
    · show Steps p.tables e below (T7.setTop (mkF m 31 #[.val (.int p1)] [(.ref b4)])) _
      jvm_step X7.here [X7.here.top, hx, (hb hby d6_31), X7.method', Bd.returns, Value.isRef, FieldType.isReference]
      first | (intro acts; rw [hr _ acts rfl rfl rfl]) | rw [hr _ _ rfl rfl rfl]
      exact Steps.refl _
    · show Q_rm_vo Z p1 cA cl h0 n0 _ T7.heap _
      exact ⟨⟨b4, rfl, r7_0⟩, N7, K7⟩
  · have pre9 : ∀ t, Steps p.tables e below (s₁.setTop (mkF m 7 #[.val (.int p1)] [(.int p1)])) t → Steps p.tables e below (s₁.setTop (entryFrame m #[(.int p1)] 1)) t := fun t k => pre1 t (by
      show Steps p.tables e below (s₁.setTop (mkF m 3 #[.val (.int p1)] [(.int (-128 : Int32)), (.int p1)])) _
      refine XS.icmpNo X0.here hx rfl (hb hby d6_3) rfl (flt hc3_2).1 ?_
      show Steps p.tables e below (s₁.setTop (mkF m 6 #[.val (.int p1)] [])) _
      refine XS.iloadN X0.here hx rfl (hb hby d6_6) rfl ?_
      exact k)
    obtain ⟨T10, X10, e10, st10⟩ := getS2 X0 hx hZ hown (host := "") (Or.inl (hw _ (List.mem_of_getElem? (i := 38) rfl))) Via.refl e0 (Sta.ext O0 S_high) (g := (mkF m 7 #[.val (.int p1)] [(.int p1)])) rfl (hb hby d6_7)
    have pre11 : ∀ t, Steps p.tables e below (T10.setTop (mkF m 10 #[.val (.int p1)] [(.int (127 : Int32)), (.int p1)])) t → Steps p.tables e below (s₁.setTop (entryFrame m #[(.int p1)] 1)) t := fun t k => pre9 t (st10 t k)
    by_cases hc10_12 : (127 : Int32) < p1
    · have pre13 : ∀ t, Steps p.tables e below (T10.setTop (mkF m 23 #[.val (.int p1)] [])) t → Steps p.tables e below (s₁.setTop (entryFrame m #[(.int p1)] 1)) t := fun t k => pre11 t (by
        show Steps p.tables e below (T10.setTop (mkF m 10 #[.val (.int p1)] [(.int (127 : Int32)), (.int p1)])) _
        refine XS.icmpYes X10.here hx rfl (pc0 := 10) (pc' := 23) rfl (hb hby d6_10) rfl (tlt hc10_12).2.2.1 (by decide) (by decide) ?_
        exact k)
      obtain ⟨T14, h14, X14, e14, E14, A14, D14, -, st14⟩ := newO X10 hx hZ hown (hw _ (List.mem_of_getElem? (i := 40) rfl)) (hw _ (List.mem_of_getElem? (i := 41) rfl)) (hw _ (List.mem_of_getElem? (i := 36) rfl)) e10 (g := (mkF m 23 #[.val (.int p1)] [])) rfl (hb hby d6_23) (by decide) (by decide)
      obtain ⟨b14, g14⟩ : ∃ z, z = h0.size := ⟨_, rfl⟩
      rw [← g14] at A14 D14 st14
      have F_value_b14 : Fld Z h14 b14 "java/lang/Integer" "value" "I" (.int (0 : Int32)) := D14 (Or.inr (hw _ (List.mem_of_getElem? (i := 54) rfl))) (ty := .int) (by decide)
      have g_b14 : n0 ≤ b14 := Nat.le_trans Z0 (Nat.le_of_eq g14.symm)
      have z_b14 : Z.heap.size ≤ b14 := Nat.le_trans O0.1 (Nat.le_of_eq g14.symm)
      have sz_b14 : h0.size ≤ b14 := Nat.le_trans (Keep.refl h0 []).1 (Nat.le_of_eq g14.symm)
      have K14 := (Keep.refl h0 []).ext E14
      have O14 : Ext Z.heap h14 := own_ext_trans O0 E14
      have Z14 : n0 ≤ h14.size := Nat.le_trans Z0 E14.1
      have pre15 : ∀ t, Steps p.tables e below (T14.setTop (mkF m 26 #[.val (.int p1)] [(.ref b14)])) t → Steps p.tables e below (s₁.setTop (entryFrame m #[(.int p1)] 1)) t := fun t k => pre13 t (st14 t k)
      have pre16 : ∀ t, Steps p.tables e below (T14.setTop (mkF m 28 #[.val (.int p1)] [(.int p1), (.ref b14), (.ref b14)])) t → Steps p.tables e below (s₁.setTop (entryFrame m #[(.int p1)] 1)) t := fun t k => pre15 t (by
        show Steps p.tables e below (T14.setTop (mkF m 26 #[.val (.int p1)] [(.ref b14)])) _
        refine XS.dup X14.here hx rfl (hb hby d6_26) rfl rfl ?_
        show Steps p.tables e below (T14.setTop (mkF m 27 #[.val (.int p1)] [(.ref b14), (.ref b14)])) _
        refine XS.iloadN X14.here hx rfl (hb hby d6_27) rfl ?_
        exact k)
      obtain ⟨_, _, ⟨T17, L17, k17, n17⟩, -, X17, ⟨Lc17, hQ17, l17, y17, z17⟩, st17⟩ := X14.specialBack hx (y := (⟨"java/lang/Integer", "<init>", "(I)V"⟩ : MethodName)) rfl hown (mvT hZ (hw _ (List.mem_of_getElem? (i := 42) rfl))) (mvT hZ (hw _ (List.mem_of_getElem? (i := 43) rfl))) (mvT hZ (hw _ (List.mem_of_getElem? (i := 45) rfl))) (by decide) (backOf (W := 1) (rm_ini l Z a0 hw [] b14 p1 h14 n0 Z14 O14 A14 F_value_b14 g_b14 z_b14) hZ (hw _ (List.mem_of_getElem? (i := 45) rfl)) (hw _ (List.mem_of_getElem? (i := 36) rfl)) (by decide) (by decide)) (g := (mkF m 28 #[.val (.int p1)] [(.int p1), (.ref b14), (.ref b14)])) rfl (by rw [hml]; rfl) (Steps.refl _) (a := b14) (argsL := [(.int p1)]) (rest := [(.ref b14)]) (lenOf pd_1 rfl) rfl (by show 2 * 0 + _ ≤ _; exact Nat.le_of_eq rfl) (hb hby d6_28) (fun _ _ => ⟨rfl, e14, (by decide : 1 + 0 ≤ _), (by decide : 1 + 0 ≤ _)⟩)
      dsimp only [Pt.U, Pt.locs, Pt.cells, Pt.slots] at X17 l17 y17 z17 st17 hQ17
      subst l17 y17 z17
      obtain ⟨rfl, N17q, Kq17, r17_0, r17_1⟩ := hQ17
      have O17 : Ext Z.heap T17.heap := own_ext_keep O14 Kq17 (allS z_b14 all0)
      have K17 := K14.trans Kq17 (allS (Or.inr sz_b14) all0)
      have Z17 : n0 ≤ T17.heap.size := Nat.le_trans Z14 Kq17.1
      have N17 := Fr.app N0 N17q
      have pre18 : ∀ t, Steps p.tables e below (T17.setTop (mkF m 31 #[.val (.int p1)] [(.ref b14)])) t → Steps p.tables e below (s₁.setTop (entryFrame m #[(.int p1)] 1)) t := fun t k => pre16 t (st17.trans k)
      obtain ⟨fs, hr, hrun, hended, hW, hsame⟩ := X17.leave (v := some (.ref b14)) (fun h => by rw [Bd.returns] at h; cases h)
      refine ⟨_, _, pre18 _ ?_, hrun, hended, _, _, rfl, ?_, ⟨_, rfl⟩, hW, hsame.mono (by decide) (by decide)⟩
      · show Steps p.tables e below (T17.setTop (mkF m 31 #[.val (.int p1)] [(.ref b14)])) _
        jvm_step X17.here [X17.here.top, hx, (hb hby d6_31), X17.method', Bd.returns, Value.isRef, FieldType.isReference]
        first | (intro acts; rw [hr _ acts rfl rfl rfl]) | rw [hr _ _ rfl rfl rfl]
        exact Steps.refl _
      · show Q_rm_vo Z p1 cA cl h0 n0 _ T17.heap _
        exact ⟨⟨b14, rfl, r17_0⟩, N17, K17⟩
    · have pre19 : ∀ t, Steps p.tables e below (T10.setTop (mkF m 13 #[.val (.int p1)] [])) t → Steps p.tables e below (s₁.setTop (entryFrame m #[(.int p1)] 1)) t := fun t k => pre11 t (by
        show Steps p.tables e below (T10.setTop (mkF m 10 #[.val (.int p1)] [(.int (127 : Int32)), (.int p1)])) _
        refine XS.icmpNo X10.here hx rfl (hb hby d6_10) rfl (flt hc10_12).2.2.1 ?_
        exact k)
      obtain ⟨T20, X20, e20, st20⟩ := getS2 X10 hx hZ hown (host := "") (Or.inl (hw _ (List.mem_of_getElem? (i := 58) rfl))) Via.refl e10 (Sta.ext O0 S_cache) (g := (mkF m 13 #[.val (.int p1)] [])) rfl (hb hby d6_13)
      have pre21 : ∀ t, Steps p.tables e below (T20.setTop (mkF m 16 #[.val (.int p1)] [(.ref cA)])) t → Steps p.tables e below (s₁.setTop (entryFrame m #[(.int p1)] 1)) t := fun t k => pre19 t (st20 t k)
      have pre22 : ∀ t, Steps p.tables e below (T20.setTop (mkF m 21 #[.val (.int p1)] [(.int (p1 + (128 : Int32))), (.ref cA)])) t → Steps p.tables e below (s₁.setTop (entryFrame m #[(.int p1)] 1)) t := fun t k => pre21 t (by
        show Steps p.tables e below (T20.setTop (mkF m 16 #[.val (.int p1)] [(.ref cA)])) _
        refine XS.iloadN X20.here hx rfl (hb hby d6_16) rfl ?_
        show Steps p.tables e below (T20.setTop (mkF m 17 #[.val (.int p1)] [(.int p1), (.ref cA)])) _
        refine XS.sipush X20.here hx rfl (hb hby d6_17) ?_
        show Steps p.tables e below (T20.setTop (mkF m 20 #[.val (.int p1)] [(.int (128 : Int32)), (.int p1), (.ref cA)])) _
        refine XS.iadd X20.here hx rfl (hb hby d6_20) rfl ?_
        exact k)
      have hix := own_idx hc3_2 hc10_12
      obtain ⟨r, hat, Er⟩ := hel _ hix
      have pre23 : ∀ t, Steps p.tables e below (T20.setTop (mkF m 22 #[.val (.int p1)] [(.ref r)])) t → Steps p.tables e below (s₁.setTop (entryFrame m #[(.int p1)] 1)) t := fun t k => pre22 t (by
        show Steps p.tables e below (T20.setTop (mkF m 21 #[.val (.int p1)] [(.int (p1 + (128 : Int32))), (.ref cA)])) _
        refine X20.aaload hx (j := (p1 + (128 : Int32))) (v := (.ref r)) (by rw [e20]; exact (Arr.ext O0 A_cache).1) (State.isArrayOf_alike hZ.alike (Arr.ext O0 A_cache).2.1) rfl (Arr.ext O0 A_cache).2.2 (by rw [hsz]; exact hix) hat (g := (mkF m 21 #[.val (.int p1)] [(.int (p1 + (128 : Int32))), (.ref cA)])) rfl rfl (hb hby d6_21) _ ?_
        exact k)
      obtain ⟨fs, hr, hrun, hended, hW, hsame⟩ := X20.leave (v := some (.ref r)) (fun h => by rw [Bd.returns] at h; cases h)
      refine ⟨_, _, pre23 _ ?_, hrun, hended, _, _, rfl, ?_, ⟨_, rfl⟩, hW, hsame.mono (by decide) (by decide)⟩
      · show Steps p.tables e below (T20.setTop (mkF m 22 #[.val (.int p1)] [(.ref r)])) _
        jvm_step X20.here [X20.here.top, hx, (hb hby d6_22), X20.method', Bd.returns, Value.isRef, FieldType.isReference]
        first | (intro acts; rw [hr _ acts rfl rfl rfl]) | rw [hr _ _ rfl rfl rfl]
        exact Steps.refl _
      · show Q_rm_vo Z p1 cA cl h0 n0 _ T20.heap _
        rw [e20]
        exact ⟨⟨r, rfl, (Exa.ext O0 Er)⟩, N0, (Keep.refl h0 [])⟩
theorem ef_1 (m : MethodId) (x0 : Int64) (x1 : Int64) : entryFrame m #[(.long x0), (.long x1)] 4 = mkF m 0 #[.val (.long x0), .second, .val (.long x1), .second] [] := by first | (simp [entryFrame, mkF, argsToLocals, Value.category]; done) | rfl
theorem d1_0 : decode jdk_29_method_70_code 0 = .ok (.lload_n 0, 1) := by decide +kernel
theorem d1_1 : decode jdk_29_method_70_code 1 = .ok (.lload_n 2, 1) := by decide +kernel
theorem d1_2 : decode jdk_29_method_70_code 2 = .ok (.lcmp, 1) := by decide +kernel
theorem d1_3 : decode jdk_29_method_70_code 3 = .ok (.ifCond .gt 7, 3) := by decide +kernel
theorem d1_10 : decode jdk_29_method_70_code 10 = .ok (.lload_n 2, 1) := by decide +kernel
theorem d1_11 : decode jdk_29_method_70_code 11 = .ok (.lreturn, 1) := by decide +kernel
theorem d1_6 : decode jdk_29_method_70_code 6 = .ok (.lload_n 0, 1) := by decide +kernel
theorem d1_7 : decode jdk_29_method_70_code 7 = .ok (.goto 4, 3) := by decide +kernel
def Q_rm_min (Z : State) (q1 : Int64) (q2 : Int64) (h0 : Heap) (n0 : Nat) (v : Option Value) (h : Heap) (L : List Loc) : Prop := v = some (.long (minJ q1 q2)) ∧ Fr n0 L ∧ h = h0
set_option maxRecDepth 65536 in
set_option maxHeartbeats 40000000 in
theorem rm_min (l : Launch) (Z : State) (a0 : Array Value) (hw : ∀ d ∈ tables_1, d.before a0 Z = true) (ws : List Jvm.Cond) (q1 : Int64) (q2 : Int64) (h0 : Heap) (n0 : Nat) (Z0 : n0 ≤ h0.size) (O0 : Ext Z.heap h0) :
    MetFree l (⟨"java/lang/Math", "min", "(JJ)J"⟩ : MethodName) (head1 (Jvm.Cond.code (⟨"java/lang/Math", "min", "(JJ)J"⟩ : MethodName) jdk_29_method_70_code 4 (some .long) :: ws) ({ frames := 0, cells := 0, slots := 0, locals := 0 } : Room)) (fun a U => a = #[(.long q1), (.long q2)] ∧ Z.Warmed39 U.vm ∧ U.heap = h0) (fun _ _ _ _ _ => True) (fun _ U o U' => ∃ v L, o = .returned v ∧ Q_rm_min Z q1 q2 h0 n0 v U'.heap L ∧ FrameEnd U o U' L ({ frames := 0, cells := 0, slots := 0, locals := 0 } : Room).cells ({ frames := 0, cells := 0, slots := 0, locals := 0 } : Room).slots) := by
  refine MetFree.of_bodySF (Jvm.Free.JP.mathPlain rfl (by decide +kernel)) hisR ?_
  intro p e s m args below meth c s₁ Bd hml0 hP hK
  obtain ⟨rfl, hZ, hh⟩ := hP
  have hx := Bd.exec
  have hby := Bd.bytes
  have hml : c.maxLocals = 4 := hml0
  have hown : s.vm.findClass "java/lang/Math" = some m.cls := findClass_of_methodNamed Bd.named
  have hnm := (name_of_methodNamed Bd.named Bd.method).1
  have X0 : Stand p l e ({ frames := 0, cells := 0, slots := 0, locals := 0 } : Room) s m #[(.long q1), (.long q2)] below meth c s₁ [] 0 0 := Stand.of_body Bd
  have e0 : s₁.heap = h0 := by rw [← hh, Bd.state]; rfl
  have N0 := Fr.nil n0
  have pre0 : ∀ t, Steps p.tables e below (s₁.setTop (mkF m 0 #[.val (.long q1), .second, .val (.long q2), .second] [])) t → Steps p.tables e below (s₁.setTop (entryFrame m #[(.long q1), (.long q2)] 4)) t := fun t k => castTop (ef_1 m q1 q2) k
  have pre1 : ∀ t, Steps p.tables e below (s₁.setTop (mkF m 3 #[.val (.long q1), .second, .val (.long q2), .second] [(.int (lcmpW q1 q2))])) t → Steps p.tables e below (s₁.setTop (entryFrame m #[(.long q1), (.long q2)] 4)) t := fun t k => pre0 t (by
    show Steps p.tables e below (s₁.setTop (mkF m 0 #[.val (.long q1), .second, .val (.long q2), .second] [])) _
    refine XS.lloadN X0.here hx rfl (hb hby d1_0) rfl ?_
    show Steps p.tables e below (s₁.setTop (mkF m 1 #[.val (.long q1), .second, .val (.long q2), .second] [(.long q1)])) _
    refine XS.lloadN X0.here hx rfl (hb hby d1_1) rfl ?_
    show Steps p.tables e below (s₁.setTop (mkF m 2 #[.val (.long q1), .second, .val (.long q2), .second] [(.long q2), (.long q1)])) _
    refine XS.lcmp X0.here hx rfl (hb hby d1_2) rfl ?_
    exact k)
  by_cases hc3_2 : (0 : Int32) < (lcmpW q1 q2)
  · have pre3 : ∀ t, Steps p.tables e below (s₁.setTop (mkF m 11 #[.val (.long q1), .second, .val (.long q2), .second] [(.long q2)])) t → Steps p.tables e below (s₁.setTop (entryFrame m #[(.long q1), (.long q2)] 4)) t := fun t k => pre1 t (by
      show Steps p.tables e below (s₁.setTop (mkF m 3 #[.val (.long q1), .second, .val (.long q2), .second] [(.int (lcmpW q1 q2))])) _
      refine XS.ifYes X0.here hx rfl (pc0 := 3) (pc' := 10) rfl (hb hby d1_3) rfl ((if0 _ _).trans (tlt hc3_2).2.2.1) (by decide) (by decide) ?_
      show Steps p.tables e below (s₁.setTop (mkF m 10 #[.val (.long q1), .second, .val (.long q2), .second] [])) _
      refine XS.lloadN X0.here hx rfl (hb hby d1_10) rfl ?_
      exact k)
    obtain ⟨fs, hr, hrun, hended, hW, hsame⟩ := X0.leave (v := some (.long q2)) (fun h => by rw [Bd.returns] at h; cases h)
    refine ⟨_, _, pre3 _ ?_, hrun, hended, _, _, rfl, ?_, ⟨_, rfl⟩, hW, hsame.mono (by decide) (by decide)⟩
    · show Steps p.tables e below (s₁.setTop (mkF m 11 #[.val (.long q1), .second, .val (.long q2), .second] [(.long q2)])) _
      jvm_step X0.here [X0.here.top, hx, (hb hby d1_11), X0.method', Bd.returns, narrow]
      first | (intro acts; rw [hr _ acts rfl rfl rfl]) | rw [hr _ _ rfl rfl rfl]
      exact Steps.refl _
    · show Q_rm_min Z q1 q2 h0 n0 _ s₁.heap _
      rw [e0]
      exact ⟨(by simp only [minJ, if_pos ((lw_gt _ _).mp hc3_2)]), N0, rfl⟩
  · have pre4 : ∀ t, Steps p.tables e below (s₁.setTop (mkF m 11 #[.val (.long q1), .second, .val (.long q2), .second] [(.long q1)])) t → Steps p.tables e below (s₁.setTop (entryFrame m #[(.long q1), (.long q2)] 4)) t := fun t k => pre1 t (by
      show Steps p.tables e below (s₁.setTop (mkF m 3 #[.val (.long q1), .second, .val (.long q2), .second] [(.int (lcmpW q1 q2))])) _
      refine XS.ifNo X0.here hx rfl (hb hby d1_3) rfl ((if0 _ _).trans (flt hc3_2).2.2.1) ?_
      show Steps p.tables e below (s₁.setTop (mkF m 6 #[.val (.long q1), .second, .val (.long q2), .second] [])) _
      refine XS.lloadN X0.here hx rfl (hb hby d1_6) rfl ?_
      show Steps p.tables e below (s₁.setTop (mkF m 7 #[.val (.long q1), .second, .val (.long q2), .second] [(.long q1)])) _
      refine XS.goto X0.here hx rfl (pc0 := 7) (pc' := 11) rfl (hb hby d1_7) (by decide) (by decide) ?_
      exact k)
    obtain ⟨fs, hr, hrun, hended, hW, hsame⟩ := X0.leave (v := some (.long q1)) (fun h => by rw [Bd.returns] at h; cases h)
    refine ⟨_, _, pre4 _ ?_, hrun, hended, _, _, rfl, ?_, ⟨_, rfl⟩, hW, hsame.mono (by decide) (by decide)⟩
    · show Steps p.tables e below (s₁.setTop (mkF m 11 #[.val (.long q1), .second, .val (.long q2), .second] [(.long q1)])) _
      jvm_step X0.here [X0.here.top, hx, (hb hby d1_11), X0.method', Bd.returns, narrow]
      first | (intro acts; rw [hr _ acts rfl rfl rfl]) | rw [hr _ _ rfl rfl rfl]
      exact Steps.refl _
    · show Q_rm_min Z q1 q2 h0 n0 _ s₁.heap _
      rw [e0]
      exact ⟨(by simp only [minJ, if_neg (fun q => hc3_2 ((lw_gt _ _).mpr q))]), N0, rfl⟩
theorem ef_5 (m : MethodId) (x0 : Int64) (x1 : Int64) : entryFrame m #[(.long x0), (.long x1)] 4 = mkF m 0 #[.val (.long x0), .second, .val (.long x1), .second] [] := by first | (simp [entryFrame, mkF, argsToLocals, Value.category]; done) | rfl
theorem d5_0 : decode jdk_29_method_66_code 0 = .ok (.lload_n 0, 1) := by decide +kernel
theorem d5_1 : decode jdk_29_method_66_code 1 = .ok (.lload_n 2, 1) := by decide +kernel
theorem d5_2 : decode jdk_29_method_66_code 2 = .ok (.lcmp, 1) := by decide +kernel
theorem d5_3 : decode jdk_29_method_66_code 3 = .ok (.ifCond .lt 7, 3) := by decide +kernel
theorem d5_10 : decode jdk_29_method_66_code 10 = .ok (.lload_n 2, 1) := by decide +kernel
theorem d5_11 : decode jdk_29_method_66_code 11 = .ok (.lreturn, 1) := by decide +kernel
theorem d5_6 : decode jdk_29_method_66_code 6 = .ok (.lload_n 0, 1) := by decide +kernel
theorem d5_7 : decode jdk_29_method_66_code 7 = .ok (.goto 4, 3) := by decide +kernel
def Q_rm_max (Z : State) (q1 : Int64) (q2 : Int64) (h0 : Heap) (n0 : Nat) (v : Option Value) (h : Heap) (L : List Loc) : Prop := v = some (.long (maxJ q1 q2)) ∧ Fr n0 L ∧ h = h0
set_option maxRecDepth 65536 in
set_option maxHeartbeats 40000000 in
theorem rm_max (l : Launch) (Z : State) (a0 : Array Value) (hw : ∀ d ∈ tables_1, d.before a0 Z = true) (ws : List Jvm.Cond) (q1 : Int64) (q2 : Int64) (h0 : Heap) (n0 : Nat) (Z0 : n0 ≤ h0.size) (O0 : Ext Z.heap h0) :
    MetFree l (⟨"java/lang/Math", "max", "(JJ)J"⟩ : MethodName) (head1 (Jvm.Cond.code (⟨"java/lang/Math", "max", "(JJ)J"⟩ : MethodName) jdk_29_method_66_code 4 (some .long) :: ws) ({ frames := 0, cells := 0, slots := 0, locals := 0 } : Room)) (fun a U => a = #[(.long q1), (.long q2)] ∧ Z.Warmed39 U.vm ∧ U.heap = h0) (fun _ _ _ _ _ => True) (fun _ U o U' => ∃ v L, o = .returned v ∧ Q_rm_max Z q1 q2 h0 n0 v U'.heap L ∧ FrameEnd U o U' L ({ frames := 0, cells := 0, slots := 0, locals := 0 } : Room).cells ({ frames := 0, cells := 0, slots := 0, locals := 0 } : Room).slots) := by
  refine MetFree.of_bodySF (Jvm.Free.JP.mathPlain rfl (by decide +kernel)) hisR ?_
  intro p e s m args below meth c s₁ Bd hml0 hP hK
  obtain ⟨rfl, hZ, hh⟩ := hP
  have hx := Bd.exec
  have hby := Bd.bytes
  have hml : c.maxLocals = 4 := hml0
  have hown : s.vm.findClass "java/lang/Math" = some m.cls := findClass_of_methodNamed Bd.named
  have hnm := (name_of_methodNamed Bd.named Bd.method).1
  have X0 : Stand p l e ({ frames := 0, cells := 0, slots := 0, locals := 0 } : Room) s m #[(.long q1), (.long q2)] below meth c s₁ [] 0 0 := Stand.of_body Bd
  have e0 : s₁.heap = h0 := by rw [← hh, Bd.state]; rfl
  have N0 := Fr.nil n0
  have pre0 : ∀ t, Steps p.tables e below (s₁.setTop (mkF m 0 #[.val (.long q1), .second, .val (.long q2), .second] [])) t → Steps p.tables e below (s₁.setTop (entryFrame m #[(.long q1), (.long q2)] 4)) t := fun t k => castTop (ef_5 m q1 q2) k
  have pre1 : ∀ t, Steps p.tables e below (s₁.setTop (mkF m 3 #[.val (.long q1), .second, .val (.long q2), .second] [(.int (lcmpW q1 q2))])) t → Steps p.tables e below (s₁.setTop (entryFrame m #[(.long q1), (.long q2)] 4)) t := fun t k => pre0 t (by
    show Steps p.tables e below (s₁.setTop (mkF m 0 #[.val (.long q1), .second, .val (.long q2), .second] [])) _
    refine XS.lloadN X0.here hx rfl (hb hby d5_0) rfl ?_
    show Steps p.tables e below (s₁.setTop (mkF m 1 #[.val (.long q1), .second, .val (.long q2), .second] [(.long q1)])) _
    refine XS.lloadN X0.here hx rfl (hb hby d5_1) rfl ?_
    show Steps p.tables e below (s₁.setTop (mkF m 2 #[.val (.long q1), .second, .val (.long q2), .second] [(.long q2), (.long q1)])) _
    refine XS.lcmp X0.here hx rfl (hb hby d5_2) rfl ?_
    exact k)
  by_cases hc3_2 : (lcmpW q1 q2) < (0 : Int32)
  · have pre3 : ∀ t, Steps p.tables e below (s₁.setTop (mkF m 11 #[.val (.long q1), .second, .val (.long q2), .second] [(.long q2)])) t → Steps p.tables e below (s₁.setTop (entryFrame m #[(.long q1), (.long q2)] 4)) t := fun t k => pre1 t (by
      show Steps p.tables e below (s₁.setTop (mkF m 3 #[.val (.long q1), .second, .val (.long q2), .second] [(.int (lcmpW q1 q2))])) _
      refine XS.ifYes X0.here hx rfl (pc0 := 3) (pc' := 10) rfl (hb hby d5_3) rfl ((if0 _ _).trans (tlt hc3_2).1) (by decide) (by decide) ?_
      show Steps p.tables e below (s₁.setTop (mkF m 10 #[.val (.long q1), .second, .val (.long q2), .second] [])) _
      refine XS.lloadN X0.here hx rfl (hb hby d5_10) rfl ?_
      exact k)
    obtain ⟨fs, hr, hrun, hended, hW, hsame⟩ := X0.leave (v := some (.long q2)) (fun h => by rw [Bd.returns] at h; cases h)
    refine ⟨_, _, pre3 _ ?_, hrun, hended, _, _, rfl, ?_, ⟨_, rfl⟩, hW, hsame.mono (by decide) (by decide)⟩
    · show Steps p.tables e below (s₁.setTop (mkF m 11 #[.val (.long q1), .second, .val (.long q2), .second] [(.long q2)])) _
      jvm_step X0.here [X0.here.top, hx, (hb hby d5_11), X0.method', Bd.returns, narrow]
      first | (intro acts; rw [hr _ acts rfl rfl rfl]) | rw [hr _ _ rfl rfl rfl]
      exact Steps.refl _
    · show Q_rm_max Z q1 q2 h0 n0 _ s₁.heap _
      rw [e0]
      exact ⟨(by simp only [maxJ, if_pos ((lw_lt _ _).mp hc3_2)]), N0, rfl⟩
  · have pre4 : ∀ t, Steps p.tables e below (s₁.setTop (mkF m 11 #[.val (.long q1), .second, .val (.long q2), .second] [(.long q1)])) t → Steps p.tables e below (s₁.setTop (entryFrame m #[(.long q1), (.long q2)] 4)) t := fun t k => pre1 t (by
      show Steps p.tables e below (s₁.setTop (mkF m 3 #[.val (.long q1), .second, .val (.long q2), .second] [(.int (lcmpW q1 q2))])) _
      refine XS.ifNo X0.here hx rfl (hb hby d5_3) rfl ((if0 _ _).trans (flt hc3_2).1) ?_
      show Steps p.tables e below (s₁.setTop (mkF m 6 #[.val (.long q1), .second, .val (.long q2), .second] [])) _
      refine XS.lloadN X0.here hx rfl (hb hby d5_6) rfl ?_
      show Steps p.tables e below (s₁.setTop (mkF m 7 #[.val (.long q1), .second, .val (.long q2), .second] [(.long q1)])) _
      refine XS.goto X0.here hx rfl (pc0 := 7) (pc' := 11) rfl (hb hby d5_7) (by decide) (by decide) ?_
      exact k)
    obtain ⟨fs, hr, hrun, hended, hW, hsame⟩ := X0.leave (v := some (.long q1)) (fun h => by rw [Bd.returns] at h; cases h)
    refine ⟨_, _, pre4 _ ?_, hrun, hended, _, _, rfl, ?_, ⟨_, rfl⟩, hW, hsame.mono (by decide) (by decide)⟩
    · show Steps p.tables e below (s₁.setTop (mkF m 11 #[.val (.long q1), .second, .val (.long q2), .second] [(.long q1)])) _
      jvm_step X0.here [X0.here.top, hx, (hb hby d5_11), X0.method', Bd.returns, narrow]
      first | (intro acts; rw [hr _ acts rfl rfl rfl]) | rw [hr _ _ rfl rfl rfl]
      exact Steps.refl _
    · show Q_rm_max Z q1 q2 h0 n0 _ s₁.heap _
      rw [e0]
      exact ⟨(by simp only [maxJ, if_neg (fun q => hc3_2 ((lw_lt _ _).mpr q))]), N0, rfl⟩
theorem ef_2 (m : MethodId) (x0 : Addr) (x1 : Int32) (x2 : Int32) (x3 : Int32) (x4 : Int32) : entryFrame m #[(.ref x0), (.int x1), (.int x2), (.int x3), (.int x4)] 5 = mkF m 0 #[.val (.ref x0), .val (.int x1), .val (.int x2), .val (.int x3), .val (.int x4)] [] := by first | (simp [entryFrame, mkF, argsToLocals, Value.category]; done) | rfl
theorem pn_com_example_blynds_blynds_engine_Rect : plainName "com/example/blynds/blynds/engine/Rect" = true := by first | (simp [plainName, overriddenIn]; done) | decide +kernel
theorem d2_0 : decode prog_29_method_1_code 0 = .ok (.aload_n 0, 1) := by decide +kernel
theorem d2_1 : decode prog_29_method_1_code 1 = .ok (.invokespecial 1, 3) := by decide +kernel
theorem d2_4 : decode prog_29_method_1_code 4 = .ok (.iload_n 3, 1) := by decide +kernel
theorem d2_5 : decode prog_29_method_1_code 5 = .ok (.iload_n 1, 1) := by decide +kernel
theorem d2_6 : decode prog_29_method_1_code 6 = .ok (.if_icmp .lt 9, 3) := by decide +kernel
theorem d2_9 : decode prog_29_method_1_code 9 = .ok (.iload 4, 2) := by decide +kernel
theorem d2_11 : decode prog_29_method_1_code 11 = .ok (.iload_n 2, 1) := by decide +kernel
theorem d2_12 : decode prog_29_method_1_code 12 = .ok (.if_icmp .ge 14, 3) := by decide +kernel
theorem d2_26 : decode prog_29_method_1_code 26 = .ok (.iload_n 3, 1) := by decide +kernel
theorem d2_27 : decode prog_29_method_1_code 27 = .ok (.i2l, 1) := by decide +kernel
theorem d2_28 : decode prog_29_method_1_code 28 = .ok (.iload_n 1, 1) := by decide +kernel
theorem d2_29 : decode prog_29_method_1_code 29 = .ok (.i2l, 1) := by decide +kernel
theorem d2_30 : decode prog_29_method_1_code 30 = .ok (.lsub, 1) := by decide +kernel
theorem d2_31 : decode prog_29_method_1_code 31 = .ok (.ldc2_w 17, 3) := by decide +kernel
theorem d2_34 : decode prog_29_method_1_code 34 = .ok (.lcmp, 1) := by decide +kernel
theorem d2_35 : decode prog_29_method_1_code 35 = .ok (.ifCond .gt 16, 3) := by decide +kernel
theorem d2_38 : decode prog_29_method_1_code 38 = .ok (.iload 4, 2) := by decide +kernel
theorem d2_40 : decode prog_29_method_1_code 40 = .ok (.i2l, 1) := by decide +kernel
theorem d2_41 : decode prog_29_method_1_code 41 = .ok (.iload_n 2, 1) := by decide +kernel
theorem d2_42 : decode prog_29_method_1_code 42 = .ok (.i2l, 1) := by decide +kernel
theorem d2_43 : decode prog_29_method_1_code 43 = .ok (.lsub, 1) := by decide +kernel
theorem d2_44 : decode prog_29_method_1_code 44 = .ok (.ldc2_w 17, 3) := by decide +kernel
theorem d2_47 : decode prog_29_method_1_code 47 = .ok (.lcmp, 1) := by decide +kernel
theorem d2_48 : decode prog_29_method_1_code 48 = .ok (.ifCond .le 14, 3) := by decide +kernel
theorem d2_62 : decode prog_29_method_1_code 62 = .ok (.aload_n 0, 1) := by decide +kernel
theorem d2_63 : decode prog_29_method_1_code 63 = .ok (.iload_n 1, 1) := by decide +kernel
theorem d2_64 : decode prog_29_method_1_code 64 = .ok (.putfield 21, 3) := by decide +kernel
theorem d2_67 : decode prog_29_method_1_code 67 = .ok (.aload_n 0, 1) := by decide +kernel
theorem d2_68 : decode prog_29_method_1_code 68 = .ok (.iload_n 2, 1) := by decide +kernel
theorem d2_69 : decode prog_29_method_1_code 69 = .ok (.putfield 25, 3) := by decide +kernel
theorem d2_72 : decode prog_29_method_1_code 72 = .ok (.aload_n 0, 1) := by decide +kernel
theorem d2_73 : decode prog_29_method_1_code 73 = .ok (.iload_n 3, 1) := by decide +kernel
theorem d2_74 : decode prog_29_method_1_code 74 = .ok (.putfield 28, 3) := by decide +kernel
theorem d2_77 : decode prog_29_method_1_code 77 = .ok (.aload_n 0, 1) := by decide +kernel
theorem d2_78 : decode prog_29_method_1_code 78 = .ok (.iload 4, 2) := by decide +kernel
theorem d2_80 : decode prog_29_method_1_code 80 = .ok (.putfield 31, 3) := by decide +kernel
theorem d2_83 : decode prog_29_method_1_code 83 = .ok (.return_, 1) := by decide +kernel
def Q_rm_rc (Z : State) (a1 : Addr) (p1 : Int32) (p2 : Int32) (p3 : Int32) (p4 : Int32) (h0 : Heap) (n0 : Nat) (v : Option Value) (h : Heap) (L : List Loc) : Prop := v = none ∧ Fr n0 L ∧ Keep h0 h [a1] ∧ Exa Z h a1 "com/example/blynds/blynds/engine/Rect" ∧ Fld Z h a1 "com/example/blynds/blynds/engine/Rect" "left" "I" (.int p1) ∧ Fld Z h a1 "com/example/blynds/blynds/engine/Rect" "top" "I" (.int p2) ∧ Fld Z h a1 "com/example/blynds/blynds/engine/Rect" "right" "I" (.int p3) ∧ Fld Z h a1 "com/example/blynds/blynds/engine/Rect" "bottom" "I" (.int p4)
set_option maxRecDepth 65536 in
set_option maxHeartbeats 40000000 in
theorem rm_rc (l : Launch) (Z : State) (a0 : Array Value) (hw : ∀ d ∈ tables_1, d.before a0 Z = true) (ws : List Jvm.Cond) (a1 : Addr) (p1 : Int32) (p2 : Int32) (p3 : Int32) (p4 : Int32) (h0 : Heap) (n0 : Nat) (Z0 : n0 ≤ h0.size) (O0 : Ext Z.heap h0) (E_a1 : Exa Z h0 a1 "com/example/blynds/blynds/engine/Rect") (F_left : Fld Z h0 a1 "com/example/blynds/blynds/engine/Rect" "left" "I" (.int (0 : Int32))) (F_top : Fld Z h0 a1 "com/example/blynds/blynds/engine/Rect" "top" "I" (.int (0 : Int32))) (F_right : Fld Z h0 a1 "com/example/blynds/blynds/engine/Rect" "right" "I" (.int (0 : Int32))) (F_bottom : Fld Z h0 a1 "com/example/blynds/blynds/engine/Rect" "bottom" "I" (.int (0 : Int32))) (g_a1 : n0 ≤ a1) (z_a1 : Z.heap.size ≤ a1) (ok1 : OkR p1 p3) (ok2 : OkR p2 p4) :
    MetFree l (⟨"com/example/blynds/blynds/engine/Rect", "<init>", "(IIII)V"⟩ : MethodName) (head1 (Jvm.Cond.code (⟨"com/example/blynds/blynds/engine/Rect", "<init>", "(IIII)V"⟩ : MethodName) prog_29_method_1_code 5 none :: ws) ({ frames := 1, cells := 0, slots := 0, locals := 12 } : Room)) (fun a U => a = #[(.ref a1), (.int p1), (.int p2), (.int p3), (.int p4)] ∧ Z.Warmed39 U.vm ∧ U.heap = h0) (fun _ _ _ _ _ => True) (fun _ U o U' => ∃ v L, o = .returned v ∧ Q_rm_rc Z a1 p1 p2 p3 p4 h0 n0 v U'.heap L ∧ FrameEnd U o U' L ({ frames := 1, cells := 0, slots := 0, locals := 12 } : Room).cells ({ frames := 1, cells := 0, slots := 0, locals := 12 } : Room).slots) := by
  refine MetFree.of_bodySF (plainFor_of_name pn_com_example_blynds_blynds_engine_Rect) hisR ?_
  intro p e s m args below meth c s₁ Bd hml0 hP hK
  obtain ⟨rfl, hZ, hh⟩ := hP
  have hx := Bd.exec
  have hby := Bd.bytes
  have hml : c.maxLocals = 5 := hml0
  have hown : s.vm.findClass "com/example/blynds/blynds/engine/Rect" = some m.cls := findClass_of_methodNamed Bd.named
  have hnm := (name_of_methodNamed Bd.named Bd.method).1
  have X0 : Stand p l e ({ frames := 1, cells := 0, slots := 0, locals := 12 } : Room) s m #[(.ref a1), (.int p1), (.int p2), (.int p3), (.int p4)] below meth c s₁ [] 0 0 := Stand.of_body Bd
  have e0 : s₁.heap = h0 := by rw [← hh, Bd.state]; rfl
  have N0 := Fr.nil n0
  have pre0 : ∀ t, Steps p.tables e below (s₁.setTop (mkF m 0 #[.val (.ref a1), .val (.int p1), .val (.int p2), .val (.int p3), .val (.int p4)] [])) t → Steps p.tables e below (s₁.setTop (entryFrame m #[(.ref a1), (.int p1), (.int p2), (.int p3), (.int p4)] 5)) t := fun t k => castTop (ef_2 m a1 p1 p2 p3 p4) k
  have pre1 : ∀ t, Steps p.tables e below (s₁.setTop (mkF m 1 #[.val (.ref a1), .val (.int p1), .val (.int p2), .val (.int p3), .val (.int p4)] [(.ref a1)])) t → Steps p.tables e below (s₁.setTop (entryFrame m #[(.ref a1), (.int p1), (.int p2), (.int p3), (.int p4)] 5)) t := fun t k => pre0 t (by
    show Steps p.tables e below (s₁.setTop (mkF m 0 #[.val (.ref a1), .val (.int p1), .val (.int p2), .val (.int p3), .val (.int p4)] [])) _
    refine XS.aloadN X0.here hx rfl (hb hby d2_0) rfl rfl ?_
    exact k)
  obtain ⟨T2, X2, e2, st2⟩ := initO X0 hx hZ hown (hw _ (List.mem_of_getElem? (i := 12) rfl)) (hw _ (List.mem_of_getElem? (i := 13) rfl)) (hw _ (List.mem_of_getElem? (i := 14) rfl)) e0 (g := (mkF m 1 #[.val (.ref a1), .val (.int p1), .val (.int p2), .val (.int p3), .val (.int p4)] [(.ref a1)])) rfl (by rw [hml]; rfl) rfl (hb hby d2_1) (by decide) (W := 0) (by show 2 * 0 + _ ≤ _; exact Nat.le_of_eq rfl) (by decide)
  have pre3 : ∀ t, Steps p.tables e below (T2.setTop (mkF m 4 #[.val (.ref a1), .val (.int p1), .val (.int p2), .val (.int p3), .val (.int p4)] [])) t → Steps p.tables e below (s₁.setTop (entryFrame m #[(.ref a1), (.int p1), (.int p2), (.int p3), (.int p4)] 5)) t := fun t k => pre1 t (st2 t k)
  have pre4 : ∀ t, Steps p.tables e below (T2.setTop (mkF m 64 #[.val (.ref a1), .val (.int p1), .val (.int p2), .val (.int p3), .val (.int p4)] [(.int p1), (.ref a1)])) t → Steps p.tables e below (s₁.setTop (entryFrame m #[(.ref a1), (.int p1), (.int p2), (.int p3), (.int p4)] 5)) t := fun t k => pre3 t (by
    show Steps p.tables e below (T2.setTop (mkF m 4 #[.val (.ref a1), .val (.int p1), .val (.int p2), .val (.int p3), .val (.int p4)] [])) _
    refine XS.iloadN X2.here hx rfl (hb hby d2_4) rfl ?_
    show Steps p.tables e below (T2.setTop (mkF m 5 #[.val (.ref a1), .val (.int p1), .val (.int p2), .val (.int p3), .val (.int p4)] [(.int p3)])) _
    refine XS.iloadN X2.here hx rfl (hb hby d2_5) rfl ?_
    show Steps p.tables e below (T2.setTop (mkF m 6 #[.val (.ref a1), .val (.int p1), .val (.int p2), .val (.int p3), .val (.int p4)] [(.int p1), (.int p3)])) _
    refine XS.icmpNo X2.here hx rfl (hb hby d2_6) rfl (flt (own_ok1 ok1)).1 ?_
    show Steps p.tables e below (T2.setTop (mkF m 9 #[.val (.ref a1), .val (.int p1), .val (.int p2), .val (.int p3), .val (.int p4)] [])) _
    refine XS.iload X2.here hx rfl (hb hby d2_9) rfl ?_
    show Steps p.tables e below (T2.setTop (mkF m 11 #[.val (.ref a1), .val (.int p1), .val (.int p2), .val (.int p3), .val (.int p4)] [(.int p4)])) _
    refine XS.iloadN X2.here hx rfl (hb hby d2_11) rfl ?_
    show Steps p.tables e below (T2.setTop (mkF m 12 #[.val (.ref a1), .val (.int p1), .val (.int p2), .val (.int p3), .val (.int p4)] [(.int p2), (.int p4)])) _
    refine XS.icmpYes X2.here hx rfl (pc0 := 12) (pc' := 26) rfl (hb hby d2_12) rfl (flt (own_ok1 ok2)).2.1 (by decide) (by decide) ?_
    show Steps p.tables e below (T2.setTop (mkF m 26 #[.val (.ref a1), .val (.int p1), .val (.int p2), .val (.int p3), .val (.int p4)] [])) _
    refine XS.iloadN X2.here hx rfl (hb hby d2_26) rfl ?_
    show Steps p.tables e below (T2.setTop (mkF m 27 #[.val (.ref a1), .val (.int p1), .val (.int p2), .val (.int p3), .val (.int p4)] [(.int p3)])) _
    refine XS.i2l X2.here hx rfl (hb hby d2_27) rfl ?_
    show Steps p.tables e below (T2.setTop (mkF m 28 #[.val (.ref a1), .val (.int p1), .val (.int p2), .val (.int p3), .val (.int p4)] [(.long (p3.toInt64))])) _
    refine XS.iloadN X2.here hx rfl (hb hby d2_28) rfl ?_
    show Steps p.tables e below (T2.setTop (mkF m 29 #[.val (.ref a1), .val (.int p1), .val (.int p2), .val (.int p3), .val (.int p4)] [(.int p1), (.long (p3.toInt64))])) _
    refine XS.i2l X2.here hx rfl (hb hby d2_29) rfl ?_
    show Steps p.tables e below (T2.setTop (mkF m 30 #[.val (.ref a1), .val (.int p1), .val (.int p2), .val (.int p3), .val (.int p4)] [(.long (p1.toInt64)), (.long (p3.toInt64))])) _
    refine XS.lsub X2.here hx rfl (hb hby d2_30) rfl ?_
    show Steps p.tables e below (T2.setTop (mkF m 31 #[.val (.ref a1), .val (.int p1), .val (.int p2), .val (.int p3), .val (.int p4)] [(.long ((p3.toInt64) - (p1.toInt64)))])) _
    refine X2.ldc2Long hx hown (mvT hZ (hw _ (List.mem_of_getElem? (i := 15) rfl))) (g := (mkF m 31 #[.val (.ref a1), .val (.int p1), .val (.int p2), .val (.int p3), .val (.int p4)] [(.long ((p3.toInt64) - (p1.toInt64)))])) rfl (hb hby d2_31) _ ?_
    show Steps p.tables e below (T2.setTop (mkF m 34 #[.val (.ref a1), .val (.int p1), .val (.int p2), .val (.int p3), .val (.int p4)] [(.long (2147483647 : Int64)), (.long ((p3.toInt64) - (p1.toInt64)))])) _
    refine XS.lcmp X2.here hx rfl (hb hby d2_34) rfl ?_
    show Steps p.tables e below (T2.setTop (mkF m 35 #[.val (.ref a1), .val (.int p1), .val (.int p2), .val (.int p3), .val (.int p4)] [(.int (lcmpW ((p3.toInt64) - (p1.toInt64)) (2147483647 : Int64)))])) _
    refine XS.ifNo X2.here hx rfl (hb hby d2_35) rfl ((if0 _ _).trans (flt (own_ok2 ok1)).2.2.1) ?_
    show Steps p.tables e below (T2.setTop (mkF m 38 #[.val (.ref a1), .val (.int p1), .val (.int p2), .val (.int p3), .val (.int p4)] [])) _
    refine XS.iload X2.here hx rfl (hb hby d2_38) rfl ?_
    show Steps p.tables e below (T2.setTop (mkF m 40 #[.val (.ref a1), .val (.int p1), .val (.int p2), .val (.int p3), .val (.int p4)] [(.int p4)])) _
    refine XS.i2l X2.here hx rfl (hb hby d2_40) rfl ?_
    show Steps p.tables e below (T2.setTop (mkF m 41 #[.val (.ref a1), .val (.int p1), .val (.int p2), .val (.int p3), .val (.int p4)] [(.long (p4.toInt64))])) _
    refine XS.iloadN X2.here hx rfl (hb hby d2_41) rfl ?_
    show Steps p.tables e below (T2.setTop (mkF m 42 #[.val (.ref a1), .val (.int p1), .val (.int p2), .val (.int p3), .val (.int p4)] [(.int p2), (.long (p4.toInt64))])) _
    refine XS.i2l X2.here hx rfl (hb hby d2_42) rfl ?_
    show Steps p.tables e below (T2.setTop (mkF m 43 #[.val (.ref a1), .val (.int p1), .val (.int p2), .val (.int p3), .val (.int p4)] [(.long (p2.toInt64)), (.long (p4.toInt64))])) _
    refine XS.lsub X2.here hx rfl (hb hby d2_43) rfl ?_
    show Steps p.tables e below (T2.setTop (mkF m 44 #[.val (.ref a1), .val (.int p1), .val (.int p2), .val (.int p3), .val (.int p4)] [(.long ((p4.toInt64) - (p2.toInt64)))])) _
    refine X2.ldc2Long hx hown (mvT hZ (hw _ (List.mem_of_getElem? (i := 15) rfl))) (g := (mkF m 44 #[.val (.ref a1), .val (.int p1), .val (.int p2), .val (.int p3), .val (.int p4)] [(.long ((p4.toInt64) - (p2.toInt64)))])) rfl (hb hby d2_44) _ ?_
    show Steps p.tables e below (T2.setTop (mkF m 47 #[.val (.ref a1), .val (.int p1), .val (.int p2), .val (.int p3), .val (.int p4)] [(.long (2147483647 : Int64)), (.long ((p4.toInt64) - (p2.toInt64)))])) _
    refine XS.lcmp X2.here hx rfl (hb hby d2_47) rfl ?_
    show Steps p.tables e below (T2.setTop (mkF m 48 #[.val (.ref a1), .val (.int p1), .val (.int p2), .val (.int p3), .val (.int p4)] [(.int (lcmpW ((p4.toInt64) - (p2.toInt64)) (2147483647 : Int64)))])) _
    refine XS.ifYes X2.here hx rfl (pc0 := 48) (pc' := 62) rfl (hb hby d2_48) rfl ((if0 _ _).trans (flt (own_ok2 ok2)).2.2.2) (by decide) (by decide) ?_
    show Steps p.tables e below (T2.setTop (mkF m 62 #[.val (.ref a1), .val (.int p1), .val (.int p2), .val (.int p3), .val (.int p4)] [])) _
    refine XS.aloadN X2.here hx rfl (hb hby d2_62) rfl rfl ?_
    show Steps p.tables e below (T2.setTop (mkF m 63 #[.val (.ref a1), .val (.int p1), .val (.int p2), .val (.int p3), .val (.int p4)] [(.ref a1)])) _
    refine XS.iloadN X2.here hx rfl (hb hby d2_63) rfl ?_
    exact k)
  obtain ⟨T5, h5, X5, e5, W5, st5⟩ := putF X2 hx hZ hown (host := "") (Or.inl (hw _ (List.mem_of_getElem? (i := 16) rfl))) Via.refl e2 F_left E_a1 (Or.inr ⟨(hw _ (List.mem_of_getElem? (i := 17) rfl)), rfl, hnm⟩) (hw _ (List.mem_of_getElem? (i := 7) rfl)) (ty := .int) (by decide) rfl rfl (g := (mkF m 64 #[.val (.ref a1), .val (.int p1), .val (.int p2), .val (.int p3), .val (.int p4)] [(.int p1), (.ref a1)])) rfl rfl (hb hby d2_64)
  have Fw5 := F_left.same W5
  have f6 := (E_a1.wr W5)
  have f7 := (F_top.other W5 (Or.inr (slot_ne (Or.inr (hw _ (List.mem_of_getElem? (i := 19) rfl))) (Or.inr (hw _ (List.mem_of_getElem? (i := 17) rfl))) (by decide) (t := .int) (t' := .int) (by decide) (by decide))))
  have f8 := (F_right.other W5 (Or.inr (slot_ne (Or.inr (hw _ (List.mem_of_getElem? (i := 21) rfl))) (Or.inr (hw _ (List.mem_of_getElem? (i := 17) rfl))) (by decide) (t := .int) (t' := .int) (by decide) (by decide))))
  have f9 := (F_bottom.other W5 (Or.inr (slot_ne (Or.inr (hw _ (List.mem_of_getElem? (i := 23) rfl))) (Or.inr (hw _ (List.mem_of_getElem? (i := 17) rfl))) (by decide) (t := .int) (t' := .int) (by decide) (by decide))))
  have N5 := Fr.snoc X5 N0 g_a1
  have K5 := (Keep.refl h0 [a1]).wr W5 (Or.inl (List.mem_of_getElem? (i := 0) rfl))
  have O5 : Ext Z.heap h5 := own_ext_keep O0 (Keep.of_wr W5) (allS z_a1 all0)
  have Z5 : n0 ≤ h5.size := Nat.le_trans Z0 (Keep.of_wr W5).1
  have pre10 : ∀ t, Steps p.tables e below (T5.setTop (mkF m 67 #[.val (.ref a1), .val (.int p1), .val (.int p2), .val (.int p3), .val (.int p4)] [])) t → Steps p.tables e below (s₁.setTop (entryFrame m #[(.ref a1), (.int p1), (.int p2), (.int p3), (.int p4)] 5)) t := fun t k => pre4 t (st5 t k)
  have pre11 : ∀ t, Steps p.tables e below (T5.setTop (mkF m 69 #[.val (.ref a1), .val (.int p1), .val (.int p2), .val (.int p3), .val (.int p4)] [(.int p2), (.ref a1)])) t → Steps p.tables e below (s₁.setTop (entryFrame m #[(.ref a1), (.int p1), (.int p2), (.int p3), (.int p4)] 5)) t := fun t k => pre10 t (by
    show Steps p.tables e below (T5.setTop (mkF m 67 #[.val (.ref a1), .val (.int p1), .val (.int p2), .val (.int p3), .val (.int p4)] [])) _
    refine XS.aloadN X5.here hx rfl (hb hby d2_67) rfl rfl ?_
    show Steps p.tables e below (T5.setTop (mkF m 68 #[.val (.ref a1), .val (.int p1), .val (.int p2), .val (.int p3), .val (.int p4)] [(.ref a1)])) _
    refine XS.iloadN X5.here hx rfl (hb hby d2_68) rfl ?_
    exact k)
  obtain ⟨T12, h12, X12, e12, W12, st12⟩ := putF X5 hx hZ hown (host := "") (Or.inl (hw _ (List.mem_of_getElem? (i := 18) rfl))) Via.refl e5 f7 f6 (Or.inr ⟨(hw _ (List.mem_of_getElem? (i := 19) rfl)), rfl, hnm⟩) (hw _ (List.mem_of_getElem? (i := 7) rfl)) (ty := .int) (by decide) rfl rfl (g := (mkF m 69 #[.val (.ref a1), .val (.int p1), .val (.int p2), .val (.int p3), .val (.int p4)] [(.int p2), (.ref a1)])) rfl rfl (hb hby d2_69)
  have Fw12 := f7.same W12
  have f13 := (f6.wr W12)
  have f14 := (Fw5.other W12 (Or.inr (slot_ne (Or.inr (hw _ (List.mem_of_getElem? (i := 17) rfl))) (Or.inr (hw _ (List.mem_of_getElem? (i := 19) rfl))) (by decide) (t := .int) (t' := .int) (by decide) (by decide))))
  have f15 := (f8.other W12 (Or.inr (slot_ne (Or.inr (hw _ (List.mem_of_getElem? (i := 21) rfl))) (Or.inr (hw _ (List.mem_of_getElem? (i := 19) rfl))) (by decide) (t := .int) (t' := .int) (by decide) (by decide))))
  have f16 := (f9.other W12 (Or.inr (slot_ne (Or.inr (hw _ (List.mem_of_getElem? (i := 23) rfl))) (Or.inr (hw _ (List.mem_of_getElem? (i := 19) rfl))) (by decide) (t := .int) (t' := .int) (by decide) (by decide))))
  have N12 := Fr.snoc X12 N5 g_a1
  have K12 := K5.wr W12 (Or.inl (List.mem_of_getElem? (i := 0) rfl))
  have O12 : Ext Z.heap h12 := own_ext_keep O5 (Keep.of_wr W12) (allS z_a1 all0)
  have Z12 : n0 ≤ h12.size := Nat.le_trans Z5 (Keep.of_wr W12).1
  have pre17 : ∀ t, Steps p.tables e below (T12.setTop (mkF m 72 #[.val (.ref a1), .val (.int p1), .val (.int p2), .val (.int p3), .val (.int p4)] [])) t → Steps p.tables e below (s₁.setTop (entryFrame m #[(.ref a1), (.int p1), (.int p2), (.int p3), (.int p4)] 5)) t := fun t k => pre11 t (st12 t k)
  have pre18 : ∀ t, Steps p.tables e below (T12.setTop (mkF m 74 #[.val (.ref a1), .val (.int p1), .val (.int p2), .val (.int p3), .val (.int p4)] [(.int p3), (.ref a1)])) t → Steps p.tables e below (s₁.setTop (entryFrame m #[(.ref a1), (.int p1), (.int p2), (.int p3), (.int p4)] 5)) t := fun t k => pre17 t (by
    show Steps p.tables e below (T12.setTop (mkF m 72 #[.val (.ref a1), .val (.int p1), .val (.int p2), .val (.int p3), .val (.int p4)] [])) _
    refine XS.aloadN X12.here hx rfl (hb hby d2_72) rfl rfl ?_
    show Steps p.tables e below (T12.setTop (mkF m 73 #[.val (.ref a1), .val (.int p1), .val (.int p2), .val (.int p3), .val (.int p4)] [(.ref a1)])) _
    refine XS.iloadN X12.here hx rfl (hb hby d2_73) rfl ?_
    exact k)
  obtain ⟨T19, h19, X19, e19, W19, st19⟩ := putF X12 hx hZ hown (host := "") (Or.inl (hw _ (List.mem_of_getElem? (i := 20) rfl))) Via.refl e12 f15 f13 (Or.inr ⟨(hw _ (List.mem_of_getElem? (i := 21) rfl)), rfl, hnm⟩) (hw _ (List.mem_of_getElem? (i := 7) rfl)) (ty := .int) (by decide) rfl rfl (g := (mkF m 74 #[.val (.ref a1), .val (.int p1), .val (.int p2), .val (.int p3), .val (.int p4)] [(.int p3), (.ref a1)])) rfl rfl (hb hby d2_74)
  have Fw19 := f15.same W19
  have f20 := (f13.wr W19)
  have f21 := (f14.other W19 (Or.inr (slot_ne (Or.inr (hw _ (List.mem_of_getElem? (i := 17) rfl))) (Or.inr (hw _ (List.mem_of_getElem? (i := 21) rfl))) (by decide) (t := .int) (t' := .int) (by decide) (by decide))))
  have f22 := (Fw12.other W19 (Or.inr (slot_ne (Or.inr (hw _ (List.mem_of_getElem? (i := 19) rfl))) (Or.inr (hw _ (List.mem_of_getElem? (i := 21) rfl))) (by decide) (t := .int) (t' := .int) (by decide) (by decide))))
  have f23 := (f16.other W19 (Or.inr (slot_ne (Or.inr (hw _ (List.mem_of_getElem? (i := 23) rfl))) (Or.inr (hw _ (List.mem_of_getElem? (i := 21) rfl))) (by decide) (t := .int) (t' := .int) (by decide) (by decide))))
  have N19 := Fr.snoc X19 N12 g_a1
  have K19 := K12.wr W19 (Or.inl (List.mem_of_getElem? (i := 0) rfl))
  have O19 : Ext Z.heap h19 := own_ext_keep O12 (Keep.of_wr W19) (allS z_a1 all0)
  have Z19 : n0 ≤ h19.size := Nat.le_trans Z12 (Keep.of_wr W19).1
  have pre24 : ∀ t, Steps p.tables e below (T19.setTop (mkF m 77 #[.val (.ref a1), .val (.int p1), .val (.int p2), .val (.int p3), .val (.int p4)] [])) t → Steps p.tables e below (s₁.setTop (entryFrame m #[(.ref a1), (.int p1), (.int p2), (.int p3), (.int p4)] 5)) t := fun t k => pre18 t (st19 t k)
  have pre25 : ∀ t, Steps p.tables e below (T19.setTop (mkF m 80 #[.val (.ref a1), .val (.int p1), .val (.int p2), .val (.int p3), .val (.int p4)] [(.int p4), (.ref a1)])) t → Steps p.tables e below (s₁.setTop (entryFrame m #[(.ref a1), (.int p1), (.int p2), (.int p3), (.int p4)] 5)) t := fun t k => pre24 t (by
    show Steps p.tables e below (T19.setTop (mkF m 77 #[.val (.ref a1), .val (.int p1), .val (.int p2), .val (.int p3), .val (.int p4)] [])) _
    refine XS.aloadN X19.here hx rfl (hb hby d2_77) rfl rfl ?_
    show Steps p.tables e below (T19.setTop (mkF m 78 #[.val (.ref a1), .val (.int p1), .val (.int p2), .val (.int p3), .val (.int p4)] [(.ref a1)])) _
    refine XS.iload X19.here hx rfl (hb hby d2_78) rfl ?_
    exact k)
  obtain ⟨T26, h26, X26, e26, W26, st26⟩ := putF X19 hx hZ hown (host := "") (Or.inl (hw _ (List.mem_of_getElem? (i := 22) rfl))) Via.refl e19 f23 f20 (Or.inr ⟨(hw _ (List.mem_of_getElem? (i := 23) rfl)), rfl, hnm⟩) (hw _ (List.mem_of_getElem? (i := 7) rfl)) (ty := .int) (by decide) rfl rfl (g := (mkF m 80 #[.val (.ref a1), .val (.int p1), .val (.int p2), .val (.int p3), .val (.int p4)] [(.int p4), (.ref a1)])) rfl rfl (hb hby d2_80)
  have Fw26 := f23.same W26
  have f27 := (f20.wr W26)
  have f28 := (f21.other W26 (Or.inr (slot_ne (Or.inr (hw _ (List.mem_of_getElem? (i := 17) rfl))) (Or.inr (hw _ (List.mem_of_getElem? (i := 23) rfl))) (by decide) (t := .int) (t' := .int) (by decide) (by decide))))
  have f29 := (f22.other W26 (Or.inr (slot_ne (Or.inr (hw _ (List.mem_of_getElem? (i := 19) rfl))) (Or.inr (hw _ (List.mem_of_getElem? (i := 23) rfl))) (by decide) (t := .int) (t' := .int) (by decide) (by decide))))
  have f30 := (Fw19.other W26 (Or.inr (slot_ne (Or.inr (hw _ (List.mem_of_getElem? (i := 21) rfl))) (Or.inr (hw _ (List.mem_of_getElem? (i := 23) rfl))) (by decide) (t := .int) (t' := .int) (by decide) (by decide))))
  have N26 := Fr.snoc X26 N19 g_a1
  have K26 := K19.wr W26 (Or.inl (List.mem_of_getElem? (i := 0) rfl))
  have O26 : Ext Z.heap h26 := own_ext_keep O19 (Keep.of_wr W26) (allS z_a1 all0)
  have Z26 : n0 ≤ h26.size := Nat.le_trans Z19 (Keep.of_wr W26).1
  have pre31 : ∀ t, Steps p.tables e below (T26.setTop (mkF m 83 #[.val (.ref a1), .val (.int p1), .val (.int p2), .val (.int p3), .val (.int p4)] [])) t → Steps p.tables e below (s₁.setTop (entryFrame m #[(.ref a1), (.int p1), (.int p2), (.int p3), (.int p4)] 5)) t := fun t k => pre25 t (st26 t k)
  obtain ⟨fs, hr, hrun, hended, hW, hsame⟩ := X26.leave (v := none) (fun _ => rfl)
  refine ⟨_, _, pre31 _ ?_, hrun, hended, _, _, rfl, ?_, ⟨_, rfl⟩, hW, hsame.mono (by decide) (by decide)⟩
  · exact X26.returnOut hx Bd.returns (hb hby d2_83) hr
  · show Q_rm_rc Z a1 p1 p2 p3 p4 h0 n0 _ T26.heap _
    rw [e26]
    exact ⟨rfl, N26, K26, f27, f28, f29, f30, Fw26⟩
theorem ef_4 (m : MethodId) (x0 : Addr) (x1 : Addr) : entryFrame m #[(.ref x0), (.ref x1)] 3 = mkF m 0 #[.val (.ref x0), .val (.ref x1), .unset] [] := by first | (simp [entryFrame, mkF, argsToLocals, Value.category]; done) | rfl
theorem d4_0 : decode prog_29_method_13_code 0 = .ok (.aload_n 0, 1) := by decide +kernel
theorem d4_1 : decode prog_29_method_13_code 1 = .ok (.aload_n 1, 1) := by decide +kernel
theorem d4_2 : decode prog_29_method_13_code 2 = .ok (.if_acmp .ne 5, 3) := by decide +kernel
theorem d4_5 : decode prog_29_method_13_code 5 = .ok (.iconst 1, 1) := by decide +kernel
theorem d4_6 : decode prog_29_method_13_code 6 = .ok (.ireturn, 1) := by decide +kernel
def Q_rm_eqself (Z : State) (a1 : Addr) (a2 : Addr) (h0 : Heap) (n0 : Nat) (v : Option Value) (h : Heap) (L : List Loc) : Prop := v = some (.int (1 : Int32)) ∧ Fr n0 L ∧ h = h0
set_option maxRecDepth 65536 in
set_option maxHeartbeats 40000000 in
theorem rm_eqself (l : Launch) (Z : State) (a0 : Array Value) (hw : ∀ d ∈ tables_1, d.before a0 Z = true) (ws : List Jvm.Cond) (a1 : Addr) (a2 : Addr) (h0 : Heap) (n0 : Nat) (Z0 : n0 ≤ h0.size) (O0 : Ext Z.heap h0) (h12 : a1 = a2) :
    MetFree l (⟨"com/example/blynds/blynds/engine/Rect", "equals", "(Ljava/lang/Object;)Z"⟩ : MethodName) (head1 (Jvm.Cond.code (⟨"com/example/blynds/blynds/engine/Rect", "equals", "(Ljava/lang/Object;)Z"⟩ : MethodName) prog_29_method_13_code 3 (some .boolean) :: ws) ({ frames := 0, cells := 0, slots := 0, locals := 0 } : Room)) (fun a U => a = #[(.ref a1), (.ref a2)] ∧ Z.Warmed39 U.vm ∧ U.heap = h0) (fun _ _ _ _ _ => True) (fun _ U o U' => ∃ v L, o = .returned v ∧ Q_rm_eqself Z a1 a2 h0 n0 v U'.heap L ∧ FrameEnd U o U' L ({ frames := 0, cells := 0, slots := 0, locals := 0 } : Room).cells ({ frames := 0, cells := 0, slots := 0, locals := 0 } : Room).slots) := by
  refine MetFree.of_bodySF (plainFor_of_name pn_com_example_blynds_blynds_engine_Rect) hisR ?_
  intro p e s m args below meth c s₁ Bd hml0 hP hK
  obtain ⟨rfl, hZ, hh⟩ := hP
  have hx := Bd.exec
  have hby := Bd.bytes
  have hml : c.maxLocals = 3 := hml0
  have hown : s.vm.findClass "com/example/blynds/blynds/engine/Rect" = some m.cls := findClass_of_methodNamed Bd.named
  have hnm := (name_of_methodNamed Bd.named Bd.method).1
  have X0 : Stand p l e ({ frames := 0, cells := 0, slots := 0, locals := 0 } : Room) s m #[(.ref a1), (.ref a2)] below meth c s₁ [] 0 0 := Stand.of_body Bd
  have e0 : s₁.heap = h0 := by rw [← hh, Bd.state]; rfl
  have N0 := Fr.nil n0
  have pre0 : ∀ t, Steps p.tables e below (s₁.setTop (mkF m 0 #[.val (.ref a1), .val (.ref a2), .unset] [])) t → Steps p.tables e below (s₁.setTop (entryFrame m #[(.ref a1), (.ref a2)] 3)) t := fun t k => castTop (ef_4 m a1 a2) k
  have pre1 : ∀ t, Steps p.tables e below (s₁.setTop (mkF m 6 #[.val (.ref a1), .val (.ref a2), .unset] [(.int (1 : Int32))])) t → Steps p.tables e below (s₁.setTop (entryFrame m #[(.ref a1), (.ref a2)] 3)) t := fun t k => pre0 t (by
    show Steps p.tables e below (s₁.setTop (mkF m 0 #[.val (.ref a1), .val (.ref a2), .unset] [])) _
    refine XS.aloadN X0.here hx rfl (hb hby d4_0) rfl rfl ?_
    show Steps p.tables e below (s₁.setTop (mkF m 1 #[.val (.ref a1), .val (.ref a2), .unset] [(.ref a1)])) _
    refine XS.aloadN X0.here hx rfl (hb hby d4_1) rfl rfl ?_
    show Steps p.tables e below (s₁.setTop (mkF m 2 #[.val (.ref a1), .val (.ref a2), .unset] [(.ref a2), (.ref a1)])) _
    refine Jvm.RoadKit.acmp (g := (mkF m 2 #[.val (.ref a1), .val (.ref a2), .unset] [(.ref a2), (.ref a1)])) X0 hx rfl rfl rfl (pc0 := 2) (pc' := 5) (same := true) rfl (hb hby d4_2) rfl (decide_eq_true (congrArg Value.ref h12)) (by decide) (by decide) ?_
    show Steps p.tables e below (s₁.setTop (mkF m 5 #[.val (.ref a1), .val (.ref a2), .unset] [])) _
    refine XS.iconst X0.here hx rfl (hb hby d4_5) ?_
    exact k)
  obtain ⟨fs, hr, hrun, hended, hW, hsame⟩ := X0.leave (v := some (.int (1 : Int32))) (fun h => by rw [Bd.returns] at h; cases h)
  refine ⟨_, _, pre1 _ ?_, hrun, hended, _, _, rfl, ?_, ⟨_, rfl⟩, hW, hsame.mono (by decide) (by decide)⟩
  · exact retN X0 hx (t := .boolean) Bd.returns (by simp) (hb hby d4_6) hr
  · show Q_rm_eqself Z a1 a2 h0 n0 _ s₁.heap _
    rw [e0]
    exact ⟨rfl, N0, rfl⟩
theorem ef_4_Rn (m : MethodId) (x0 : Addr) : entryFrame m #[(.ref x0), .null] 3 = mkF m 0 #[.val (.ref x0), .val .null, .unset] [] := by first | (simp [entryFrame, mkF, argsToLocals, Value.category]; done) | rfl
theorem d4_7 : decode prog_29_method_13_code 7 = .ok (.aload_n 1, 1) := by decide +kernel
theorem d4_8 : decode prog_29_method_13_code 8 = .ok (.instanceof 10, 3) := by decide +kernel
theorem d4_11 : decode prog_29_method_13_code 11 = .ok (.ifCond .ne 5, 3) := by decide +kernel
theorem d4_14 : decode prog_29_method_13_code 14 = .ok (.iconst 0, 1) := by decide +kernel
theorem d4_15 : decode prog_29_method_13_code 15 = .ok (.ireturn, 1) := by decide +kernel
def Q_rm_eqnull (Z : State) (a1 : Addr) (h0 : Heap) (n0 : Nat) (v : Option Value) (h : Heap) (L : List Loc) : Prop := v = some (.int (0 : Int32)) ∧ Fr n0 L ∧ h = h0
set_option maxRecDepth 65536 in
set_option maxHeartbeats 40000000 in
theorem rm_eqnull (l : Launch) (Z : State) (a0 : Array Value) (hw : ∀ d ∈ tables_1, d.before a0 Z = true) (ws : List Jvm.Cond) (a1 : Addr) (h0 : Heap) (n0 : Nat) (Z0 : n0 ≤ h0.size) (O0 : Ext Z.heap h0) :
    MetFree l (⟨"com/example/blynds/blynds/engine/Rect", "equals", "(Ljava/lang/Object;)Z"⟩ : MethodName) (head1 (Jvm.Cond.code (⟨"com/example/blynds/blynds/engine/Rect", "equals", "(Ljava/lang/Object;)Z"⟩ : MethodName) prog_29_method_13_code 3 (some .boolean) :: ws) ({ frames := 0, cells := 0, slots := 0, locals := 0 } : Room)) (fun a U => a = #[(.ref a1), .null] ∧ Z.Warmed39 U.vm ∧ U.heap = h0) (fun _ _ _ _ _ => True) (fun _ U o U' => ∃ v L, o = .returned v ∧ Q_rm_eqnull Z a1 h0 n0 v U'.heap L ∧ FrameEnd U o U' L ({ frames := 0, cells := 0, slots := 0, locals := 0 } : Room).cells ({ frames := 0, cells := 0, slots := 0, locals := 0 } : Room).slots) := by
  refine MetFree.of_bodySF (plainFor_of_name pn_com_example_blynds_blynds_engine_Rect) hisR ?_
  intro p e s m args below meth c s₁ Bd hml0 hP hK
  obtain ⟨rfl, hZ, hh⟩ := hP
  have hx := Bd.exec
  have hby := Bd.bytes
  have hml : c.maxLocals = 3 := hml0
  have hown : s.vm.findClass "com/example/blynds/blynds/engine/Rect" = some m.cls := findClass_of_methodNamed Bd.named
  have hnm := (name_of_methodNamed Bd.named Bd.method).1
  have X0 : Stand p l e ({ frames := 0, cells := 0, slots := 0, locals := 0 } : Room) s m #[(.ref a1), .null] below meth c s₁ [] 0 0 := Stand.of_body Bd
  have e0 : s₁.heap = h0 := by rw [← hh, Bd.state]; rfl
  have N0 := Fr.nil n0
  have pre0 : ∀ t, Steps p.tables e below (s₁.setTop (mkF m 0 #[.val (.ref a1), .val .null, .unset] [])) t → Steps p.tables e below (s₁.setTop (entryFrame m #[(.ref a1), .null] 3)) t := fun t k => castTop (ef_4_Rn m a1) k
  have pre1 : ∀ t, Steps p.tables e below (s₁.setTop (mkF m 15 #[.val (.ref a1), .val .null, .unset] [(.int (0 : Int32))])) t → Steps p.tables e below (s₁.setTop (entryFrame m #[(.ref a1), .null] 3)) t := fun t k => pre0 t (by
    show Steps p.tables e below (s₁.setTop (mkF m 0 #[.val (.ref a1), .val .null, .unset] [])) _
    refine XS.aloadN X0.here hx rfl (hb hby d4_0) rfl rfl ?_
    show Steps p.tables e below (s₁.setTop (mkF m 1 #[.val (.ref a1), .val .null, .unset] [(.ref a1)])) _
    refine XS.aloadN X0.here hx rfl (hb hby d4_1) rfl rfl ?_
    show Steps p.tables e below (s₁.setTop (mkF m 2 #[.val (.ref a1), .val .null, .unset] [.null, (.ref a1)])) _
    refine Jvm.RoadKit.acmp (g := (mkF m 2 #[.val (.ref a1), .val .null, .unset] [.null, (.ref a1)])) X0 hx rfl rfl rfl (pc0 := 2) (pc' := 7) (same := false) rfl (hb hby d4_2) rfl (decide_eq_false nofun) (by decide) (by decide) ?_
    show Steps p.tables e below (s₁.setTop (mkF m 7 #[.val (.ref a1), .val .null, .unset] [])) _
    refine XS.aloadN X0.here hx rfl (hb hby d4_7) rfl rfl ?_
    show Steps p.tables e below (s₁.setTop (mkF m 8 #[.val (.ref a1), .val .null, .unset] [.null])) _
    refine X0.instanceofNull hx (g := (mkF m 8 #[.val (.ref a1), .val .null, .unset] [.null])) rfl rfl (hb hby d4_8) _ ?_
    show Steps p.tables e below (s₁.setTop (mkF m 11 #[.val (.ref a1), .val .null, .unset] [(.int (0 : Int32))])) _
    refine XS.ifNo X0.here hx rfl (hb hby d4_11) rfl ((if0 _ _).trans (teq (by decide : (0 : Int32) = (0 : Int32))).2) ?_
    show Steps p.tables e below (s₁.setTop (mkF m 14 #[.val (.ref a1), .val .null, .unset] [])) _
    refine XS.iconst X0.here hx rfl (hb hby d4_14) ?_
    exact k)
  obtain ⟨fs, hr, hrun, hended, hW, hsame⟩ := X0.leave (v := some (.int (0 : Int32))) (fun h => by rw [Bd.returns] at h; cases h)
  refine ⟨_, _, pre1 _ ?_, hrun, hended, _, _, rfl, ?_, ⟨_, rfl⟩, hW, hsame.mono (by decide) (by decide)⟩
  · exact retN X0 hx (t := .boolean) Bd.returns (by simp) (hb hby d4_15) hr
  · show Q_rm_eqnull Z a1 h0 n0 _ s₁.heap _
    rw [e0]
    exact ⟨rfl, N0, rfl⟩
def Q_rm_eqint (Z : State) (a1 : Addr) (a2 : Addr) (h0 : Heap) (n0 : Nat) (v : Option Value) (h : Heap) (L : List Loc) : Prop := v = some (.int (0 : Int32)) ∧ Fr n0 L ∧ h = h0
set_option maxRecDepth 65536 in
set_option maxHeartbeats 40000000 in
theorem rm_eqint (l : Launch) (Z : State) (a0 : Array Value) (hw : ∀ d ∈ tables_1, d.before a0 Z = true) (ws : List Jvm.Cond) (a1 : Addr) (a2 : Addr) (h0 : Heap) (n0 : Nat) (Z0 : n0 ≤ h0.size) (O0 : Ext Z.heap h0) (E1 : Exa Z h0 a1 "com/example/blynds/blynds/engine/Rect") (E2 : Exa Z h0 a2 "java/lang/Integer") :
    MetFree l (⟨"com/example/blynds/blynds/engine/Rect", "equals", "(Ljava/lang/Object;)Z"⟩ : MethodName) (head1 (Jvm.Cond.code (⟨"com/example/blynds/blynds/engine/Rect", "equals", "(Ljava/lang/Object;)Z"⟩ : MethodName) prog_29_method_13_code 3 (some .boolean) :: ws) ({ frames := 0, cells := 0, slots := 0, locals := 0 } : Room)) (fun a U => a = #[(.ref a1), (.ref a2)] ∧ Z.Warmed39 U.vm ∧ U.heap = h0) (fun _ _ _ _ _ => True) (fun _ U o U' => ∃ v L, o = .returned v ∧ Q_rm_eqint Z a1 a2 h0 n0 v U'.heap L ∧ FrameEnd U o U' L ({ frames := 0, cells := 0, slots := 0, locals := 0 } : Room).cells ({ frames := 0, cells := 0, slots := 0, locals := 0 } : Room).slots) := by
  refine MetFree.of_bodySF (plainFor_of_name pn_com_example_blynds_blynds_engine_Rect) hisR ?_
  intro p e s m args below meth c s₁ Bd hml0 hP hK
  obtain ⟨rfl, hZ, hh⟩ := hP
  have hx := Bd.exec
  have hby := Bd.bytes
  have hml : c.maxLocals = 3 := hml0
  have hown : s.vm.findClass "com/example/blynds/blynds/engine/Rect" = some m.cls := findClass_of_methodNamed Bd.named
  have hnm := (name_of_methodNamed Bd.named Bd.method).1
  have X0 : Stand p l e ({ frames := 0, cells := 0, slots := 0, locals := 0 } : Room) s m #[(.ref a1), (.ref a2)] below meth c s₁ [] 0 0 := Stand.of_body Bd
  have e0 : s₁.heap = h0 := by rw [← hh, Bd.state]; rfl
  have N0 := Fr.nil n0
  have pre0 : ∀ t, Steps p.tables e below (s₁.setTop (mkF m 0 #[.val (.ref a1), .val (.ref a2), .unset] [])) t → Steps p.tables e below (s₁.setTop (entryFrame m #[(.ref a1), (.ref a2)] 3)) t := fun t k => castTop (ef_4 m a1 a2) k
  have pre1 : ∀ t, Steps p.tables e below (s₁.setTop (mkF m 8 #[.val (.ref a1), .val (.ref a2), .unset] [(.ref a2)])) t → Steps p.tables e below (s₁.setTop (entryFrame m #[(.ref a1), (.ref a2)] 3)) t := fun t k => pre0 t (by
    show Steps p.tables e below (s₁.setTop (mkF m 0 #[.val (.ref a1), .val (.ref a2), .unset] [])) _
    refine XS.aloadN X0.here hx rfl (hb hby d4_0) rfl rfl ?_
    show Steps p.tables e below (s₁.setTop (mkF m 1 #[.val (.ref a1), .val (.ref a2), .unset] [(.ref a1)])) _
    refine XS.aloadN X0.here hx rfl (hb hby d4_1) rfl rfl ?_
    show Steps p.tables e below (s₁.setTop (mkF m 2 #[.val (.ref a1), .val (.ref a2), .unset] [(.ref a2), (.ref a1)])) _
    refine Jvm.RoadKit.acmp (g := (mkF m 2 #[.val (.ref a1), .val (.ref a2), .unset] [(.ref a2), (.ref a1)])) X0 hx rfl rfl rfl (pc0 := 2) (pc' := 7) (same := false) rfl (hb hby d4_2) rfl (decide_eq_false fun q => (ne_exa E1 E2 (by decide)) (Value.ref.inj q)) (by decide) (by decide) ?_
    show Steps p.tables e below (s₁.setTop (mkF m 7 #[.val (.ref a1), .val (.ref a2), .unset] [])) _
    refine XS.aloadN X0.here hx rfl (hb hby d4_7) rfl rfl ?_
    exact k)
  obtain ⟨T2, X2, e2, st2⟩ := instNo X0 hx hZ hown (hw _ (List.mem_of_getElem? (i := 29) rfl)) e0 E2 (own_ns_no (hw _ (List.mem_of_getElem? (i := 55) rfl)) (hw _ (List.mem_of_getElem? (i := 7) rfl)) (NS.step (hw _ (List.mem_of_getElem? (i := 55) rfl)) (NS.step (hw _ (List.mem_of_getElem? (i := 56) rfl)) (own_ns_root (hw _ (List.mem_of_getElem? (i := 57) rfl)) (hw _ (List.mem_of_getElem? (i := 7) rfl)) (by decide)) (by decide)) (by decide)) (by decide)) (g := (mkF m 8 #[.val (.ref a1), .val (.ref a2), .unset] [(.ref a2)])) rfl rfl (hb hby d4_8)
  have pre3 : ∀ t, Steps p.tables e below (T2.setTop (mkF m 11 #[.val (.ref a1), .val (.ref a2), .unset] [(.int (0 : Int32))])) t → Steps p.tables e below (s₁.setTop (entryFrame m #[(.ref a1), (.ref a2)] 3)) t := fun t k => pre1 t (st2 t k)
  have pre4 : ∀ t, Steps p.tables e below (T2.setTop (mkF m 15 #[.val (.ref a1), .val (.ref a2), .unset] [(.int (0 : Int32))])) t → Steps p.tables e below (s₁.setTop (entryFrame m #[(.ref a1), (.ref a2)] 3)) t := fun t k => pre3 t (by
    show Steps p.tables e below (T2.setTop (mkF m 11 #[.val (.ref a1), .val (.ref a2), .unset] [(.int (0 : Int32))])) _
    refine XS.ifNo X2.here hx rfl (hb hby d4_11) rfl ((if0 _ _).trans (teq (by decide : (0 : Int32) = (0 : Int32))).2) ?_
    show Steps p.tables e below (T2.setTop (mkF m 14 #[.val (.ref a1), .val (.ref a2), .unset] [])) _
    refine XS.iconst X2.here hx rfl (hb hby d4_14) ?_
    exact k)
  obtain ⟨fs, hr, hrun, hended, hW, hsame⟩ := X2.leave (v := some (.int (0 : Int32))) (fun h => by rw [Bd.returns] at h; cases h)
  refine ⟨_, _, pre4 _ ?_, hrun, hended, _, _, rfl, ?_, ⟨_, rfl⟩, hW, hsame.mono (by decide) (by decide)⟩
  · exact retN X2 hx (t := .boolean) Bd.returns (by simp) (hb hby d4_15) hr
  · show Q_rm_eqint Z a1 a2 h0 n0 _ T2.heap _
    rw [e2]
    exact ⟨rfl, N0, rfl⟩
theorem d4_16 : decode prog_29_method_13_code 16 = .ok (.aload_n 1, 1) := by decide +kernel
theorem d4_17 : decode prog_29_method_13_code 17 = .ok (.checkcast 10, 3) := by decide +kernel
theorem d4_20 : decode prog_29_method_13_code 20 = .ok (.astore_n 2, 1) := by decide +kernel
theorem d4_21 : decode prog_29_method_13_code 21 = .ok (.aload_n 0, 1) := by decide +kernel
theorem d4_22 : decode prog_29_method_13_code 22 = .ok (.getfield 21, 3) := by decide +kernel
theorem d4_25 : decode prog_29_method_13_code 25 = .ok (.aload_n 2, 1) := by decide +kernel
theorem d4_26 : decode prog_29_method_13_code 26 = .ok (.getfield 21, 3) := by decide +kernel
theorem d4_29 : decode prog_29_method_13_code 29 = .ok (.if_icmp .ne 40, 3) := by decide +kernel
theorem d4_32 : decode prog_29_method_13_code 32 = .ok (.aload_n 0, 1) := by decide +kernel
theorem d4_33 : decode prog_29_method_13_code 33 = .ok (.getfield 25, 3) := by decide +kernel
theorem d4_36 : decode prog_29_method_13_code 36 = .ok (.aload_n 2, 1) := by decide +kernel
theorem d4_37 : decode prog_29_method_13_code 37 = .ok (.getfield 25, 3) := by decide +kernel
theorem d4_40 : decode prog_29_method_13_code 40 = .ok (.if_icmp .ne 29, 3) := by decide +kernel
theorem d4_43 : decode prog_29_method_13_code 43 = .ok (.aload_n 0, 1) := by decide +kernel
theorem d4_44 : decode prog_29_method_13_code 44 = .ok (.getfield 28, 3) := by decide +kernel
theorem d4_47 : decode prog_29_method_13_code 47 = .ok (.aload_n 2, 1) := by decide +kernel
theorem d4_48 : decode prog_29_method_13_code 48 = .ok (.getfield 28, 3) := by decide +kernel
theorem d4_51 : decode prog_29_method_13_code 51 = .ok (.if_icmp .ne 18, 3) := by decide +kernel
theorem d4_54 : decode prog_29_method_13_code 54 = .ok (.aload_n 0, 1) := by decide +kernel
theorem d4_55 : decode prog_29_method_13_code 55 = .ok (.getfield 31, 3) := by decide +kernel
theorem d4_58 : decode prog_29_method_13_code 58 = .ok (.aload_n 2, 1) := by decide +kernel
theorem d4_59 : decode prog_29_method_13_code 59 = .ok (.getfield 31, 3) := by decide +kernel
theorem d4_62 : decode prog_29_method_13_code 62 = .ok (.if_icmp .ne 7, 3) := by decide +kernel
theorem d4_65 : decode prog_29_method_13_code 65 = .ok (.iconst 1, 1) := by decide +kernel
theorem d4_66 : decode prog_29_method_13_code 66 = .ok (.goto 4, 3) := by decide +kernel
theorem d4_70 : decode prog_29_method_13_code 70 = .ok (.ireturn, 1) := by decide +kernel
theorem d4_69 : decode prog_29_method_13_code 69 = .ok (.iconst 0, 1) := by decide +kernel
def Q_rm_eqobj (Z : State) (a1 : Addr) (a2 : Addr) (x0 x1 x2 x3 y0 y1 y2 y3 : Int32) (h0 : Heap) (n0 : Nat) (v : Option Value) (h : Heap) (L : List Loc) : Prop := v = some (.int (eqNF x0 x1 x2 x3 y0 y1 y2 y3)) ∧ Fr n0 L ∧ h = h0
set_option maxRecDepth 65536 in
set_option maxHeartbeats 40000000 in
theorem rm_eqobj (l : Launch) (Z : State) (a0 : Array Value) (hw : ∀ d ∈ tables_1, d.before a0 Z = true) (ws : List Jvm.Cond) (a1 : Addr) (a2 : Addr) (x0 x1 x2 x3 y0 y1 y2 y3 : Int32) (h0 : Heap) (n0 : Nat) (Z0 : n0 ≤ h0.size) (O0 : Ext Z.heap h0) (E2 : Exa Z h0 a2 "com/example/blynds/blynds/engine/Rect") (Fx0 : Fld Z h0 a1 "com/example/blynds/blynds/engine/Rect" "left" "I" (.int x0)) (Fx1 : Fld Z h0 a1 "com/example/blynds/blynds/engine/Rect" "top" "I" (.int x1)) (Fx2 : Fld Z h0 a1 "com/example/blynds/blynds/engine/Rect" "right" "I" (.int x2)) (Fx3 : Fld Z h0 a1 "com/example/blynds/blynds/engine/Rect" "bottom" "I" (.int x3)) (Fy0 : Fld Z h0 a2 "com/example/blynds/blynds/engine/Rect" "left" "I" (.int y0)) (Fy1 : Fld Z h0 a2 "com/example/blynds/blynds/engine/Rect" "top" "I" (.int y1)) (Fy2 : Fld Z h0 a2 "com/example/blynds/blynds/engine/Rect" "right" "I" (.int y2)) (Fy3 : Fld Z h0 a2 "com/example/blynds/blynds/engine/Rect" "bottom" "I" (.int y3)) (hne : a1 ≠ a2) :
    MetFree l (⟨"com/example/blynds/blynds/engine/Rect", "equals", "(Ljava/lang/Object;)Z"⟩ : MethodName) (head1 (Jvm.Cond.code (⟨"com/example/blynds/blynds/engine/Rect", "equals", "(Ljava/lang/Object;)Z"⟩ : MethodName) prog_29_method_13_code 3 (some .boolean) :: ws) ({ frames := 0, cells := 0, slots := 0, locals := 0 } : Room)) (fun a U => a = #[(.ref a1), (.ref a2)] ∧ Z.Warmed39 U.vm ∧ U.heap = h0) (fun _ _ _ _ _ => True) (fun _ U o U' => ∃ v L, o = .returned v ∧ Q_rm_eqobj Z a1 a2 x0 x1 x2 x3 y0 y1 y2 y3 h0 n0 v U'.heap L ∧ FrameEnd U o U' L ({ frames := 0, cells := 0, slots := 0, locals := 0 } : Room).cells ({ frames := 0, cells := 0, slots := 0, locals := 0 } : Room).slots) := by
  refine MetFree.of_bodySF (plainFor_of_name pn_com_example_blynds_blynds_engine_Rect) hisR ?_
  intro p e s m args below meth c s₁ Bd hml0 hP hK
  obtain ⟨rfl, hZ, hh⟩ := hP
  have hx := Bd.exec
  have hby := Bd.bytes
  have hml : c.maxLocals = 3 := hml0
  have hown : s.vm.findClass "com/example/blynds/blynds/engine/Rect" = some m.cls := findClass_of_methodNamed Bd.named
  have hnm := (name_of_methodNamed Bd.named Bd.method).1
  have X0 : Stand p l e ({ frames := 0, cells := 0, slots := 0, locals := 0 } : Room) s m #[(.ref a1), (.ref a2)] below meth c s₁ [] 0 0 := Stand.of_body Bd
  have e0 : s₁.heap = h0 := by rw [← hh, Bd.state]; rfl
  have N0 := Fr.nil n0
  have pre0 : ∀ t, Steps p.tables e below (s₁.setTop (mkF m 0 #[.val (.ref a1), .val (.ref a2), .unset] [])) t → Steps p.tables e below (s₁.setTop (entryFrame m #[(.ref a1), (.ref a2)] 3)) t := fun t k => castTop (ef_4 m a1 a2) k
  have pre1 : ∀ t, Steps p.tables e below (s₁.setTop (mkF m 8 #[.val (.ref a1), .val (.ref a2), .unset] [(.ref a2)])) t → Steps p.tables e below (s₁.setTop (entryFrame m #[(.ref a1), (.ref a2)] 3)) t := fun t k => pre0 t (by
    show Steps p.tables e below (s₁.setTop (mkF m 0 #[.val (.ref a1), .val (.ref a2), .unset] [])) _
    refine XS.aloadN X0.here hx rfl (hb hby d4_0) rfl rfl ?_
    show Steps p.tables e below (s₁.setTop (mkF m 1 #[.val (.ref a1), .val (.ref a2), .unset] [(.ref a1)])) _
    refine XS.aloadN X0.here hx rfl (hb hby d4_1) rfl rfl ?_
    show Steps p.tables e below (s₁.setTop (mkF m 2 #[.val (.ref a1), .val (.ref a2), .unset] [(.ref a2), (.ref a1)])) _
    refine Jvm.RoadKit.acmp (g := (mkF m 2 #[.val (.ref a1), .val (.ref a2), .unset] [(.ref a2), (.ref a1)])) X0 hx rfl rfl rfl (pc0 := 2) (pc' := 7) (same := false) rfl (hb hby d4_2) rfl (decide_eq_false fun q => hne (Value.ref.inj q)) (by decide) (by decide) ?_
    show Steps p.tables e below (s₁.setTop (mkF m 7 #[.val (.ref a1), .val (.ref a2), .unset] [])) _
    refine XS.aloadN X0.here hx rfl (hb hby d4_7) rfl rfl ?_
    exact k)
  obtain ⟨T2, X2, e2, st2⟩ := instY X0 hx hZ hown (hw _ (List.mem_of_getElem? (i := 29) rfl)) e0 (Ins.self E2) (g := (mkF m 8 #[.val (.ref a1), .val (.ref a2), .unset] [(.ref a2)])) rfl rfl (hb hby d4_8)
  have pre3 : ∀ t, Steps p.tables e below (T2.setTop (mkF m 11 #[.val (.ref a1), .val (.ref a2), .unset] [(.int (1 : Int32))])) t → Steps p.tables e below (s₁.setTop (entryFrame m #[(.ref a1), (.ref a2)] 3)) t := fun t k => pre1 t (st2 t k)
  have pre4 : ∀ t, Steps p.tables e below (T2.setTop (mkF m 17 #[.val (.ref a1), .val (.ref a2), .unset] [(.ref a2)])) t → Steps p.tables e below (s₁.setTop (entryFrame m #[(.ref a1), (.ref a2)] 3)) t := fun t k => pre3 t (by
    show Steps p.tables e below (T2.setTop (mkF m 11 #[.val (.ref a1), .val (.ref a2), .unset] [(.int (1 : Int32))])) _
    refine XS.ifYes X2.here hx rfl (pc0 := 11) (pc' := 16) rfl (hb hby d4_11) rfl ((if0 _ _).trans (feq (by decide : ¬ ((1 : Int32) = (0 : Int32)))).2) (by decide) (by decide) ?_
    show Steps p.tables e below (T2.setTop (mkF m 16 #[.val (.ref a1), .val (.ref a2), .unset] [])) _
    refine XS.aloadN X2.here hx rfl (hb hby d4_16) rfl rfl ?_
    exact k)
  obtain ⟨T5, X5, e5, st5⟩ := castY X2 hx hZ hown (hw _ (List.mem_of_getElem? (i := 29) rfl)) e2 (Ins.self E2) (g := (mkF m 17 #[.val (.ref a1), .val (.ref a2), .unset] [(.ref a2)])) rfl rfl (hb hby d4_17)
  have pre6 : ∀ t, Steps p.tables e below (T5.setTop (mkF m 20 #[.val (.ref a1), .val (.ref a2), .unset] [(.ref a2)])) t → Steps p.tables e below (s₁.setTop (entryFrame m #[(.ref a1), (.ref a2)] 3)) t := fun t k => pre4 t (st5 t k)
  have pre7 : ∀ t, Steps p.tables e below (T5.setTop (mkF m 22 #[.val (.ref a1), .val (.ref a2), .val (.ref a2)] [(.ref a1)])) t → Steps p.tables e below (s₁.setTop (entryFrame m #[(.ref a1), (.ref a2)] 3)) t := fun t k => pre6 t (by
    show Steps p.tables e below (T5.setTop (mkF m 20 #[.val (.ref a1), .val (.ref a2), .unset] [(.ref a2)])) _
    refine XS.astoreN X5.here hx rfl (hb hby d4_20) rfl rfl (l' := #[.val (.ref a1), .val (.ref a2), .val (.ref a2)]) rfl ?_
    show Steps p.tables e below (T5.setTop (mkF m 21 #[.val (.ref a1), .val (.ref a2), .val (.ref a2)] [])) _
    refine XS.aloadN X5.here hx rfl (hb hby d4_21) rfl rfl ?_
    exact k)
  obtain ⟨T8, X8, e8, st8⟩ := getF X5 hx hZ hown (host := "") (Or.inl (hw _ (List.mem_of_getElem? (i := 16) rfl))) Via.refl e5 Fx0 (g := (mkF m 22 #[.val (.ref a1), .val (.ref a2), .val (.ref a2)] [(.ref a1)])) rfl rfl (hb hby d4_22)
  have pre9 : ∀ t, Steps p.tables e below (T8.setTop (mkF m 25 #[.val (.ref a1), .val (.ref a2), .val (.ref a2)] [(.int x0)])) t → Steps p.tables e below (s₁.setTop (entryFrame m #[(.ref a1), (.ref a2)] 3)) t := fun t k => pre7 t (st8 t k)
  have pre10 : ∀ t, Steps p.tables e below (T8.setTop (mkF m 26 #[.val (.ref a1), .val (.ref a2), .val (.ref a2)] [(.ref a2), (.int x0)])) t → Steps p.tables e below (s₁.setTop (entryFrame m #[(.ref a1), (.ref a2)] 3)) t := fun t k => pre9 t (by
    show Steps p.tables e below (T8.setTop (mkF m 25 #[.val (.ref a1), .val (.ref a2), .val (.ref a2)] [(.int x0)])) _
    refine XS.aloadN X8.here hx rfl (hb hby d4_25) rfl rfl ?_
    exact k)
  obtain ⟨T11, X11, e11, st11⟩ := getF X8 hx hZ hown (host := "") (Or.inl (hw _ (List.mem_of_getElem? (i := 16) rfl))) Via.refl e8 Fy0 (g := (mkF m 26 #[.val (.ref a1), .val (.ref a2), .val (.ref a2)] [(.ref a2), (.int x0)])) rfl rfl (hb hby d4_26)
  have pre12 : ∀ t, Steps p.tables e below (T11.setTop (mkF m 29 #[.val (.ref a1), .val (.ref a2), .val (.ref a2)] [(.int y0), (.int x0)])) t → Steps p.tables e below (s₁.setTop (entryFrame m #[(.ref a1), (.ref a2)] 3)) t := fun t k => pre10 t (st11 t k)
  by_cases hc29_13 : x0 = y0
  · have pre14 : ∀ t, Steps p.tables e below (T11.setTop (mkF m 33 #[.val (.ref a1), .val (.ref a2), .val (.ref a2)] [(.ref a1)])) t → Steps p.tables e below (s₁.setTop (entryFrame m #[(.ref a1), (.ref a2)] 3)) t := fun t k => pre12 t (by
      show Steps p.tables e below (T11.setTop (mkF m 29 #[.val (.ref a1), .val (.ref a2), .val (.ref a2)] [(.int y0), (.int x0)])) _
      refine XS.icmpNo X11.here hx rfl (hb hby d4_29) rfl (teq hc29_13).2 ?_
      show Steps p.tables e below (T11.setTop (mkF m 32 #[.val (.ref a1), .val (.ref a2), .val (.ref a2)] [])) _
      refine XS.aloadN X11.here hx rfl (hb hby d4_32) rfl rfl ?_
      exact k)
    obtain ⟨T15, X15, e15, st15⟩ := getF X11 hx hZ hown (host := "") (Or.inl (hw _ (List.mem_of_getElem? (i := 18) rfl))) Via.refl e11 Fx1 (g := (mkF m 33 #[.val (.ref a1), .val (.ref a2), .val (.ref a2)] [(.ref a1)])) rfl rfl (hb hby d4_33)
    have pre16 : ∀ t, Steps p.tables e below (T15.setTop (mkF m 36 #[.val (.ref a1), .val (.ref a2), .val (.ref a2)] [(.int x1)])) t → Steps p.tables e below (s₁.setTop (entryFrame m #[(.ref a1), (.ref a2)] 3)) t := fun t k => pre14 t (st15 t k)
    have pre17 : ∀ t, Steps p.tables e below (T15.setTop (mkF m 37 #[.val (.ref a1), .val (.ref a2), .val (.ref a2)] [(.ref a2), (.int x1)])) t → Steps p.tables e below (s₁.setTop (entryFrame m #[(.ref a1), (.ref a2)] 3)) t := fun t k => pre16 t (by
      show Steps p.tables e below (T15.setTop (mkF m 36 #[.val (.ref a1), .val (.ref a2), .val (.ref a2)] [(.int x1)])) _
      refine XS.aloadN X15.here hx rfl (hb hby d4_36) rfl rfl ?_
      exact k)
    obtain ⟨T18, X18, e18, st18⟩ := getF X15 hx hZ hown (host := "") (Or.inl (hw _ (List.mem_of_getElem? (i := 18) rfl))) Via.refl e15 Fy1 (g := (mkF m 37 #[.val (.ref a1), .val (.ref a2), .val (.ref a2)] [(.ref a2), (.int x1)])) rfl rfl (hb hby d4_37)
    have pre19 : ∀ t, Steps p.tables e below (T18.setTop (mkF m 40 #[.val (.ref a1), .val (.ref a2), .val (.ref a2)] [(.int y1), (.int x1)])) t → Steps p.tables e below (s₁.setTop (entryFrame m #[(.ref a1), (.ref a2)] 3)) t := fun t k => pre17 t (st18 t k)
    by_cases hc40_20 : x1 = y1
    · have pre21 : ∀ t, Steps p.tables e below (T18.setTop (mkF m 44 #[.val (.ref a1), .val (.ref a2), .val (.ref a2)] [(.ref a1)])) t → Steps p.tables e below (s₁.setTop (entryFrame m #[(.ref a1), (.ref a2)] 3)) t := fun t k => pre19 t (by
        show Steps p.tables e below (T18.setTop (mkF m 40 #[.val (.ref a1), .val (.ref a2), .val (.ref a2)] [(.int y1), (.int x1)])) _
        refine XS.icmpNo X18.here hx rfl (hb hby d4_40) rfl (teq hc40_20).2 ?_
        show Steps p.tables e below (T18.setTop (mkF m 43 #[.val (.ref a1), .val (.ref a2), .val (.ref a2)] [])) _
        refine XS.aloadN X18.here hx rfl (hb hby d4_43) rfl rfl ?_
        exact k)
      obtain ⟨T22, X22, e22, st22⟩ := getF X18 hx hZ hown (host := "") (Or.inl (hw _ (List.mem_of_getElem? (i := 20) rfl))) Via.refl e18 Fx2 (g := (mkF m 44 #[.val (.ref a1), .val (.ref a2), .val (.ref a2)] [(.ref a1)])) rfl rfl (hb hby d4_44)
      have pre23 : ∀ t, Steps p.tables e below (T22.setTop (mkF m 47 #[.val (.ref a1), .val (.ref a2), .val (.ref a2)] [(.int x2)])) t → Steps p.tables e below (s₁.setTop (entryFrame m #[(.ref a1), (.ref a2)] 3)) t := fun t k => pre21 t (st22 t k)
      have pre24 : ∀ t, Steps p.tables e below (T22.setTop (mkF m 48 #[.val (.ref a1), .val (.ref a2), .val (.ref a2)] [(.ref a2), (.int x2)])) t → Steps p.tables e below (s₁.setTop (entryFrame m #[(.ref a1), (.ref a2)] 3)) t := fun t k => pre23 t (by
        show Steps p.tables e below (T22.setTop (mkF m 47 #[.val (.ref a1), .val (.ref a2), .val (.ref a2)] [(.int x2)])) _
        refine XS.aloadN X22.here hx rfl (hb hby d4_47) rfl rfl ?_
        exact k)
      obtain ⟨T25, X25, e25, st25⟩ := getF X22 hx hZ hown (host := "") (Or.inl (hw _ (List.mem_of_getElem? (i := 20) rfl))) Via.refl e22 Fy2 (g := (mkF m 48 #[.val (.ref a1), .val (.ref a2), .val (.ref a2)] [(.ref a2), (.int x2)])) rfl rfl (hb hby d4_48)
      have pre26 : ∀ t, Steps p.tables e below (T25.setTop (mkF m 51 #[.val (.ref a1), .val (.ref a2), .val (.ref a2)] [(.int y2), (.int x2)])) t → Steps p.tables e below (s₁.setTop (entryFrame m #[(.ref a1), (.ref a2)] 3)) t := fun t k => pre24 t (st25 t k)
      by_cases hc51_27 : x2 = y2
      · have pre28 : ∀ t, Steps p.tables e below (T25.setTop (mkF m 55 #[.val (.ref a1), .val (.ref a2), .val (.ref a2)] [(.ref a1)])) t → Steps p.tables e below (s₁.setTop (entryFrame m #[(.ref a1), (.ref a2)] 3)) t := fun t k => pre26 t (by
          show Steps p.tables e below (T25.setTop (mkF m 51 #[.val (.ref a1), .val (.ref a2), .val (.ref a2)] [(.int y2), (.int x2)])) _
          refine XS.icmpNo X25.here hx rfl (hb hby d4_51) rfl (teq hc51_27).2 ?_
          show Steps p.tables e below (T25.setTop (mkF m 54 #[.val (.ref a1), .val (.ref a2), .val (.ref a2)] [])) _
          refine XS.aloadN X25.here hx rfl (hb hby d4_54) rfl rfl ?_
          exact k)
        obtain ⟨T29, X29, e29, st29⟩ := getF X25 hx hZ hown (host := "") (Or.inl (hw _ (List.mem_of_getElem? (i := 22) rfl))) Via.refl e25 Fx3 (g := (mkF m 55 #[.val (.ref a1), .val (.ref a2), .val (.ref a2)] [(.ref a1)])) rfl rfl (hb hby d4_55)
        have pre30 : ∀ t, Steps p.tables e below (T29.setTop (mkF m 58 #[.val (.ref a1), .val (.ref a2), .val (.ref a2)] [(.int x3)])) t → Steps p.tables e below (s₁.setTop (entryFrame m #[(.ref a1), (.ref a2)] 3)) t := fun t k => pre28 t (st29 t k)
        have pre31 : ∀ t, Steps p.tables e below (T29.setTop (mkF m 59 #[.val (.ref a1), .val (.ref a2), .val (.ref a2)] [(.ref a2), (.int x3)])) t → Steps p.tables e below (s₁.setTop (entryFrame m #[(.ref a1), (.ref a2)] 3)) t := fun t k => pre30 t (by
          show Steps p.tables e below (T29.setTop (mkF m 58 #[.val (.ref a1), .val (.ref a2), .val (.ref a2)] [(.int x3)])) _
          refine XS.aloadN X29.here hx rfl (hb hby d4_58) rfl rfl ?_
          exact k)
        obtain ⟨T32, X32, e32, st32⟩ := getF X29 hx hZ hown (host := "") (Or.inl (hw _ (List.mem_of_getElem? (i := 22) rfl))) Via.refl e29 Fy3 (g := (mkF m 59 #[.val (.ref a1), .val (.ref a2), .val (.ref a2)] [(.ref a2), (.int x3)])) rfl rfl (hb hby d4_59)
        have pre33 : ∀ t, Steps p.tables e below (T32.setTop (mkF m 62 #[.val (.ref a1), .val (.ref a2), .val (.ref a2)] [(.int y3), (.int x3)])) t → Steps p.tables e below (s₁.setTop (entryFrame m #[(.ref a1), (.ref a2)] 3)) t := fun t k => pre31 t (st32 t k)
        by_cases hc62_34 : x3 = y3
        · have pre35 : ∀ t, Steps p.tables e below (T32.setTop (mkF m 70 #[.val (.ref a1), .val (.ref a2), .val (.ref a2)] [(.int (1 : Int32))])) t → Steps p.tables e below (s₁.setTop (entryFrame m #[(.ref a1), (.ref a2)] 3)) t := fun t k => pre33 t (by
            show Steps p.tables e below (T32.setTop (mkF m 62 #[.val (.ref a1), .val (.ref a2), .val (.ref a2)] [(.int y3), (.int x3)])) _
            refine XS.icmpNo X32.here hx rfl (hb hby d4_62) rfl (teq hc62_34).2 ?_
            show Steps p.tables e below (T32.setTop (mkF m 65 #[.val (.ref a1), .val (.ref a2), .val (.ref a2)] [])) _
            refine XS.iconst X32.here hx rfl (hb hby d4_65) ?_
            show Steps p.tables e below (T32.setTop (mkF m 66 #[.val (.ref a1), .val (.ref a2), .val (.ref a2)] [(.int (1 : Int32))])) _
            refine XS.goto X32.here hx rfl (pc0 := 66) (pc' := 70) rfl (hb hby d4_66) (by decide) (by decide) ?_
            exact k)
          obtain ⟨fs, hr, hrun, hended, hW, hsame⟩ := X32.leave (v := some (.int (1 : Int32))) (fun h => by rw [Bd.returns] at h; cases h)
          refine ⟨_, _, pre35 _ ?_, hrun, hended, _, _, rfl, ?_, ⟨_, rfl⟩, hW, hsame.mono (by decide) (by decide)⟩
          · exact retN X32 hx (t := .boolean) Bd.returns (by simp) (hb hby d4_70) hr
          · show Q_rm_eqobj Z a1 a2 x0 x1 x2 x3 y0 y1 y2 y3 h0 n0 _ T32.heap _
            rw [e32]
            exact ⟨(congrArg (fun z => some (Value.int z)) ((own_eq_yes hc29_13 hc40_20 hc51_27 hc62_34)).symm), N0, rfl⟩
        · have pre36 : ∀ t, Steps p.tables e below (T32.setTop (mkF m 70 #[.val (.ref a1), .val (.ref a2), .val (.ref a2)] [(.int (0 : Int32))])) t → Steps p.tables e below (s₁.setTop (entryFrame m #[(.ref a1), (.ref a2)] 3)) t := fun t k => pre33 t (by
            show Steps p.tables e below (T32.setTop (mkF m 62 #[.val (.ref a1), .val (.ref a2), .val (.ref a2)] [(.int y3), (.int x3)])) _
            refine XS.icmpYes X32.here hx rfl (pc0 := 62) (pc' := 69) rfl (hb hby d4_62) rfl (feq hc62_34).2 (by decide) (by decide) ?_
            show Steps p.tables e below (T32.setTop (mkF m 69 #[.val (.ref a1), .val (.ref a2), .val (.ref a2)] [])) _
            refine XS.iconst X32.here hx rfl (hb hby d4_69) ?_
            exact k)
          obtain ⟨fs, hr, hrun, hended, hW, hsame⟩ := X32.leave (v := some (.int (0 : Int32))) (fun h => by rw [Bd.returns] at h; cases h)
          refine ⟨_, _, pre36 _ ?_, hrun, hended, _, _, rfl, ?_, ⟨_, rfl⟩, hW, hsame.mono (by decide) (by decide)⟩
          · exact retN X32 hx (t := .boolean) Bd.returns (by simp) (hb hby d4_70) hr
          · show Q_rm_eqobj Z a1 a2 x0 x1 x2 x3 y0 y1 y2 y3 h0 n0 _ T32.heap _
            rw [e32]
            exact ⟨(congrArg (fun z => some (Value.int z)) ((own_eq_no (fun q => hc62_34 (q.2.2.2)))).symm), N0, rfl⟩
      · have pre37 : ∀ t, Steps p.tables e below (T25.setTop (mkF m 70 #[.val (.ref a1), .val (.ref a2), .val (.ref a2)] [(.int (0 : Int32))])) t → Steps p.tables e below (s₁.setTop (entryFrame m #[(.ref a1), (.ref a2)] 3)) t := fun t k => pre26 t (by
          show Steps p.tables e below (T25.setTop (mkF m 51 #[.val (.ref a1), .val (.ref a2), .val (.ref a2)] [(.int y2), (.int x2)])) _
          refine XS.icmpYes X25.here hx rfl (pc0 := 51) (pc' := 69) rfl (hb hby d4_51) rfl (feq hc51_27).2 (by decide) (by decide) ?_
          show Steps p.tables e below (T25.setTop (mkF m 69 #[.val (.ref a1), .val (.ref a2), .val (.ref a2)] [])) _
          refine XS.iconst X25.here hx rfl (hb hby d4_69) ?_
          exact k)
        obtain ⟨fs, hr, hrun, hended, hW, hsame⟩ := X25.leave (v := some (.int (0 : Int32))) (fun h => by rw [Bd.returns] at h; cases h)
        refine ⟨_, _, pre37 _ ?_, hrun, hended, _, _, rfl, ?_, ⟨_, rfl⟩, hW, hsame.mono (by decide) (by decide)⟩
        · exact retN X25 hx (t := .boolean) Bd.returns (by simp) (hb hby d4_70) hr
        · show Q_rm_eqobj Z a1 a2 x0 x1 x2 x3 y0 y1 y2 y3 h0 n0 _ T25.heap _
          rw [e25]
          exact ⟨(congrArg (fun z => some (Value.int z)) ((own_eq_no (fun q => hc51_27 (q.2.2.1)))).symm), N0, rfl⟩
    · have pre38 : ∀ t, Steps p.tables e below (T18.setTop (mkF m 70 #[.val (.ref a1), .val (.ref a2), .val (.ref a2)] [(.int (0 : Int32))])) t → Steps p.tables e below (s₁.setTop (entryFrame m #[(.ref a1), (.ref a2)] 3)) t := fun t k => pre19 t (by
        show Steps p.tables e below (T18.setTop (mkF m 40 #[.val (.ref a1), .val (.ref a2), .val (.ref a2)] [(.int y1), (.int x1)])) _
        refine XS.icmpYes X18.here hx rfl (pc0 := 40) (pc' := 69) rfl (hb hby d4_40) rfl (feq hc40_20).2 (by decide) (by decide) ?_
        show Steps p.tables e below (T18.setTop (mkF m 69 #[.val (.ref a1), .val (.ref a2), .val (.ref a2)] [])) _
        refine XS.iconst X18.here hx rfl (hb hby d4_69) ?_
        exact k)
      obtain ⟨fs, hr, hrun, hended, hW, hsame⟩ := X18.leave (v := some (.int (0 : Int32))) (fun h => by rw [Bd.returns] at h; cases h)
      refine ⟨_, _, pre38 _ ?_, hrun, hended, _, _, rfl, ?_, ⟨_, rfl⟩, hW, hsame.mono (by decide) (by decide)⟩
      · exact retN X18 hx (t := .boolean) Bd.returns (by simp) (hb hby d4_70) hr
      · show Q_rm_eqobj Z a1 a2 x0 x1 x2 x3 y0 y1 y2 y3 h0 n0 _ T18.heap _
        rw [e18]
        exact ⟨(congrArg (fun z => some (Value.int z)) ((own_eq_no (fun q => hc40_20 (q.2.1)))).symm), N0, rfl⟩
  · have pre39 : ∀ t, Steps p.tables e below (T11.setTop (mkF m 70 #[.val (.ref a1), .val (.ref a2), .val (.ref a2)] [(.int (0 : Int32))])) t → Steps p.tables e below (s₁.setTop (entryFrame m #[(.ref a1), (.ref a2)] 3)) t := fun t k => pre12 t (by
      show Steps p.tables e below (T11.setTop (mkF m 29 #[.val (.ref a1), .val (.ref a2), .val (.ref a2)] [(.int y0), (.int x0)])) _
      refine XS.icmpYes X11.here hx rfl (pc0 := 29) (pc' := 69) rfl (hb hby d4_29) rfl (feq hc29_13).2 (by decide) (by decide) ?_
      show Steps p.tables e below (T11.setTop (mkF m 69 #[.val (.ref a1), .val (.ref a2), .val (.ref a2)] [])) _
      refine XS.iconst X11.here hx rfl (hb hby d4_69) ?_
      exact k)
    obtain ⟨fs, hr, hrun, hended, hW, hsame⟩ := X11.leave (v := some (.int (0 : Int32))) (fun h => by rw [Bd.returns] at h; cases h)
    refine ⟨_, _, pre39 _ ?_, hrun, hended, _, _, rfl, ?_, ⟨_, rfl⟩, hW, hsame.mono (by decide) (by decide)⟩
    · exact retN X11 hx (t := .boolean) Bd.returns (by simp) (hb hby d4_70) hr
    · show Q_rm_eqobj Z a1 a2 x0 x1 x2 x3 y0 y1 y2 y3 h0 n0 _ T11.heap _
      rw [e11]
      exact ⟨(congrArg (fun z => some (Value.int z)) ((own_eq_no (fun q => hc29_13 (q.1)))).symm), N0, rfl⟩
theorem ef_0 (m : MethodId) (x0 : Int32) (x1 : Int32) (x2 : Int32) (x3 : Int32) (x4 : Int32) (x5 : Int32) : entryFrame m #[(.int x0), (.int x1), (.int x2), (.int x3), (.int x4), (.int x5)] maxLocals = mkF m 0 #[.val (.int x0), .val (.int x1), .val (.int x2), .val (.int x3), .val (.int x4), .val (.int x5), .unset, .unset, .unset, .unset, .unset, .unset, .unset, .unset, .unset, .unset] [] := by first | (simp [entryFrame, mkF, argsToLocals, Value.category, maxLocals]; done) | rfl
theorem pn_com_example_blynds_blynds_engine_RectEqualsPinLaw : plainName "com/example/blynds/blynds/engine/RectEqualsPinLaw" = true := by first | (simp [plainName, overriddenIn]; done) | decide +kernel
theorem pd_2 : parseMethodDescriptor "(JJ)J" = some ⟨[.long, .long], some .long⟩ := by decide +kernel
theorem pd_3 : parseMethodDescriptor "(IIII)V" = some ⟨[.int, .int, .int, .int], none⟩ := by decide +kernel
theorem pd_4 : parseMethodDescriptor "(Ljava/lang/Object;)Z" = some ⟨[(.object "java/lang/Object")], some .boolean⟩ := by decide +kernel
theorem pd_5 : parseMethodDescriptor "(I)Ljava/lang/Integer;" = some ⟨[.int], some (.object "java/lang/Integer")⟩ := by decide +kernel
def Q_rm_law (Z : State) (p1 : Int32) (p2 : Int32) (p3 : Int32) (p4 : Int32) (p5 : Int32) (p6 : Int32) (cA : Addr) (cl : Cell) (h0 : Heap) (n0 : Nat) (v : Option Value) (h : Heap) (L : List Loc) : Prop := v = some (.int (1 : Int32)) ∧ Fr n0 L
set_option maxRecDepth 65536 in
set_option maxHeartbeats 40000000 in
theorem rm_law (l : Launch) (Z : State) (a0 : Array Value) (hw : ∀ d ∈ tables_1, d.before a0 Z = true) (ws : List Jvm.Cond) (p1 : Int32) (p2 : Int32) (p3 : Int32) (p4 : Int32) (p5 : Int32) (p6 : Int32) (cA : Addr) (cl : Cell) (h0 : Heap) (n0 : Nat) (Z0 : n0 ≤ h0.size) (O0 : Ext Z.heap h0) (C0' : CacheF Z cA cl) :
    MetFree l x (head1 (Jvm.Cond.code x code maxLocals ret :: ws) room_1) (fun a U => a = #[(.int p1), (.int p2), (.int p3), (.int p4), (.int p5), (.int p6)] ∧ Z.Warmed39 U.vm ∧ U.heap = h0) (fun _ _ _ _ _ => True) (fun _ U o U' => ∃ v L, o = .returned v ∧ Q_rm_law Z p1 p2 p3 p4 p5 p6 cA cl h0 n0 v U'.heap L ∧ FrameEnd U o U' L room_1.cells room_1.slots) := by
  refine MetFree.of_bodySF (plainFor_of_name pn_com_example_blynds_blynds_engine_RectEqualsPinLaw) hisR ?_
  intro p e s m args below meth c s₁ Bd hml0 hP hK
  obtain ⟨rfl, hZ, hh⟩ := hP
  have hx := Bd.exec
  have hby := Bd.bytes
  have hml : c.maxLocals = 16 := hml0
  have hown : s.vm.findClass "com/example/blynds/blynds/engine/RectEqualsPinLaw" = some m.cls := findClass_of_methodNamed Bd.named
  have hnm := (name_of_methodNamed Bd.named Bd.method).1
  have X0 : Stand p l e room_1 s m #[(.int p1), (.int p2), (.int p3), (.int p4), (.int p5), (.int p6)] below meth c s₁ [] 0 0 := Stand.of_body Bd
  have e0 : s₁.heap = h0 := by rw [← hh, Bd.state]; rfl
  have N0 := Fr.nil n0
  have pre0 : ∀ t, Steps p.tables e below (s₁.setTop (mkF m 0 #[.val (.int p1), .val (.int p2), .val (.int p3), .val (.int p4), .val (.int p5), .val (.int p6), .unset, .unset, .unset, .unset, .unset, .unset, .unset, .unset, .unset, .unset] [])) t → Steps p.tables e below (s₁.setTop (entryFrame m #[(.int p1), (.int p2), (.int p3), (.int p4), (.int p5), (.int p6)] maxLocals)) t := fun t k => castTop (ef_0 m p1 p2 p3 p4 p5 p6) k
  have pre1 : ∀ t, Steps p.tables e below (s₁.setTop (mkF m 11 #[.val (.int p1), .val (.int p2), .val (.int p3), .val (.int p4), .val (.int p5), .val (.int p6), .unset, .unset, .unset, .unset, .unset, .unset, .unset, .unset, .unset, .unset] [(.long (2147483647 : Int64)), (.long ((p1.toInt64) + ((p3 &&& (2147483647 : Int32)).toInt64)))])) t → Steps p.tables e below (s₁.setTop (entryFrame m #[(.int p1), (.int p2), (.int p3), (.int p4), (.int p5), (.int p6)] maxLocals)) t := fun t k => pre0 t (by
    show Steps p.tables e below (s₁.setTop (mkF m 0 #[.val (.int p1), .val (.int p2), .val (.int p3), .val (.int p4), .val (.int p5), .val (.int p6), .unset, .unset, .unset, .unset, .unset, .unset, .unset, .unset, .unset, .unset] [])) _
    refine XS.iloadN X0.here hx rfl (hb hby at_0) rfl ?_
    show Steps p.tables e below (s₁.setTop (mkF m 1 #[.val (.int p1), .val (.int p2), .val (.int p3), .val (.int p4), .val (.int p5), .val (.int p6), .unset, .unset, .unset, .unset, .unset, .unset, .unset, .unset, .unset, .unset] [(.int p1)])) _
    refine XS.i2l X0.here hx rfl (hb hby at_1) rfl ?_
    show Steps p.tables e below (s₁.setTop (mkF m 2 #[.val (.int p1), .val (.int p2), .val (.int p3), .val (.int p4), .val (.int p5), .val (.int p6), .unset, .unset, .unset, .unset, .unset, .unset, .unset, .unset, .unset, .unset] [(.long (p1.toInt64))])) _
    refine XS.iloadN X0.here hx rfl (hb hby at_2) rfl ?_
    show Steps p.tables e below (s₁.setTop (mkF m 3 #[.val (.int p1), .val (.int p2), .val (.int p3), .val (.int p4), .val (.int p5), .val (.int p6), .unset, .unset, .unset, .unset, .unset, .unset, .unset, .unset, .unset, .unset] [(.int p3), (.long (p1.toInt64))])) _
    refine X0.ldcInt hx hown (mvT hZ (hw _ (List.mem_of_getElem? (i := 0) rfl))) (g := (mkF m 3 #[.val (.int p1), .val (.int p2), .val (.int p3), .val (.int p4), .val (.int p5), .val (.int p6), .unset, .unset, .unset, .unset, .unset, .unset, .unset, .unset, .unset, .unset] [(.int p3), (.long (p1.toInt64))])) rfl (hb hby at_3) _ ?_
    show Steps p.tables e below (s₁.setTop (mkF m 5 #[.val (.int p1), .val (.int p2), .val (.int p3), .val (.int p4), .val (.int p5), .val (.int p6), .unset, .unset, .unset, .unset, .unset, .unset, .unset, .unset, .unset, .unset] [(.int (2147483647 : Int32)), (.int p3), (.long (p1.toInt64))])) _
    refine XS.iand X0.here hx rfl (hb hby at_5) rfl ?_
    show Steps p.tables e below (s₁.setTop (mkF m 6 #[.val (.int p1), .val (.int p2), .val (.int p3), .val (.int p4), .val (.int p5), .val (.int p6), .unset, .unset, .unset, .unset, .unset, .unset, .unset, .unset, .unset, .unset] [(.int (p3 &&& (2147483647 : Int32))), (.long (p1.toInt64))])) _
    refine XS.i2l X0.here hx rfl (hb hby at_6) rfl ?_
    show Steps p.tables e below (s₁.setTop (mkF m 7 #[.val (.int p1), .val (.int p2), .val (.int p3), .val (.int p4), .val (.int p5), .val (.int p6), .unset, .unset, .unset, .unset, .unset, .unset, .unset, .unset, .unset, .unset] [(.long ((p3 &&& (2147483647 : Int32)).toInt64)), (.long (p1.toInt64))])) _
    refine XS.ladd X0.here hx rfl (hb hby at_7) rfl ?_
    show Steps p.tables e below (s₁.setTop (mkF m 8 #[.val (.int p1), .val (.int p2), .val (.int p3), .val (.int p4), .val (.int p5), .val (.int p6), .unset, .unset, .unset, .unset, .unset, .unset, .unset, .unset, .unset, .unset] [(.long ((p1.toInt64) + ((p3 &&& (2147483647 : Int32)).toInt64)))])) _
    refine X0.ldc2Long hx hown (mvT hZ (hw _ (List.mem_of_getElem? (i := 1) rfl))) (g := (mkF m 8 #[.val (.int p1), .val (.int p2), .val (.int p3), .val (.int p4), .val (.int p5), .val (.int p6), .unset, .unset, .unset, .unset, .unset, .unset, .unset, .unset, .unset, .unset] [(.long ((p1.toInt64) + ((p3 &&& (2147483647 : Int32)).toInt64)))])) rfl (hb hby at_8) _ ?_
    exact k)
  obtain ⟨_, _, ⟨T2, L2, k2, n2⟩, -, X2, ⟨Lc2, hQ2, l2, y2, z2⟩, st2⟩ := Jvm.LawKit.callS X0 hx (y := (⟨"java/lang/Math", "min", "(JJ)J"⟩ : MethodName)) hown (mvT hZ (hw _ (List.mem_of_getElem? (i := 2) rfl))) (mvT hZ (hw _ (List.mem_of_getElem? (i := 3) rfl))) (mvT hZ (hw _ (List.mem_of_getElem? (i := 4) rfl))) (mvT hZ (hw _ (List.mem_of_getElem? (i := 5) rfl))) (by decide) (backOf (W := 0) (rm_min l Z a0 hw [] ((p1.toInt64) + ((p3 &&& (2147483647 : Int32)).toInt64)) (2147483647 : Int64) h0 n0 Z0 O0) hZ (hw _ (List.mem_of_getElem? (i := 5) rfl)) (hw _ (List.mem_of_getElem? (i := 4) rfl)) (by decide) (by decide)) (g := (mkF m 11 #[.val (.int p1), .val (.int p2), .val (.int p3), .val (.int p4), .val (.int p5), .val (.int p6), .unset, .unset, .unset, .unset, .unset, .unset, .unset, .unset, .unset, .unset] [(.long (2147483647 : Int64)), (.long ((p1.toInt64) + ((p3 &&& (2147483647 : Int32)).toInt64)))])) rfl (by rw [hml]; rfl) (argsL := [(.long ((p1.toInt64) + ((p3 &&& (2147483647 : Int32)).toInt64))), (.long (2147483647 : Int64))]) (rest := []) (lenOf pd_2 rfl) rfl (by show 2 * 0 + _ ≤ _; exact Nat.le_of_eq rfl) (hb hby at_11) (fun _ _ => ⟨rfl, e0, (by decide : 0 + 0 ≤ _), (by decide : 0 + 0 ≤ _)⟩)
  dsimp only [Pt.U, Pt.locs, Pt.cells, Pt.slots] at X2 l2 y2 z2 st2 hQ2
  subst l2 y2 z2
  obtain ⟨rfl, N2q, e2⟩ := hQ2
  have N2 := Fr.app N0 N2q
  have pre3 : ∀ t, Steps p.tables e below (T2.setTop (mkF m 14 #[.val (.int p1), .val (.int p2), .val (.int p3), .val (.int p4), .val (.int p5), .val (.int p6), .unset, .unset, .unset, .unset, .unset, .unset, .unset, .unset, .unset, .unset] [(.long (minJ ((p1.toInt64) + ((p3 &&& (2147483647 : Int32)).toInt64)) (2147483647 : Int64)))])) t → Steps p.tables e below (s₁.setTop (entryFrame m #[(.int p1), (.int p2), (.int p3), (.int p4), (.int p5), (.int p6)] maxLocals)) t := fun t k => pre1 t (st2 t k)
  have pre4 : ∀ t, Steps p.tables e below (T2.setTop (mkF m 15 #[.val (.int p1), .val (.int p2), .val (.int p3), .val (.int p4), .val (.int p5), .val (.int p6), .unset, .unset, .unset, .unset, .unset, .unset, .unset, .unset, .unset, .unset] [(.int ((minJ ((p1.toInt64) + ((p3 &&& (2147483647 : Int32)).toInt64)) (2147483647 : Int64)).toInt32))])) t → Steps p.tables e below (s₁.setTop (entryFrame m #[(.int p1), (.int p2), (.int p3), (.int p4), (.int p5), (.int p6)] maxLocals)) t := fun t k => pre3 t (by
    show Steps p.tables e below (T2.setTop (mkF m 14 #[.val (.int p1), .val (.int p2), .val (.int p3), .val (.int p4), .val (.int p5), .val (.int p6), .unset, .unset, .unset, .unset, .unset, .unset, .unset, .unset, .unset, .unset] [(.long (minJ ((p1.toInt64) + ((p3 &&& (2147483647 : Int32)).toInt64)) (2147483647 : Int64)))])) _
    refine XS.l2i X2.here hx rfl (hb hby at_14) rfl ?_
    exact k)
  have pre5 : ∀ t, Steps p.tables e below (T2.setTop (mkF m 15 #[.val (.int p1), .val (.int p2), .val (.int p3), .val (.int p4), .val (.int p5), .val (.int p6), .unset, .unset, .unset, .unset, .unset, .unset, .unset, .unset, .unset, .unset] [(.int (rF p1 p3))])) t → Steps p.tables e below (s₁.setTop (entryFrame m #[(.int p1), (.int p2), (.int p3), (.int p4), (.int p5), (.int p6)] maxLocals)) t := pre4
  have pre6 : ∀ t, Steps p.tables e below (T2.setTop (mkF m 28 #[.val (.int p1), .val (.int p2), .val (.int p3), .val (.int p4), .val (.int p5), .val (.int p6), .val (.int (rF p1 p3)), .unset, .unset, .unset, .unset, .unset, .unset, .unset, .unset, .unset] [(.long (2147483647 : Int64)), (.long ((p2.toInt64) + ((p4 &&& (2147483647 : Int32)).toInt64)))])) t → Steps p.tables e below (s₁.setTop (entryFrame m #[(.int p1), (.int p2), (.int p3), (.int p4), (.int p5), (.int p6)] maxLocals)) t := fun t k => pre5 t (by
    show Steps p.tables e below (T2.setTop (mkF m 15 #[.val (.int p1), .val (.int p2), .val (.int p3), .val (.int p4), .val (.int p5), .val (.int p6), .unset, .unset, .unset, .unset, .unset, .unset, .unset, .unset, .unset, .unset] [(.int (rF p1 p3))])) _
    refine XS.istore X2.here hx rfl (hb hby at_15) rfl (l' := #[.val (.int p1), .val (.int p2), .val (.int p3), .val (.int p4), .val (.int p5), .val (.int p6), .val (.int (rF p1 p3)), .unset, .unset, .unset, .unset, .unset, .unset, .unset, .unset, .unset]) rfl ?_
    show Steps p.tables e below (T2.setTop (mkF m 17 #[.val (.int p1), .val (.int p2), .val (.int p3), .val (.int p4), .val (.int p5), .val (.int p6), .val (.int (rF p1 p3)), .unset, .unset, .unset, .unset, .unset, .unset, .unset, .unset, .unset] [])) _
    refine XS.iloadN X2.here hx rfl (hb hby at_17) rfl ?_
    show Steps p.tables e below (T2.setTop (mkF m 18 #[.val (.int p1), .val (.int p2), .val (.int p3), .val (.int p4), .val (.int p5), .val (.int p6), .val (.int (rF p1 p3)), .unset, .unset, .unset, .unset, .unset, .unset, .unset, .unset, .unset] [(.int p2)])) _
    refine XS.i2l X2.here hx rfl (hb hby at_18) rfl ?_
    show Steps p.tables e below (T2.setTop (mkF m 19 #[.val (.int p1), .val (.int p2), .val (.int p3), .val (.int p4), .val (.int p5), .val (.int p6), .val (.int (rF p1 p3)), .unset, .unset, .unset, .unset, .unset, .unset, .unset, .unset, .unset] [(.long (p2.toInt64))])) _
    refine XS.iloadN X2.here hx rfl (hb hby at_19) rfl ?_
    show Steps p.tables e below (T2.setTop (mkF m 20 #[.val (.int p1), .val (.int p2), .val (.int p3), .val (.int p4), .val (.int p5), .val (.int p6), .val (.int (rF p1 p3)), .unset, .unset, .unset, .unset, .unset, .unset, .unset, .unset, .unset] [(.int p4), (.long (p2.toInt64))])) _
    refine X2.ldcInt hx hown (mvT hZ (hw _ (List.mem_of_getElem? (i := 0) rfl))) (g := (mkF m 20 #[.val (.int p1), .val (.int p2), .val (.int p3), .val (.int p4), .val (.int p5), .val (.int p6), .val (.int (rF p1 p3)), .unset, .unset, .unset, .unset, .unset, .unset, .unset, .unset, .unset] [(.int p4), (.long (p2.toInt64))])) rfl (hb hby at_20) _ ?_
    show Steps p.tables e below (T2.setTop (mkF m 22 #[.val (.int p1), .val (.int p2), .val (.int p3), .val (.int p4), .val (.int p5), .val (.int p6), .val (.int (rF p1 p3)), .unset, .unset, .unset, .unset, .unset, .unset, .unset, .unset, .unset] [(.int (2147483647 : Int32)), (.int p4), (.long (p2.toInt64))])) _
    refine XS.iand X2.here hx rfl (hb hby at_22) rfl ?_
    show Steps p.tables e below (T2.setTop (mkF m 23 #[.val (.int p1), .val (.int p2), .val (.int p3), .val (.int p4), .val (.int p5), .val (.int p6), .val (.int (rF p1 p3)), .unset, .unset, .unset, .unset, .unset, .unset, .unset, .unset, .unset] [(.int (p4 &&& (2147483647 : Int32))), (.long (p2.toInt64))])) _
    refine XS.i2l X2.here hx rfl (hb hby at_23) rfl ?_
    show Steps p.tables e below (T2.setTop (mkF m 24 #[.val (.int p1), .val (.int p2), .val (.int p3), .val (.int p4), .val (.int p5), .val (.int p6), .val (.int (rF p1 p3)), .unset, .unset, .unset, .unset, .unset, .unset, .unset, .unset, .unset] [(.long ((p4 &&& (2147483647 : Int32)).toInt64)), (.long (p2.toInt64))])) _
    refine XS.ladd X2.here hx rfl (hb hby at_24) rfl ?_
    show Steps p.tables e below (T2.setTop (mkF m 25 #[.val (.int p1), .val (.int p2), .val (.int p3), .val (.int p4), .val (.int p5), .val (.int p6), .val (.int (rF p1 p3)), .unset, .unset, .unset, .unset, .unset, .unset, .unset, .unset, .unset] [(.long ((p2.toInt64) + ((p4 &&& (2147483647 : Int32)).toInt64)))])) _
    refine X2.ldc2Long hx hown (mvT hZ (hw _ (List.mem_of_getElem? (i := 1) rfl))) (g := (mkF m 25 #[.val (.int p1), .val (.int p2), .val (.int p3), .val (.int p4), .val (.int p5), .val (.int p6), .val (.int (rF p1 p3)), .unset, .unset, .unset, .unset, .unset, .unset, .unset, .unset, .unset] [(.long ((p2.toInt64) + ((p4 &&& (2147483647 : Int32)).toInt64)))])) rfl (hb hby at_25) _ ?_
    exact k)
  obtain ⟨_, _, ⟨T7, L7, k7, n7⟩, -, X7, ⟨Lc7, hQ7, l7, y7, z7⟩, st7⟩ := Jvm.LawKit.callS X2 hx (y := (⟨"java/lang/Math", "min", "(JJ)J"⟩ : MethodName)) hown (mvT hZ (hw _ (List.mem_of_getElem? (i := 2) rfl))) (mvT hZ (hw _ (List.mem_of_getElem? (i := 3) rfl))) (mvT hZ (hw _ (List.mem_of_getElem? (i := 4) rfl))) (mvT hZ (hw _ (List.mem_of_getElem? (i := 5) rfl))) (by decide) (backOf (W := 0) (rm_min l Z a0 hw [] ((p2.toInt64) + ((p4 &&& (2147483647 : Int32)).toInt64)) (2147483647 : Int64) h0 n0 Z0 O0) hZ (hw _ (List.mem_of_getElem? (i := 5) rfl)) (hw _ (List.mem_of_getElem? (i := 4) rfl)) (by decide) (by decide)) (g := (mkF m 28 #[.val (.int p1), .val (.int p2), .val (.int p3), .val (.int p4), .val (.int p5), .val (.int p6), .val (.int (rF p1 p3)), .unset, .unset, .unset, .unset, .unset, .unset, .unset, .unset, .unset] [(.long (2147483647 : Int64)), (.long ((p2.toInt64) + ((p4 &&& (2147483647 : Int32)).toInt64)))])) rfl (by rw [hml]; rfl) (argsL := [(.long ((p2.toInt64) + ((p4 &&& (2147483647 : Int32)).toInt64))), (.long (2147483647 : Int64))]) (rest := []) (lenOf pd_2 rfl) rfl (by show 2 * 0 + _ ≤ _; exact Nat.le_of_eq rfl) (hb hby at_28) (fun _ _ => ⟨rfl, e2, (by decide : 0 + 0 ≤ _), (by decide : 0 + 0 ≤ _)⟩)
  dsimp only [Pt.U, Pt.locs, Pt.cells, Pt.slots] at X7 l7 y7 z7 st7 hQ7
  subst l7 y7 z7
  obtain ⟨rfl, N7q, e7⟩ := hQ7
  have N7 := Fr.app N2 N7q
  have pre8 : ∀ t, Steps p.tables e below (T7.setTop (mkF m 31 #[.val (.int p1), .val (.int p2), .val (.int p3), .val (.int p4), .val (.int p5), .val (.int p6), .val (.int (rF p1 p3)), .unset, .unset, .unset, .unset, .unset, .unset, .unset, .unset, .unset] [(.long (minJ ((p2.toInt64) + ((p4 &&& (2147483647 : Int32)).toInt64)) (2147483647 : Int64)))])) t → Steps p.tables e below (s₁.setTop (entryFrame m #[(.int p1), (.int p2), (.int p3), (.int p4), (.int p5), (.int p6)] maxLocals)) t := fun t k => pre6 t (st7 t k)
  have pre9 : ∀ t, Steps p.tables e below (T7.setTop (mkF m 32 #[.val (.int p1), .val (.int p2), .val (.int p3), .val (.int p4), .val (.int p5), .val (.int p6), .val (.int (rF p1 p3)), .unset, .unset, .unset, .unset, .unset, .unset, .unset, .unset, .unset] [(.int ((minJ ((p2.toInt64) + ((p4 &&& (2147483647 : Int32)).toInt64)) (2147483647 : Int64)).toInt32))])) t → Steps p.tables e below (s₁.setTop (entryFrame m #[(.int p1), (.int p2), (.int p3), (.int p4), (.int p5), (.int p6)] maxLocals)) t := fun t k => pre8 t (by
    show Steps p.tables e below (T7.setTop (mkF m 31 #[.val (.int p1), .val (.int p2), .val (.int p3), .val (.int p4), .val (.int p5), .val (.int p6), .val (.int (rF p1 p3)), .unset, .unset, .unset, .unset, .unset, .unset, .unset, .unset, .unset] [(.long (minJ ((p2.toInt64) + ((p4 &&& (2147483647 : Int32)).toInt64)) (2147483647 : Int64)))])) _
    refine XS.l2i X7.here hx rfl (hb hby at_31) rfl ?_
    exact k)
  have pre10 : ∀ t, Steps p.tables e below (T7.setTop (mkF m 32 #[.val (.int p1), .val (.int p2), .val (.int p3), .val (.int p4), .val (.int p5), .val (.int p6), .val (.int (rF p1 p3)), .unset, .unset, .unset, .unset, .unset, .unset, .unset, .unset, .unset] [(.int (rF p2 p4))])) t → Steps p.tables e below (s₁.setTop (entryFrame m #[(.int p1), (.int p2), (.int p3), (.int p4), (.int p5), (.int p6)] maxLocals)) t := pre9
  have pre11 : ∀ t, Steps p.tables e below (T7.setTop (mkF m 34 #[.val (.int p1), .val (.int p2), .val (.int p3), .val (.int p4), .val (.int p5), .val (.int p6), .val (.int (rF p1 p3)), .val (.int (rF p2 p4)), .unset, .unset, .unset, .unset, .unset, .unset, .unset, .unset] [])) t → Steps p.tables e below (s₁.setTop (entryFrame m #[(.int p1), (.int p2), (.int p3), (.int p4), (.int p5), (.int p6)] maxLocals)) t := fun t k => pre10 t (by
    show Steps p.tables e below (T7.setTop (mkF m 32 #[.val (.int p1), .val (.int p2), .val (.int p3), .val (.int p4), .val (.int p5), .val (.int p6), .val (.int (rF p1 p3)), .unset, .unset, .unset, .unset, .unset, .unset, .unset, .unset, .unset] [(.int (rF p2 p4))])) _
    refine XS.istore X7.here hx rfl (hb hby at_32) rfl (l' := #[.val (.int p1), .val (.int p2), .val (.int p3), .val (.int p4), .val (.int p5), .val (.int p6), .val (.int (rF p1 p3)), .val (.int (rF p2 p4)), .unset, .unset, .unset, .unset, .unset, .unset, .unset, .unset]) rfl ?_
    exact k)
  obtain ⟨T12, h12, X12, e12, E12, A12, D12, -, st12⟩ := newO X7 hx hZ hown (hw _ (List.mem_of_getElem? (i := 6) rfl)) (hw _ (List.mem_of_getElem? (i := 7) rfl)) (hw _ (List.mem_of_getElem? (i := 8) rfl)) e7 (g := (mkF m 34 #[.val (.int p1), .val (.int p2), .val (.int p3), .val (.int p4), .val (.int p5), .val (.int p6), .val (.int (rF p1 p3)), .val (.int (rF p2 p4)), .unset, .unset, .unset, .unset, .unset, .unset, .unset, .unset] [])) rfl (hb hby at_34) (by decide) (by decide)
  obtain ⟨b12, g12⟩ : ∃ z, z = h0.size := ⟨_, rfl⟩
  rw [← g12] at A12 D12 st12
  have F_left_b12 : Fld Z h12 b12 "com/example/blynds/blynds/engine/Rect" "left" "I" (.int (0 : Int32)) := D12 (Or.inr (hw _ (List.mem_of_getElem? (i := 17) rfl))) (ty := .int) (by decide)
  have F_top_b12 : Fld Z h12 b12 "com/example/blynds/blynds/engine/Rect" "top" "I" (.int (0 : Int32)) := D12 (Or.inr (hw _ (List.mem_of_getElem? (i := 19) rfl))) (ty := .int) (by decide)
  have F_right_b12 : Fld Z h12 b12 "com/example/blynds/blynds/engine/Rect" "right" "I" (.int (0 : Int32)) := D12 (Or.inr (hw _ (List.mem_of_getElem? (i := 21) rfl))) (ty := .int) (by decide)
  have F_bottom_b12 : Fld Z h12 b12 "com/example/blynds/blynds/engine/Rect" "bottom" "I" (.int (0 : Int32)) := D12 (Or.inr (hw _ (List.mem_of_getElem? (i := 23) rfl))) (ty := .int) (by decide)
  have g_b12 : n0 ≤ b12 := Nat.le_trans Z0 (Nat.le_of_eq g12.symm)
  have z_b12 : Z.heap.size ≤ b12 := Nat.le_trans O0.1 (Nat.le_of_eq g12.symm)
  have sz_b12 : h0.size ≤ b12 := Nat.le_trans (Keep.refl h0 []).1 (Nat.le_of_eq g12.symm)
  have K12 := (Keep.refl h0 []).ext E12
  have O12 : Ext Z.heap h12 := own_ext_trans O0 E12
  have Z12 : n0 ≤ h12.size := Nat.le_trans Z0 E12.1
  have pre13 : ∀ t, Steps p.tables e below (T12.setTop (mkF m 37 #[.val (.int p1), .val (.int p2), .val (.int p3), .val (.int p4), .val (.int p5), .val (.int p6), .val (.int (rF p1 p3)), .val (.int (rF p2 p4)), .unset, .unset, .unset, .unset, .unset, .unset, .unset, .unset] [(.ref b12)])) t → Steps p.tables e below (s₁.setTop (entryFrame m #[(.int p1), (.int p2), (.int p3), (.int p4), (.int p5), (.int p6)] maxLocals)) t := fun t k => pre11 t (st12 t k)
  have pre14 : ∀ t, Steps p.tables e below (T12.setTop (mkF m 44 #[.val (.int p1), .val (.int p2), .val (.int p3), .val (.int p4), .val (.int p5), .val (.int p6), .val (.int (rF p1 p3)), .val (.int (rF p2 p4)), .unset, .unset, .unset, .unset, .unset, .unset, .unset, .unset] [(.int (rF p2 p4)), (.int (rF p1 p3)), (.int p2), (.int p1), (.ref b12), (.ref b12)])) t → Steps p.tables e below (s₁.setTop (entryFrame m #[(.int p1), (.int p2), (.int p3), (.int p4), (.int p5), (.int p6)] maxLocals)) t := fun t k => pre13 t (by
    show Steps p.tables e below (T12.setTop (mkF m 37 #[.val (.int p1), .val (.int p2), .val (.int p3), .val (.int p4), .val (.int p5), .val (.int p6), .val (.int (rF p1 p3)), .val (.int (rF p2 p4)), .unset, .unset, .unset, .unset, .unset, .unset, .unset, .unset] [(.ref b12)])) _
    refine XS.dup X12.here hx rfl (hb hby at_37) rfl rfl ?_
    show Steps p.tables e below (T12.setTop (mkF m 38 #[.val (.int p1), .val (.int p2), .val (.int p3), .val (.int p4), .val (.int p5), .val (.int p6), .val (.int (rF p1 p3)), .val (.int (rF p2 p4)), .unset, .unset, .unset, .unset, .unset, .unset, .unset, .unset] [(.ref b12), (.ref b12)])) _
    refine XS.iloadN X12.here hx rfl (hb hby at_38) rfl ?_
    show Steps p.tables e below (T12.setTop (mkF m 39 #[.val (.int p1), .val (.int p2), .val (.int p3), .val (.int p4), .val (.int p5), .val (.int p6), .val (.int (rF p1 p3)), .val (.int (rF p2 p4)), .unset, .unset, .unset, .unset, .unset, .unset, .unset, .unset] [(.int p1), (.ref b12), (.ref b12)])) _
    refine XS.iloadN X12.here hx rfl (hb hby at_39) rfl ?_
    show Steps p.tables e below (T12.setTop (mkF m 40 #[.val (.int p1), .val (.int p2), .val (.int p3), .val (.int p4), .val (.int p5), .val (.int p6), .val (.int (rF p1 p3)), .val (.int (rF p2 p4)), .unset, .unset, .unset, .unset, .unset, .unset, .unset, .unset] [(.int p2), (.int p1), (.ref b12), (.ref b12)])) _
    refine XS.iload X12.here hx rfl (hb hby at_40) rfl ?_
    show Steps p.tables e below (T12.setTop (mkF m 42 #[.val (.int p1), .val (.int p2), .val (.int p3), .val (.int p4), .val (.int p5), .val (.int p6), .val (.int (rF p1 p3)), .val (.int (rF p2 p4)), .unset, .unset, .unset, .unset, .unset, .unset, .unset, .unset] [(.int (rF p1 p3)), (.int p2), (.int p1), (.ref b12), (.ref b12)])) _
    refine XS.iload X12.here hx rfl (hb hby at_42) rfl ?_
    exact k)
  obtain ⟨_, _, ⟨T15, L15, k15, n15⟩, -, X15, ⟨Lc15, hQ15, l15, y15, z15⟩, st15⟩ := X12.specialBack hx (y := (⟨"com/example/blynds/blynds/engine/Rect", "<init>", "(IIII)V"⟩ : MethodName)) rfl hown (mvT hZ (hw _ (List.mem_of_getElem? (i := 9) rfl))) (mvT hZ (hw _ (List.mem_of_getElem? (i := 10) rfl))) (mvT hZ (hw _ (List.mem_of_getElem? (i := 11) rfl))) (by decide) (backOf (W := 1) (rm_rc l Z a0 hw [] b12 p1 p2 (rF p1 p3) (rF p2 p4) h12 n0 Z12 O12 A12 F_left_b12 F_top_b12 F_right_b12 F_bottom_b12 g_b12 z_b12 (own_rF _ _) (own_rF _ _)) hZ (hw _ (List.mem_of_getElem? (i := 11) rfl)) (hw _ (List.mem_of_getElem? (i := 8) rfl)) (by decide) (by decide)) (g := (mkF m 44 #[.val (.int p1), .val (.int p2), .val (.int p3), .val (.int p4), .val (.int p5), .val (.int p6), .val (.int (rF p1 p3)), .val (.int (rF p2 p4)), .unset, .unset, .unset, .unset, .unset, .unset, .unset, .unset] [(.int (rF p2 p4)), (.int (rF p1 p3)), (.int p2), (.int p1), (.ref b12), (.ref b12)])) rfl (by rw [hml]; rfl) (Steps.refl _) (a := b12) (argsL := [(.int p1), (.int p2), (.int (rF p1 p3)), (.int (rF p2 p4))]) (rest := [(.ref b12)]) (lenOf pd_3 rfl) rfl (by show 2 * 0 + _ ≤ _; exact Nat.le_of_eq rfl) (hb hby at_44) (fun _ _ => ⟨rfl, e12, (by decide : 1 + 0 ≤ _), (by decide : 4 + 0 ≤ _)⟩)
  dsimp only [Pt.U, Pt.locs, Pt.cells, Pt.slots] at X15 l15 y15 z15 st15 hQ15
  subst l15 y15 z15
  obtain ⟨rfl, N15q, Kq15, r15_0, r15_1, r15_2, r15_3, r15_4⟩ := hQ15
  have O15 : Ext Z.heap T15.heap := own_ext_keep O12 Kq15 (allS z_b12 all0)
  have K15 := K12.trans Kq15 (allS (Or.inr sz_b12) all0)
  have Z15 : n0 ≤ T15.heap.size := Nat.le_trans Z12 Kq15.1
  have N15 := Fr.app N7 N15q
  have pre16 : ∀ t, Steps p.tables e below (T15.setTop (mkF m 47 #[.val (.int p1), .val (.int p2), .val (.int p3), .val (.int p4), .val (.int p5), .val (.int p6), .val (.int (rF p1 p3)), .val (.int (rF p2 p4)), .unset, .unset, .unset, .unset, .unset, .unset, .unset, .unset] [(.ref b12)])) t → Steps p.tables e below (s₁.setTop (entryFrame m #[(.int p1), (.int p2), (.int p3), (.int p4), (.int p5), (.int p6)] maxLocals)) t := fun t k => pre14 t (st15.trans k)
  have pre17 : ∀ t, Steps p.tables e below (T15.setTop (mkF m 59 #[.val (.int p1), .val (.int p2), .val (.int p3), .val (.int p4), .val (.int p5), .val (.int p6), .val (.int (rF p1 p3)), .val (.int (rF p2 p4)), .val (.ref b12), .val (.int (p5 &&& (7 : Int32))), .unset, .unset, .unset, .unset, .unset, .unset] [(.int (5 : Int32)), (.int (p5 &&& (7 : Int32)))])) t → Steps p.tables e below (s₁.setTop (entryFrame m #[(.int p1), (.int p2), (.int p3), (.int p4), (.int p5), (.int p6)] maxLocals)) t := fun t k => pre16 t (by
    show Steps p.tables e below (T15.setTop (mkF m 47 #[.val (.int p1), .val (.int p2), .val (.int p3), .val (.int p4), .val (.int p5), .val (.int p6), .val (.int (rF p1 p3)), .val (.int (rF p2 p4)), .unset, .unset, .unset, .unset, .unset, .unset, .unset, .unset] [(.ref b12)])) _
    refine XS.astore X15.here hx rfl (hb hby at_47) rfl rfl (l' := #[.val (.int p1), .val (.int p2), .val (.int p3), .val (.int p4), .val (.int p5), .val (.int p6), .val (.int (rF p1 p3)), .val (.int (rF p2 p4)), .val (.ref b12), .unset, .unset, .unset, .unset, .unset, .unset, .unset]) rfl ?_
    show Steps p.tables e below (T15.setTop (mkF m 49 #[.val (.int p1), .val (.int p2), .val (.int p3), .val (.int p4), .val (.int p5), .val (.int p6), .val (.int (rF p1 p3)), .val (.int (rF p2 p4)), .val (.ref b12), .unset, .unset, .unset, .unset, .unset, .unset, .unset] [])) _
    refine XS.iload X15.here hx rfl (hb hby at_49) rfl ?_
    show Steps p.tables e below (T15.setTop (mkF m 51 #[.val (.int p1), .val (.int p2), .val (.int p3), .val (.int p4), .val (.int p5), .val (.int p6), .val (.int (rF p1 p3)), .val (.int (rF p2 p4)), .val (.ref b12), .unset, .unset, .unset, .unset, .unset, .unset, .unset] [(.int p5)])) _
    refine XS.bipush X15.here hx rfl (hb hby at_51) ?_
    show Steps p.tables e below (T15.setTop (mkF m 53 #[.val (.int p1), .val (.int p2), .val (.int p3), .val (.int p4), .val (.int p5), .val (.int p6), .val (.int (rF p1 p3)), .val (.int (rF p2 p4)), .val (.ref b12), .unset, .unset, .unset, .unset, .unset, .unset, .unset] [(.int (7 : Int32)), (.int p5)])) _
    refine XS.iand X15.here hx rfl (hb hby at_53) rfl ?_
    show Steps p.tables e below (T15.setTop (mkF m 54 #[.val (.int p1), .val (.int p2), .val (.int p3), .val (.int p4), .val (.int p5), .val (.int p6), .val (.int (rF p1 p3)), .val (.int (rF p2 p4)), .val (.ref b12), .unset, .unset, .unset, .unset, .unset, .unset, .unset] [(.int (p5 &&& (7 : Int32)))])) _
    refine XS.istore X15.here hx rfl (hb hby at_54) rfl (l' := #[.val (.int p1), .val (.int p2), .val (.int p3), .val (.int p4), .val (.int p5), .val (.int p6), .val (.int (rF p1 p3)), .val (.int (rF p2 p4)), .val (.ref b12), .val (.int (p5 &&& (7 : Int32))), .unset, .unset, .unset, .unset, .unset, .unset]) rfl ?_
    show Steps p.tables e below (T15.setTop (mkF m 56 #[.val (.int p1), .val (.int p2), .val (.int p3), .val (.int p4), .val (.int p5), .val (.int p6), .val (.int (rF p1 p3)), .val (.int (rF p2 p4)), .val (.ref b12), .val (.int (p5 &&& (7 : Int32))), .unset, .unset, .unset, .unset, .unset, .unset] [])) _
    refine XS.iload X15.here hx rfl (hb hby at_56) rfl ?_
    show Steps p.tables e below (T15.setTop (mkF m 58 #[.val (.int p1), .val (.int p2), .val (.int p3), .val (.int p4), .val (.int p5), .val (.int p6), .val (.int (rF p1 p3)), .val (.int (rF p2 p4)), .val (.ref b12), .val (.int (p5 &&& (7 : Int32))), .unset, .unset, .unset, .unset, .unset, .unset] [(.int (p5 &&& (7 : Int32)))])) _
    refine XS.iconst X15.here hx rfl (hb hby at_58) ?_
    exact k)
  by_cases hc59_18 : (p5 &&& (7 : Int32)) = (5 : Int32)
  · have pre19 : ∀ t, Steps p.tables e below (T15.setTop (mkF m 66 #[.val (.int p1), .val (.int p2), .val (.int p3), .val (.int p4), .val (.int p5), .val (.int p6), .val (.int (rF p1 p3)), .val (.int (rF p2 p4)), .val (.ref b12), .val (.int (p5 &&& (7 : Int32))), .unset, .unset, .unset, .unset, .unset, .unset] [(.ref b12), (.ref b12)])) t → Steps p.tables e below (s₁.setTop (entryFrame m #[(.int p1), (.int p2), (.int p3), (.int p4), (.int p5), (.int p6)] maxLocals)) t := fun t k => pre17 t (by
      show Steps p.tables e below (T15.setTop (mkF m 59 #[.val (.int p1), .val (.int p2), .val (.int p3), .val (.int p4), .val (.int p5), .val (.int p6), .val (.int (rF p1 p3)), .val (.int (rF p2 p4)), .val (.ref b12), .val (.int (p5 &&& (7 : Int32))), .unset, .unset, .unset, .unset, .unset, .unset] [(.int (5 : Int32)), (.int (p5 &&& (7 : Int32)))])) _
      refine XS.icmpNo X15.here hx rfl (hb hby at_59) rfl (teq hc59_18).2 ?_
      show Steps p.tables e below (T15.setTop (mkF m 62 #[.val (.int p1), .val (.int p2), .val (.int p3), .val (.int p4), .val (.int p5), .val (.int p6), .val (.int (rF p1 p3)), .val (.int (rF p2 p4)), .val (.ref b12), .val (.int (p5 &&& (7 : Int32))), .unset, .unset, .unset, .unset, .unset, .unset] [])) _
      refine XS.aload X15.here hx rfl (hb hby at_62) rfl rfl ?_
      show Steps p.tables e below (T15.setTop (mkF m 64 #[.val (.int p1), .val (.int p2), .val (.int p3), .val (.int p4), .val (.int p5), .val (.int p6), .val (.int (rF p1 p3)), .val (.int (rF p2 p4)), .val (.ref b12), .val (.int (p5 &&& (7 : Int32))), .unset, .unset, .unset, .unset, .unset, .unset] [(.ref b12)])) _
      refine XS.aload X15.here hx rfl (hb hby at_64) rfl rfl ?_
      exact k)
    obtain ⟨cq20, kq20, q20a, q20b, q20c⟩ := isOf hZ rfl r15_0
    obtain ⟨_, _, ⟨T20, L20, k20, n20⟩, -, X20, ⟨Lc20, hQ20, l20, y20, z20⟩, st20⟩ := X15.virtualBack hx (y := (⟨"com/example/blynds/blynds/engine/Rect", "equals", "(Ljava/lang/Object;)Z"⟩ : MethodName)) (z := (⟨"com/example/blynds/blynds/engine/Rect", "equals", "(Ljava/lang/Object;)Z"⟩ : MethodName)) hown (mvT hZ (hw _ (List.mem_of_getElem? (i := 24) rfl))) (mvT hZ (hw _ (List.mem_of_getElem? (i := 25) rfl))) (notFace_of_selects (args := #[]) (mvT hZ (hw _ (List.mem_of_getElem? (i := 27) rfl)))) (mvT hZ (hw _ (List.mem_of_getElem? (i := 27) rfl))) (mvT hZ (hw _ (List.mem_of_getElem? (i := 26) rfl))) (by decide) (backOf (W := 0) (rm_eqself l Z a0 hw [] b12 b12 T15.heap n0 Z15 O15 rfl) hZ (hw _ (List.mem_of_getElem? (i := 28) rfl)) (hw _ (List.mem_of_getElem? (i := 8) rfl)) (by decide) (by decide)) q20a q20c (g := (mkF m 66 #[.val (.int p1), .val (.int p2), .val (.int p3), .val (.int p4), .val (.int p5), .val (.int p6), .val (.int (rF p1 p3)), .val (.int (rF p2 p4)), .val (.ref b12), .val (.int (p5 &&& (7 : Int32))), .unset, .unset, .unset, .unset, .unset, .unset] [(.ref b12), (.ref b12)])) rfl (by rw [hml]; rfl) (Steps.refl _) (argsL := [(.ref b12)]) (rest := []) (lenOf pd_4 rfl) rfl (by show 2 * 0 + _ ≤ _; exact Nat.le_of_eq rfl) (hb hby at_66) (fun _ _ => ⟨rfl, rfl, (by decide : 1 + 0 ≤ _), (by decide : 4 + 0 ≤ _)⟩)
    dsimp only [Pt.U, Pt.locs, Pt.cells, Pt.slots] at X20 l20 y20 z20 st20 hQ20
    subst l20 y20 z20
    obtain ⟨rfl, N20q, e20⟩ := hQ20
    have N20 := Fr.app N15 N20q
    have pre21 : ∀ t, Steps p.tables e below (T20.setTop (mkF m 69 #[.val (.int p1), .val (.int p2), .val (.int p3), .val (.int p4), .val (.int p5), .val (.int p6), .val (.int (rF p1 p3)), .val (.int (rF p2 p4)), .val (.ref b12), .val (.int (p5 &&& (7 : Int32))), .unset, .unset, .unset, .unset, .unset, .unset] [(.int (1 : Int32))])) t → Steps p.tables e below (s₁.setTop (entryFrame m #[(.int p1), (.int p2), (.int p3), (.int p4), (.int p5), (.int p6)] maxLocals)) t := fun t k => pre19 t (st20.trans k)
    obtain ⟨fs, hr, hrun, hended, hW, hsame⟩ := X20.leave (v := some (.int (1 : Int32))) (fun h => by rw [Bd.returns] at h; cases h)
    refine ⟨_, _, pre21 _ ?_, hrun, hended, _, _, rfl, ?_, ⟨_, rfl⟩, hW, hsame.mono (by decide) (by decide)⟩
    · exact retN X20 hx (t := .boolean) Bd.returns (by simp) (hb hby at_69) hr
    · show Q_rm_law Z p1 p2 p3 p4 p5 p6 cA cl h0 n0 _ T20.heap _
      rw [e20]
      exact ⟨rfl, N20⟩
  · have pre22 : ∀ t, Steps p.tables e below (T15.setTop (mkF m 74 #[.val (.int p1), .val (.int p2), .val (.int p3), .val (.int p4), .val (.int p5), .val (.int p6), .val (.int (rF p1 p3)), .val (.int (rF p2 p4)), .val (.ref b12), .val (.int (p5 &&& (7 : Int32))), .unset, .unset, .unset, .unset, .unset, .unset] [(.int (6 : Int32)), (.int (p5 &&& (7 : Int32)))])) t → Steps p.tables e below (s₁.setTop (entryFrame m #[(.int p1), (.int p2), (.int p3), (.int p4), (.int p5), (.int p6)] maxLocals)) t := fun t k => pre17 t (by
      show Steps p.tables e below (T15.setTop (mkF m 59 #[.val (.int p1), .val (.int p2), .val (.int p3), .val (.int p4), .val (.int p5), .val (.int p6), .val (.int (rF p1 p3)), .val (.int (rF p2 p4)), .val (.ref b12), .val (.int (p5 &&& (7 : Int32))), .unset, .unset, .unset, .unset, .unset, .unset] [(.int (5 : Int32)), (.int (p5 &&& (7 : Int32)))])) _
      refine XS.icmpYes X15.here hx rfl (pc0 := 59) (pc' := 70) rfl (hb hby at_59) rfl (feq hc59_18).2 (by decide) (by decide) ?_
      show Steps p.tables e below (T15.setTop (mkF m 70 #[.val (.int p1), .val (.int p2), .val (.int p3), .val (.int p4), .val (.int p5), .val (.int p6), .val (.int (rF p1 p3)), .val (.int (rF p2 p4)), .val (.ref b12), .val (.int (p5 &&& (7 : Int32))), .unset, .unset, .unset, .unset, .unset, .unset] [])) _
      refine XS.iload X15.here hx rfl (hb hby at_70) rfl ?_
      show Steps p.tables e below (T15.setTop (mkF m 72 #[.val (.int p1), .val (.int p2), .val (.int p3), .val (.int p4), .val (.int p5), .val (.int p6), .val (.int (rF p1 p3)), .val (.int (rF p2 p4)), .val (.ref b12), .val (.int (p5 &&& (7 : Int32))), .unset, .unset, .unset, .unset, .unset, .unset] [(.int (p5 &&& (7 : Int32)))])) _
      refine XS.bipush X15.here hx rfl (hb hby at_72) ?_
      exact k)
    by_cases hc74_23 : (p5 &&& (7 : Int32)) = (6 : Int32)
    · have pre24 : ∀ t, Steps p.tables e below (T15.setTop (mkF m 81 #[.val (.int p1), .val (.int p2), .val (.int p3), .val (.int p4), .val (.int p5), .val (.int p6), .val (.int (rF p1 p3)), .val (.int (rF p2 p4)), .val (.ref b12), .val (.int (p5 &&& (7 : Int32))), .unset, .unset, .unset, .unset, .unset, .unset] [(.int p6), (.ref b12)])) t → Steps p.tables e below (s₁.setTop (entryFrame m #[(.int p1), (.int p2), (.int p3), (.int p4), (.int p5), (.int p6)] maxLocals)) t := fun t k => pre22 t (by
        show Steps p.tables e below (T15.setTop (mkF m 74 #[.val (.int p1), .val (.int p2), .val (.int p3), .val (.int p4), .val (.int p5), .val (.int p6), .val (.int (rF p1 p3)), .val (.int (rF p2 p4)), .val (.ref b12), .val (.int (p5 &&& (7 : Int32))), .unset, .unset, .unset, .unset, .unset, .unset] [(.int (6 : Int32)), (.int (p5 &&& (7 : Int32)))])) _
        refine XS.icmpNo X15.here hx rfl (hb hby at_74) rfl (teq hc74_23).2 ?_
        show Steps p.tables e below (T15.setTop (mkF m 77 #[.val (.int p1), .val (.int p2), .val (.int p3), .val (.int p4), .val (.int p5), .val (.int p6), .val (.int (rF p1 p3)), .val (.int (rF p2 p4)), .val (.ref b12), .val (.int (p5 &&& (7 : Int32))), .unset, .unset, .unset, .unset, .unset, .unset] [])) _
        refine XS.aload X15.here hx rfl (hb hby at_77) rfl rfl ?_
        show Steps p.tables e below (T15.setTop (mkF m 79 #[.val (.int p1), .val (.int p2), .val (.int p3), .val (.int p4), .val (.int p5), .val (.int p6), .val (.int (rF p1 p3)), .val (.int (rF p2 p4)), .val (.ref b12), .val (.int (p5 &&& (7 : Int32))), .unset, .unset, .unset, .unset, .unset, .unset] [(.ref b12)])) _
        refine XS.iload X15.here hx rfl (hb hby at_79) rfl ?_
        exact k)
      obtain ⟨_, _, ⟨T25, L25, k25, n25⟩, -, X25, ⟨Lc25, hQ25, l25, y25, z25⟩, st25⟩ := Jvm.LawKit.callS X15 hx (y := (⟨"java/lang/Integer", "valueOf", "(I)Ljava/lang/Integer;"⟩ : MethodName)) hown (mvT hZ (hw _ (List.mem_of_getElem? (i := 34) rfl))) (mvT hZ (hw _ (List.mem_of_getElem? (i := 35) rfl))) (mvT hZ (hw _ (List.mem_of_getElem? (i := 36) rfl))) (mvT hZ (hw _ (List.mem_of_getElem? (i := 37) rfl))) (by decide) (backOf (W := 1) (rm_vo l Z a0 hw [] p6 cA cl T15.heap n0 Z15 O15 C0') hZ (hw _ (List.mem_of_getElem? (i := 37) rfl)) (hw _ (List.mem_of_getElem? (i := 36) rfl)) (by decide) (by decide)) (g := (mkF m 81 #[.val (.int p1), .val (.int p2), .val (.int p3), .val (.int p4), .val (.int p5), .val (.int p6), .val (.int (rF p1 p3)), .val (.int (rF p2 p4)), .val (.ref b12), .val (.int (p5 &&& (7 : Int32))), .unset, .unset, .unset, .unset, .unset, .unset] [(.int p6), (.ref b12)])) rfl (by rw [hml]; rfl) (argsL := [(.int p6)]) (rest := [(.ref b12)]) (lenOf pd_5 rfl) rfl (by show 2 * 0 + _ ≤ _; exact Nat.le_of_eq rfl) (hb hby at_81) (fun _ _ => ⟨rfl, rfl, (by decide : 1 + 1 ≤ _), (by decide : 4 + 1 ≤ _)⟩)
      dsimp only [Pt.U, Pt.locs, Pt.cells, Pt.slots] at X25 l25 y25 z25 st25 hQ25
      subst l25 y25 z25
      obtain ⟨⟨r25, rfl, Er25⟩, N25q, Kq25⟩ := hQ25
      have f26 := (r15_0.keep Kq25)
      have f27 := (r15_1.keep Kq25 nin0)
      have f28 := (r15_2.keep Kq25 nin0)
      have f29 := (r15_3.keep Kq25 nin0)
      have f30 := (r15_4.keep Kq25 nin0)
      have O25 : Ext Z.heap T25.heap := own_ext_keep O15 Kq25 all0
      have K25 := K15.trans Kq25 all0
      have Z25 : n0 ≤ T25.heap.size := Nat.le_trans Z15 Kq25.1
      have N25 := Fr.app N15 N25q
      have pre31 : ∀ t, Steps p.tables e below (T25.setTop (mkF m 84 #[.val (.int p1), .val (.int p2), .val (.int p3), .val (.int p4), .val (.int p5), .val (.int p6), .val (.int (rF p1 p3)), .val (.int (rF p2 p4)), .val (.ref b12), .val (.int (p5 &&& (7 : Int32))), .unset, .unset, .unset, .unset, .unset, .unset] [(.ref r25), (.ref b12)])) t → Steps p.tables e below (s₁.setTop (entryFrame m #[(.int p1), (.int p2), (.int p3), (.int p4), (.int p5), (.int p6)] maxLocals)) t := fun t k => pre24 t (st25 t k)
      obtain ⟨cq32, kq32, q32a, q32b, q32c⟩ := isOf hZ rfl f26
      obtain ⟨_, _, ⟨T32, L32, k32, n32⟩, -, X32, ⟨Lc32, hQ32, l32, y32, z32⟩, st32⟩ := X25.virtualBack hx (y := (⟨"com/example/blynds/blynds/engine/Rect", "equals", "(Ljava/lang/Object;)Z"⟩ : MethodName)) (z := (⟨"com/example/blynds/blynds/engine/Rect", "equals", "(Ljava/lang/Object;)Z"⟩ : MethodName)) hown (mvT hZ (hw _ (List.mem_of_getElem? (i := 24) rfl))) (mvT hZ (hw _ (List.mem_of_getElem? (i := 25) rfl))) (notFace_of_selects (args := #[]) (mvT hZ (hw _ (List.mem_of_getElem? (i := 27) rfl)))) (mvT hZ (hw _ (List.mem_of_getElem? (i := 27) rfl))) (mvT hZ (hw _ (List.mem_of_getElem? (i := 26) rfl))) (by decide) (backOf (W := 0) (rm_eqint l Z a0 hw [] b12 r25 T25.heap n0 Z25 O25 f26 Er25) hZ (hw _ (List.mem_of_getElem? (i := 28) rfl)) (hw _ (List.mem_of_getElem? (i := 8) rfl)) (by decide) (by decide)) q32a q32c (g := (mkF m 84 #[.val (.int p1), .val (.int p2), .val (.int p3), .val (.int p4), .val (.int p5), .val (.int p6), .val (.int (rF p1 p3)), .val (.int (rF p2 p4)), .val (.ref b12), .val (.int (p5 &&& (7 : Int32))), .unset, .unset, .unset, .unset, .unset, .unset] [(.ref r25), (.ref b12)])) rfl (by rw [hml]; rfl) (Steps.refl _) (argsL := [(.ref r25)]) (rest := []) (lenOf pd_4 rfl) rfl (by show 2 * 0 + _ ≤ _; exact Nat.le_of_eq rfl) (hb hby at_84) (fun _ _ => ⟨rfl, rfl, (by decide : 2 + 0 ≤ _), (by decide : 5 + 0 ≤ _)⟩)
      dsimp only [Pt.U, Pt.locs, Pt.cells, Pt.slots] at X32 l32 y32 z32 st32 hQ32
      subst l32 y32 z32
      obtain ⟨rfl, N32q, e32⟩ := hQ32
      have N32 := Fr.app N25 N32q
      have pre33 : ∀ t, Steps p.tables e below (T32.setTop (mkF m 87 #[.val (.int p1), .val (.int p2), .val (.int p3), .val (.int p4), .val (.int p5), .val (.int p6), .val (.int (rF p1 p3)), .val (.int (rF p2 p4)), .val (.ref b12), .val (.int (p5 &&& (7 : Int32))), .unset, .unset, .unset, .unset, .unset, .unset] [(.int (0 : Int32))])) t → Steps p.tables e below (s₁.setTop (entryFrame m #[(.int p1), (.int p2), (.int p3), (.int p4), (.int p5), (.int p6)] maxLocals)) t := fun t k => pre31 t (st32.trans k)
      have pre34 : ∀ t, Steps p.tables e below (T32.setTop (mkF m 95 #[.val (.int p1), .val (.int p2), .val (.int p3), .val (.int p4), .val (.int p5), .val (.int p6), .val (.int (rF p1 p3)), .val (.int (rF p2 p4)), .val (.ref b12), .val (.int (p5 &&& (7 : Int32))), .unset, .unset, .unset, .unset, .unset, .unset] [(.int (1 : Int32))])) t → Steps p.tables e below (s₁.setTop (entryFrame m #[(.int p1), (.int p2), (.int p3), (.int p4), (.int p5), (.int p6)] maxLocals)) t := fun t k => pre33 t (by
        show Steps p.tables e below (T32.setTop (mkF m 87 #[.val (.int p1), .val (.int p2), .val (.int p3), .val (.int p4), .val (.int p5), .val (.int p6), .val (.int (rF p1 p3)), .val (.int (rF p2 p4)), .val (.ref b12), .val (.int (p5 &&& (7 : Int32))), .unset, .unset, .unset, .unset, .unset, .unset] [(.int (0 : Int32))])) _
        refine XS.ifNo X32.here hx rfl (hb hby at_87) rfl ((if0 _ _).trans (teq (by decide : (0 : Int32) = (0 : Int32))).2) ?_
        show Steps p.tables e below (T32.setTop (mkF m 90 #[.val (.int p1), .val (.int p2), .val (.int p3), .val (.int p4), .val (.int p5), .val (.int p6), .val (.int (rF p1 p3)), .val (.int (rF p2 p4)), .val (.ref b12), .val (.int (p5 &&& (7 : Int32))), .unset, .unset, .unset, .unset, .unset, .unset] [])) _
        refine XS.iconst X32.here hx rfl (hb hby at_90) ?_
        show Steps p.tables e below (T32.setTop (mkF m 91 #[.val (.int p1), .val (.int p2), .val (.int p3), .val (.int p4), .val (.int p5), .val (.int p6), .val (.int (rF p1 p3)), .val (.int (rF p2 p4)), .val (.ref b12), .val (.int (p5 &&& (7 : Int32))), .unset, .unset, .unset, .unset, .unset, .unset] [(.int (1 : Int32))])) _
        refine XS.goto X32.here hx rfl (pc0 := 91) (pc' := 95) rfl (hb hby at_91) (by decide) (by decide) ?_
        exact k)
      obtain ⟨fs, hr, hrun, hended, hW, hsame⟩ := X32.leave (v := some (.int (1 : Int32))) (fun h => by rw [Bd.returns] at h; cases h)
      refine ⟨_, _, pre34 _ ?_, hrun, hended, _, _, rfl, ?_, ⟨_, rfl⟩, hW, hsame.mono (by decide) (by decide)⟩
      · exact retN X32 hx (t := .boolean) Bd.returns (by simp) (hb hby at_95) hr
      · show Q_rm_law Z p1 p2 p3 p4 p5 p6 cA cl h0 n0 _ T32.heap _
        rw [e32]
        exact ⟨rfl, N32⟩
    · have pre35 : ∀ t, Steps p.tables e below (T15.setTop (mkF m 100 #[.val (.int p1), .val (.int p2), .val (.int p3), .val (.int p4), .val (.int p5), .val (.int p6), .val (.int (rF p1 p3)), .val (.int (rF p2 p4)), .val (.ref b12), .val (.int (p5 &&& (7 : Int32))), .unset, .unset, .unset, .unset, .unset, .unset] [(.int (7 : Int32)), (.int (p5 &&& (7 : Int32)))])) t → Steps p.tables e below (s₁.setTop (entryFrame m #[(.int p1), (.int p2), (.int p3), (.int p4), (.int p5), (.int p6)] maxLocals)) t := fun t k => pre22 t (by
        show Steps p.tables e below (T15.setTop (mkF m 74 #[.val (.int p1), .val (.int p2), .val (.int p3), .val (.int p4), .val (.int p5), .val (.int p6), .val (.int (rF p1 p3)), .val (.int (rF p2 p4)), .val (.ref b12), .val (.int (p5 &&& (7 : Int32))), .unset, .unset, .unset, .unset, .unset, .unset] [(.int (6 : Int32)), (.int (p5 &&& (7 : Int32)))])) _
        refine XS.icmpYes X15.here hx rfl (pc0 := 74) (pc' := 96) rfl (hb hby at_74) rfl (feq hc74_23).2 (by decide) (by decide) ?_
        show Steps p.tables e below (T15.setTop (mkF m 96 #[.val (.int p1), .val (.int p2), .val (.int p3), .val (.int p4), .val (.int p5), .val (.int p6), .val (.int (rF p1 p3)), .val (.int (rF p2 p4)), .val (.ref b12), .val (.int (p5 &&& (7 : Int32))), .unset, .unset, .unset, .unset, .unset, .unset] [])) _
        refine XS.iload X15.here hx rfl (hb hby at_96) rfl ?_
        show Steps p.tables e below (T15.setTop (mkF m 98 #[.val (.int p1), .val (.int p2), .val (.int p3), .val (.int p4), .val (.int p5), .val (.int p6), .val (.int (rF p1 p3)), .val (.int (rF p2 p4)), .val (.ref b12), .val (.int (p5 &&& (7 : Int32))), .unset, .unset, .unset, .unset, .unset, .unset] [(.int (p5 &&& (7 : Int32)))])) _
        refine XS.bipush X15.here hx rfl (hb hby at_98) ?_
        exact k)
      by_cases hc100_36 : (p5 &&& (7 : Int32)) = (7 : Int32)
      · have pre37 : ∀ t, Steps p.tables e below (T15.setTop (mkF m 106 #[.val (.int p1), .val (.int p2), .val (.int p3), .val (.int p4), .val (.int p5), .val (.int p6), .val (.int (rF p1 p3)), .val (.int (rF p2 p4)), .val (.ref b12), .val (.int (p5 &&& (7 : Int32))), .unset, .unset, .unset, .unset, .unset, .unset] [.null, (.ref b12)])) t → Steps p.tables e below (s₁.setTop (entryFrame m #[(.int p1), (.int p2), (.int p3), (.int p4), (.int p5), (.int p6)] maxLocals)) t := fun t k => pre35 t (by
          show Steps p.tables e below (T15.setTop (mkF m 100 #[.val (.int p1), .val (.int p2), .val (.int p3), .val (.int p4), .val (.int p5), .val (.int p6), .val (.int (rF p1 p3)), .val (.int (rF p2 p4)), .val (.ref b12), .val (.int (p5 &&& (7 : Int32))), .unset, .unset, .unset, .unset, .unset, .unset] [(.int (7 : Int32)), (.int (p5 &&& (7 : Int32)))])) _
          refine XS.icmpNo X15.here hx rfl (hb hby at_100) rfl (teq hc100_36).2 ?_
          show Steps p.tables e below (T15.setTop (mkF m 103 #[.val (.int p1), .val (.int p2), .val (.int p3), .val (.int p4), .val (.int p5), .val (.int p6), .val (.int (rF p1 p3)), .val (.int (rF p2 p4)), .val (.ref b12), .val (.int (p5 &&& (7 : Int32))), .unset, .unset, .unset, .unset, .unset, .unset] [])) _
          refine XS.aload X15.here hx rfl (hb hby at_103) rfl rfl ?_
          show Steps p.tables e below (T15.setTop (mkF m 105 #[.val (.int p1), .val (.int p2), .val (.int p3), .val (.int p4), .val (.int p5), .val (.int p6), .val (.int (rF p1 p3)), .val (.int (rF p2 p4)), .val (.ref b12), .val (.int (p5 &&& (7 : Int32))), .unset, .unset, .unset, .unset, .unset, .unset] [(.ref b12)])) _
          refine XS.aconstNull X15.here hx rfl (hb hby at_105) ?_
          exact k)
        obtain ⟨cq38, kq38, q38a, q38b, q38c⟩ := isOf hZ rfl r15_0
        obtain ⟨_, _, ⟨T38, L38, k38, n38⟩, -, X38, ⟨Lc38, hQ38, l38, y38, z38⟩, st38⟩ := X15.virtualBack hx (y := (⟨"com/example/blynds/blynds/engine/Rect", "equals", "(Ljava/lang/Object;)Z"⟩ : MethodName)) (z := (⟨"com/example/blynds/blynds/engine/Rect", "equals", "(Ljava/lang/Object;)Z"⟩ : MethodName)) hown (mvT hZ (hw _ (List.mem_of_getElem? (i := 24) rfl))) (mvT hZ (hw _ (List.mem_of_getElem? (i := 25) rfl))) (notFace_of_selects (args := #[]) (mvT hZ (hw _ (List.mem_of_getElem? (i := 27) rfl)))) (mvT hZ (hw _ (List.mem_of_getElem? (i := 27) rfl))) (mvT hZ (hw _ (List.mem_of_getElem? (i := 26) rfl))) (by decide) (backOf (W := 0) (rm_eqnull l Z a0 hw [] b12 T15.heap n0 Z15 O15) hZ (hw _ (List.mem_of_getElem? (i := 28) rfl)) (hw _ (List.mem_of_getElem? (i := 8) rfl)) (by decide) (by decide)) q38a q38c (g := (mkF m 106 #[.val (.int p1), .val (.int p2), .val (.int p3), .val (.int p4), .val (.int p5), .val (.int p6), .val (.int (rF p1 p3)), .val (.int (rF p2 p4)), .val (.ref b12), .val (.int (p5 &&& (7 : Int32))), .unset, .unset, .unset, .unset, .unset, .unset] [.null, (.ref b12)])) rfl (by rw [hml]; rfl) (Steps.refl _) (argsL := [.null]) (rest := []) (lenOf pd_4 rfl) rfl (by show 2 * 0 + _ ≤ _; exact Nat.le_of_eq rfl) (hb hby at_106) (fun _ _ => ⟨rfl, rfl, (by decide : 1 + 0 ≤ _), (by decide : 4 + 0 ≤ _)⟩)
        dsimp only [Pt.U, Pt.locs, Pt.cells, Pt.slots] at X38 l38 y38 z38 st38 hQ38
        subst l38 y38 z38
        obtain ⟨rfl, N38q, e38⟩ := hQ38
        have N38 := Fr.app N15 N38q
        have pre39 : ∀ t, Steps p.tables e below (T38.setTop (mkF m 109 #[.val (.int p1), .val (.int p2), .val (.int p3), .val (.int p4), .val (.int p5), .val (.int p6), .val (.int (rF p1 p3)), .val (.int (rF p2 p4)), .val (.ref b12), .val (.int (p5 &&& (7 : Int32))), .unset, .unset, .unset, .unset, .unset, .unset] [(.int (0 : Int32))])) t → Steps p.tables e below (s₁.setTop (entryFrame m #[(.int p1), (.int p2), (.int p3), (.int p4), (.int p5), (.int p6)] maxLocals)) t := fun t k => pre37 t (st38.trans k)
        have pre40 : ∀ t, Steps p.tables e below (T38.setTop (mkF m 117 #[.val (.int p1), .val (.int p2), .val (.int p3), .val (.int p4), .val (.int p5), .val (.int p6), .val (.int (rF p1 p3)), .val (.int (rF p2 p4)), .val (.ref b12), .val (.int (p5 &&& (7 : Int32))), .unset, .unset, .unset, .unset, .unset, .unset] [(.int (1 : Int32))])) t → Steps p.tables e below (s₁.setTop (entryFrame m #[(.int p1), (.int p2), (.int p3), (.int p4), (.int p5), (.int p6)] maxLocals)) t := fun t k => pre39 t (by
          show Steps p.tables e below (T38.setTop (mkF m 109 #[.val (.int p1), .val (.int p2), .val (.int p3), .val (.int p4), .val (.int p5), .val (.int p6), .val (.int (rF p1 p3)), .val (.int (rF p2 p4)), .val (.ref b12), .val (.int (p5 &&& (7 : Int32))), .unset, .unset, .unset, .unset, .unset, .unset] [(.int (0 : Int32))])) _
          refine XS.ifNo X38.here hx rfl (hb hby at_109) rfl ((if0 _ _).trans (teq (by decide : (0 : Int32) = (0 : Int32))).2) ?_
          show Steps p.tables e below (T38.setTop (mkF m 112 #[.val (.int p1), .val (.int p2), .val (.int p3), .val (.int p4), .val (.int p5), .val (.int p6), .val (.int (rF p1 p3)), .val (.int (rF p2 p4)), .val (.ref b12), .val (.int (p5 &&& (7 : Int32))), .unset, .unset, .unset, .unset, .unset, .unset] [])) _
          refine XS.iconst X38.here hx rfl (hb hby at_112) ?_
          show Steps p.tables e below (T38.setTop (mkF m 113 #[.val (.int p1), .val (.int p2), .val (.int p3), .val (.int p4), .val (.int p5), .val (.int p6), .val (.int (rF p1 p3)), .val (.int (rF p2 p4)), .val (.ref b12), .val (.int (p5 &&& (7 : Int32))), .unset, .unset, .unset, .unset, .unset, .unset] [(.int (1 : Int32))])) _
          refine XS.goto X38.here hx rfl (pc0 := 113) (pc' := 117) rfl (hb hby at_113) (by decide) (by decide) ?_
          exact k)
        obtain ⟨fs, hr, hrun, hended, hW, hsame⟩ := X38.leave (v := some (.int (1 : Int32))) (fun h => by rw [Bd.returns] at h; cases h)
        refine ⟨_, _, pre40 _ ?_, hrun, hended, _, _, rfl, ?_, ⟨_, rfl⟩, hW, hsame.mono (by decide) (by decide)⟩
        · exact retN X38 hx (t := .boolean) Bd.returns (by simp) (hb hby at_117) hr
        · show Q_rm_law Z p1 p2 p3 p4 p5 p6 cA cl h0 n0 _ T38.heap _
          rw [e38]
          exact ⟨rfl, N38⟩
      · have pre41 : ∀ t, Steps p.tables e below (T15.setTop (mkF m 135 #[.val (.int p1), .val (.int p2), .val (.int p3), .val (.int p4), .val (.int p5), .val (.int p6), .val (.int (rF p1 p3)), .val (.int (rF p2 p4)), .val (.ref b12), .val (.int (p5 &&& (7 : Int32))), .val (.int p1), .val (.int p2), .val (.int (rF p1 p3)), .val (.int (rF p2 p4)), .unset, .unset] [(.int (1 : Int32)), (.int (p5 &&& (7 : Int32)))])) t → Steps p.tables e below (s₁.setTop (entryFrame m #[(.int p1), (.int p2), (.int p3), (.int p4), (.int p5), (.int p6)] maxLocals)) t := fun t k => pre35 t (by
          show Steps p.tables e below (T15.setTop (mkF m 100 #[.val (.int p1), .val (.int p2), .val (.int p3), .val (.int p4), .val (.int p5), .val (.int p6), .val (.int (rF p1 p3)), .val (.int (rF p2 p4)), .val (.ref b12), .val (.int (p5 &&& (7 : Int32))), .unset, .unset, .unset, .unset, .unset, .unset] [(.int (7 : Int32)), (.int (p5 &&& (7 : Int32)))])) _
          refine XS.icmpYes X15.here hx rfl (pc0 := 100) (pc' := 118) rfl (hb hby at_100) rfl (feq hc100_36).2 (by decide) (by decide) ?_
          show Steps p.tables e below (T15.setTop (mkF m 118 #[.val (.int p1), .val (.int p2), .val (.int p3), .val (.int p4), .val (.int p5), .val (.int p6), .val (.int (rF p1 p3)), .val (.int (rF p2 p4)), .val (.ref b12), .val (.int (p5 &&& (7 : Int32))), .unset, .unset, .unset, .unset, .unset, .unset] [])) _
          refine XS.iloadN X15.here hx rfl (hb hby at_118) rfl ?_
          show Steps p.tables e below (T15.setTop (mkF m 119 #[.val (.int p1), .val (.int p2), .val (.int p3), .val (.int p4), .val (.int p5), .val (.int p6), .val (.int (rF p1 p3)), .val (.int (rF p2 p4)), .val (.ref b12), .val (.int (p5 &&& (7 : Int32))), .unset, .unset, .unset, .unset, .unset, .unset] [(.int p1)])) _
          refine XS.istore X15.here hx rfl (hb hby at_119) rfl (l' := #[.val (.int p1), .val (.int p2), .val (.int p3), .val (.int p4), .val (.int p5), .val (.int p6), .val (.int (rF p1 p3)), .val (.int (rF p2 p4)), .val (.ref b12), .val (.int (p5 &&& (7 : Int32))), .val (.int p1), .unset, .unset, .unset, .unset, .unset]) rfl ?_
          show Steps p.tables e below (T15.setTop (mkF m 121 #[.val (.int p1), .val (.int p2), .val (.int p3), .val (.int p4), .val (.int p5), .val (.int p6), .val (.int (rF p1 p3)), .val (.int (rF p2 p4)), .val (.ref b12), .val (.int (p5 &&& (7 : Int32))), .val (.int p1), .unset, .unset, .unset, .unset, .unset] [])) _
          refine XS.iloadN X15.here hx rfl (hb hby at_121) rfl ?_
          show Steps p.tables e below (T15.setTop (mkF m 122 #[.val (.int p1), .val (.int p2), .val (.int p3), .val (.int p4), .val (.int p5), .val (.int p6), .val (.int (rF p1 p3)), .val (.int (rF p2 p4)), .val (.ref b12), .val (.int (p5 &&& (7 : Int32))), .val (.int p1), .unset, .unset, .unset, .unset, .unset] [(.int p2)])) _
          refine XS.istore X15.here hx rfl (hb hby at_122) rfl (l' := #[.val (.int p1), .val (.int p2), .val (.int p3), .val (.int p4), .val (.int p5), .val (.int p6), .val (.int (rF p1 p3)), .val (.int (rF p2 p4)), .val (.ref b12), .val (.int (p5 &&& (7 : Int32))), .val (.int p1), .val (.int p2), .unset, .unset, .unset, .unset]) rfl ?_
          show Steps p.tables e below (T15.setTop (mkF m 124 #[.val (.int p1), .val (.int p2), .val (.int p3), .val (.int p4), .val (.int p5), .val (.int p6), .val (.int (rF p1 p3)), .val (.int (rF p2 p4)), .val (.ref b12), .val (.int (p5 &&& (7 : Int32))), .val (.int p1), .val (.int p2), .unset, .unset, .unset, .unset] [])) _
          refine XS.iload X15.here hx rfl (hb hby at_124) rfl ?_
          show Steps p.tables e below (T15.setTop (mkF m 126 #[.val (.int p1), .val (.int p2), .val (.int p3), .val (.int p4), .val (.int p5), .val (.int p6), .val (.int (rF p1 p3)), .val (.int (rF p2 p4)), .val (.ref b12), .val (.int (p5 &&& (7 : Int32))), .val (.int p1), .val (.int p2), .unset, .unset, .unset, .unset] [(.int (rF p1 p3))])) _
          refine XS.istore X15.here hx rfl (hb hby at_126) rfl (l' := #[.val (.int p1), .val (.int p2), .val (.int p3), .val (.int p4), .val (.int p5), .val (.int p6), .val (.int (rF p1 p3)), .val (.int (rF p2 p4)), .val (.ref b12), .val (.int (p5 &&& (7 : Int32))), .val (.int p1), .val (.int p2), .val (.int (rF p1 p3)), .unset, .unset, .unset]) rfl ?_
          show Steps p.tables e below (T15.setTop (mkF m 128 #[.val (.int p1), .val (.int p2), .val (.int p3), .val (.int p4), .val (.int p5), .val (.int p6), .val (.int (rF p1 p3)), .val (.int (rF p2 p4)), .val (.ref b12), .val (.int (p5 &&& (7 : Int32))), .val (.int p1), .val (.int p2), .val (.int (rF p1 p3)), .unset, .unset, .unset] [])) _
          refine XS.iload X15.here hx rfl (hb hby at_128) rfl ?_
          show Steps p.tables e below (T15.setTop (mkF m 130 #[.val (.int p1), .val (.int p2), .val (.int p3), .val (.int p4), .val (.int p5), .val (.int p6), .val (.int (rF p1 p3)), .val (.int (rF p2 p4)), .val (.ref b12), .val (.int (p5 &&& (7 : Int32))), .val (.int p1), .val (.int p2), .val (.int (rF p1 p3)), .unset, .unset, .unset] [(.int (rF p2 p4))])) _
          refine XS.istore X15.here hx rfl (hb hby at_130) rfl (l' := #[.val (.int p1), .val (.int p2), .val (.int p3), .val (.int p4), .val (.int p5), .val (.int p6), .val (.int (rF p1 p3)), .val (.int (rF p2 p4)), .val (.ref b12), .val (.int (p5 &&& (7 : Int32))), .val (.int p1), .val (.int p2), .val (.int (rF p1 p3)), .val (.int (rF p2 p4)), .unset, .unset]) rfl ?_
          show Steps p.tables e below (T15.setTop (mkF m 132 #[.val (.int p1), .val (.int p2), .val (.int p3), .val (.int p4), .val (.int p5), .val (.int p6), .val (.int (rF p1 p3)), .val (.int (rF p2 p4)), .val (.ref b12), .val (.int (p5 &&& (7 : Int32))), .val (.int p1), .val (.int p2), .val (.int (rF p1 p3)), .val (.int (rF p2 p4)), .unset, .unset] [])) _
          refine XS.iload X15.here hx rfl (hb hby at_132) rfl ?_
          show Steps p.tables e below (T15.setTop (mkF m 134 #[.val (.int p1), .val (.int p2), .val (.int p3), .val (.int p4), .val (.int p5), .val (.int p6), .val (.int (rF p1 p3)), .val (.int (rF p2 p4)), .val (.ref b12), .val (.int (p5 &&& (7 : Int32))), .val (.int p1), .val (.int p2), .val (.int (rF p1 p3)), .val (.int (rF p2 p4)), .unset, .unset] [(.int (p5 &&& (7 : Int32)))])) _
          refine XS.iconst X15.here hx rfl (hb hby at_134) ?_
          exact k)
        by_cases hc135_42 : (p5 &&& (7 : Int32)) = (1 : Int32)
        · have pre43 : ∀ t, Steps p.tables e below (T15.setTop (mkF m 151 #[.val (.int p1), .val (.int p2), .val (.int p3), .val (.int p4), .val (.int p5), .val (.int p6), .val (.int (rF p1 p3)), .val (.int (rF p2 p4)), .val (.ref b12), .val (.int (p5 &&& (7 : Int32))), .val (.int p1), .val (.int p2), .val (.int (rF p1 p3)), .val (.int (rF p2 p4)), .unset, .unset] [(.long ((rF p1 p3).toInt64)), (.long (p6.toInt64)), (.long (((rF p1 p3).toInt64) - (2147483647 : Int64)))])) t → Steps p.tables e below (s₁.setTop (entryFrame m #[(.int p1), (.int p2), (.int p3), (.int p4), (.int p5), (.int p6)] maxLocals)) t := fun t k => pre41 t (by
            show Steps p.tables e below (T15.setTop (mkF m 135 #[.val (.int p1), .val (.int p2), .val (.int p3), .val (.int p4), .val (.int p5), .val (.int p6), .val (.int (rF p1 p3)), .val (.int (rF p2 p4)), .val (.ref b12), .val (.int (p5 &&& (7 : Int32))), .val (.int p1), .val (.int p2), .val (.int (rF p1 p3)), .val (.int (rF p2 p4)), .unset, .unset] [(.int (1 : Int32)), (.int (p5 &&& (7 : Int32)))])) _
            refine XS.icmpNo X15.here hx rfl (hb hby at_135) rfl (teq hc135_42).2 ?_
            show Steps p.tables e below (T15.setTop (mkF m 138 #[.val (.int p1), .val (.int p2), .val (.int p3), .val (.int p4), .val (.int p5), .val (.int p6), .val (.int (rF p1 p3)), .val (.int (rF p2 p4)), .val (.ref b12), .val (.int (p5 &&& (7 : Int32))), .val (.int p1), .val (.int p2), .val (.int (rF p1 p3)), .val (.int (rF p2 p4)), .unset, .unset] [])) _
            refine XS.iload X15.here hx rfl (hb hby at_138) rfl ?_
            show Steps p.tables e below (T15.setTop (mkF m 140 #[.val (.int p1), .val (.int p2), .val (.int p3), .val (.int p4), .val (.int p5), .val (.int p6), .val (.int (rF p1 p3)), .val (.int (rF p2 p4)), .val (.ref b12), .val (.int (p5 &&& (7 : Int32))), .val (.int p1), .val (.int p2), .val (.int (rF p1 p3)), .val (.int (rF p2 p4)), .unset, .unset] [(.int (rF p1 p3))])) _
            refine XS.i2l X15.here hx rfl (hb hby at_140) rfl ?_
            show Steps p.tables e below (T15.setTop (mkF m 141 #[.val (.int p1), .val (.int p2), .val (.int p3), .val (.int p4), .val (.int p5), .val (.int p6), .val (.int (rF p1 p3)), .val (.int (rF p2 p4)), .val (.ref b12), .val (.int (p5 &&& (7 : Int32))), .val (.int p1), .val (.int p2), .val (.int (rF p1 p3)), .val (.int (rF p2 p4)), .unset, .unset] [(.long ((rF p1 p3).toInt64))])) _
            refine X15.ldc2Long hx hown (mvT hZ (hw _ (List.mem_of_getElem? (i := 1) rfl))) (g := (mkF m 141 #[.val (.int p1), .val (.int p2), .val (.int p3), .val (.int p4), .val (.int p5), .val (.int p6), .val (.int (rF p1 p3)), .val (.int (rF p2 p4)), .val (.ref b12), .val (.int (p5 &&& (7 : Int32))), .val (.int p1), .val (.int p2), .val (.int (rF p1 p3)), .val (.int (rF p2 p4)), .unset, .unset] [(.long ((rF p1 p3).toInt64))])) rfl (hb hby at_141) _ ?_
            show Steps p.tables e below (T15.setTop (mkF m 144 #[.val (.int p1), .val (.int p2), .val (.int p3), .val (.int p4), .val (.int p5), .val (.int p6), .val (.int (rF p1 p3)), .val (.int (rF p2 p4)), .val (.ref b12), .val (.int (p5 &&& (7 : Int32))), .val (.int p1), .val (.int p2), .val (.int (rF p1 p3)), .val (.int (rF p2 p4)), .unset, .unset] [(.long (2147483647 : Int64)), (.long ((rF p1 p3).toInt64))])) _
            refine XS.lsub X15.here hx rfl (hb hby at_144) rfl ?_
            show Steps p.tables e below (T15.setTop (mkF m 145 #[.val (.int p1), .val (.int p2), .val (.int p3), .val (.int p4), .val (.int p5), .val (.int p6), .val (.int (rF p1 p3)), .val (.int (rF p2 p4)), .val (.ref b12), .val (.int (p5 &&& (7 : Int32))), .val (.int p1), .val (.int p2), .val (.int (rF p1 p3)), .val (.int (rF p2 p4)), .unset, .unset] [(.long (((rF p1 p3).toInt64) - (2147483647 : Int64)))])) _
            refine XS.iload X15.here hx rfl (hb hby at_145) rfl ?_
            show Steps p.tables e below (T15.setTop (mkF m 147 #[.val (.int p1), .val (.int p2), .val (.int p3), .val (.int p4), .val (.int p5), .val (.int p6), .val (.int (rF p1 p3)), .val (.int (rF p2 p4)), .val (.ref b12), .val (.int (p5 &&& (7 : Int32))), .val (.int p1), .val (.int p2), .val (.int (rF p1 p3)), .val (.int (rF p2 p4)), .unset, .unset] [(.int p6), (.long (((rF p1 p3).toInt64) - (2147483647 : Int64)))])) _
            refine XS.i2l X15.here hx rfl (hb hby at_147) rfl ?_
            show Steps p.tables e below (T15.setTop (mkF m 148 #[.val (.int p1), .val (.int p2), .val (.int p3), .val (.int p4), .val (.int p5), .val (.int p6), .val (.int (rF p1 p3)), .val (.int (rF p2 p4)), .val (.ref b12), .val (.int (p5 &&& (7 : Int32))), .val (.int p1), .val (.int p2), .val (.int (rF p1 p3)), .val (.int (rF p2 p4)), .unset, .unset] [(.long (p6.toInt64)), (.long (((rF p1 p3).toInt64) - (2147483647 : Int64)))])) _
            refine XS.iload X15.here hx rfl (hb hby at_148) rfl ?_
            show Steps p.tables e below (T15.setTop (mkF m 150 #[.val (.int p1), .val (.int p2), .val (.int p3), .val (.int p4), .val (.int p5), .val (.int p6), .val (.int (rF p1 p3)), .val (.int (rF p2 p4)), .val (.ref b12), .val (.int (p5 &&& (7 : Int32))), .val (.int p1), .val (.int p2), .val (.int (rF p1 p3)), .val (.int (rF p2 p4)), .unset, .unset] [(.int (rF p1 p3)), (.long (p6.toInt64)), (.long (((rF p1 p3).toInt64) - (2147483647 : Int64)))])) _
            refine XS.i2l X15.here hx rfl (hb hby at_150) rfl ?_
            exact k)
          obtain ⟨_, _, ⟨T44, L44, k44, n44⟩, -, X44, ⟨Lc44, hQ44, l44, y44, z44⟩, st44⟩ := Jvm.LawKit.callS X15 hx (y := (⟨"java/lang/Math", "min", "(JJ)J"⟩ : MethodName)) hown (mvT hZ (hw _ (List.mem_of_getElem? (i := 2) rfl))) (mvT hZ (hw _ (List.mem_of_getElem? (i := 3) rfl))) (mvT hZ (hw _ (List.mem_of_getElem? (i := 4) rfl))) (mvT hZ (hw _ (List.mem_of_getElem? (i := 5) rfl))) (by decide) (backOf (W := 2) (rm_min l Z a0 hw [] (p6.toInt64) ((rF p1 p3).toInt64) T15.heap n0 Z15 O15) hZ (hw _ (List.mem_of_getElem? (i := 5) rfl)) (hw _ (List.mem_of_getElem? (i := 4) rfl)) (by decide) (by decide)) (g := (mkF m 151 #[.val (.int p1), .val (.int p2), .val (.int p3), .val (.int p4), .val (.int p5), .val (.int p6), .val (.int (rF p1 p3)), .val (.int (rF p2 p4)), .val (.ref b12), .val (.int (p5 &&& (7 : Int32))), .val (.int p1), .val (.int p2), .val (.int (rF p1 p3)), .val (.int (rF p2 p4)), .unset, .unset] [(.long ((rF p1 p3).toInt64)), (.long (p6.toInt64)), (.long (((rF p1 p3).toInt64) - (2147483647 : Int64)))])) rfl (by rw [hml]; rfl) (argsL := [(.long (p6.toInt64)), (.long ((rF p1 p3).toInt64))]) (rest := [(.long (((rF p1 p3).toInt64) - (2147483647 : Int64)))]) (lenOf pd_2 rfl) rfl (by show 2 * 0 + _ ≤ _; exact Nat.le_of_eq rfl) (hb hby at_151) (fun _ _ => ⟨rfl, rfl, (by decide : 1 + 0 ≤ _), (by decide : 4 + 0 ≤ _)⟩)
          dsimp only [Pt.U, Pt.locs, Pt.cells, Pt.slots] at X44 l44 y44 z44 st44 hQ44
          subst l44 y44 z44
          obtain ⟨rfl, N44q, e44⟩ := hQ44
          have N44 := Fr.app N15 N44q
          have pre45 : ∀ t, Steps p.tables e below (T44.setTop (mkF m 154 #[.val (.int p1), .val (.int p2), .val (.int p3), .val (.int p4), .val (.int p5), .val (.int p6), .val (.int (rF p1 p3)), .val (.int (rF p2 p4)), .val (.ref b12), .val (.int (p5 &&& (7 : Int32))), .val (.int p1), .val (.int p2), .val (.int (rF p1 p3)), .val (.int (rF p2 p4)), .unset, .unset] [(.long (minJ (p6.toInt64) ((rF p1 p3).toInt64))), (.long (((rF p1 p3).toInt64) - (2147483647 : Int64)))])) t → Steps p.tables e below (s₁.setTop (entryFrame m #[(.int p1), (.int p2), (.int p3), (.int p4), (.int p5), (.int p6)] maxLocals)) t := fun t k => pre43 t (st44 t k)
          obtain ⟨_, _, ⟨T46, L46, k46, n46⟩, -, X46, ⟨Lc46, hQ46, l46, y46, z46⟩, st46⟩ := Jvm.LawKit.callS X44 hx (y := (⟨"java/lang/Math", "max", "(JJ)J"⟩ : MethodName)) hown (mvT hZ (hw _ (List.mem_of_getElem? (i := 31) rfl))) (mvT hZ (hw _ (List.mem_of_getElem? (i := 32) rfl))) (mvT hZ (hw _ (List.mem_of_getElem? (i := 4) rfl))) (mvT hZ (hw _ (List.mem_of_getElem? (i := 33) rfl))) (by decide) (backOf (W := 0) (rm_max l Z a0 hw [] (((rF p1 p3).toInt64) - (2147483647 : Int64)) (minJ (p6.toInt64) ((rF p1 p3).toInt64)) T15.heap n0 Z15 O15) hZ (hw _ (List.mem_of_getElem? (i := 33) rfl)) (hw _ (List.mem_of_getElem? (i := 4) rfl)) (by decide) (by decide)) (g := (mkF m 154 #[.val (.int p1), .val (.int p2), .val (.int p3), .val (.int p4), .val (.int p5), .val (.int p6), .val (.int (rF p1 p3)), .val (.int (rF p2 p4)), .val (.ref b12), .val (.int (p5 &&& (7 : Int32))), .val (.int p1), .val (.int p2), .val (.int (rF p1 p3)), .val (.int (rF p2 p4)), .unset, .unset] [(.long (minJ (p6.toInt64) ((rF p1 p3).toInt64))), (.long (((rF p1 p3).toInt64) - (2147483647 : Int64)))])) rfl (by rw [hml]; rfl) (argsL := [(.long (((rF p1 p3).toInt64) - (2147483647 : Int64))), (.long (minJ (p6.toInt64) ((rF p1 p3).toInt64)))]) (rest := []) (lenOf pd_2 rfl) rfl (by show 2 * 0 + _ ≤ _; exact Nat.le_of_eq rfl) (hb hby at_154) (fun _ _ => ⟨rfl, e44, (by decide : 1 + 0 ≤ _), (by decide : 4 + 0 ≤ _)⟩)
          dsimp only [Pt.U, Pt.locs, Pt.cells, Pt.slots] at X46 l46 y46 z46 st46 hQ46
          subst l46 y46 z46
          obtain ⟨rfl, N46q, e46⟩ := hQ46
          have N46 := Fr.app N44 N46q
          have pre47 : ∀ t, Steps p.tables e below (T46.setTop (mkF m 157 #[.val (.int p1), .val (.int p2), .val (.int p3), .val (.int p4), .val (.int p5), .val (.int p6), .val (.int (rF p1 p3)), .val (.int (rF p2 p4)), .val (.ref b12), .val (.int (p5 &&& (7 : Int32))), .val (.int p1), .val (.int p2), .val (.int (rF p1 p3)), .val (.int (rF p2 p4)), .unset, .unset] [(.long (maxJ (((rF p1 p3).toInt64) - (2147483647 : Int64)) (minJ (p6.toInt64) ((rF p1 p3).toInt64))))])) t → Steps p.tables e below (s₁.setTop (entryFrame m #[(.int p1), (.int p2), (.int p3), (.int p4), (.int p5), (.int p6)] maxLocals)) t := fun t k => pre45 t (st46 t k)
          have pre48 : ∀ t, Steps p.tables e below (T46.setTop (mkF m 158 #[.val (.int p1), .val (.int p2), .val (.int p3), .val (.int p4), .val (.int p5), .val (.int p6), .val (.int (rF p1 p3)), .val (.int (rF p2 p4)), .val (.ref b12), .val (.int (p5 &&& (7 : Int32))), .val (.int p1), .val (.int p2), .val (.int (rF p1 p3)), .val (.int (rF p2 p4)), .unset, .unset] [(.int ((maxJ (((rF p1 p3).toInt64) - (2147483647 : Int64)) (minJ (p6.toInt64) ((rF p1 p3).toInt64))).toInt32))])) t → Steps p.tables e below (s₁.setTop (entryFrame m #[(.int p1), (.int p2), (.int p3), (.int p4), (.int p5), (.int p6)] maxLocals)) t := fun t k => pre47 t (by
            show Steps p.tables e below (T46.setTop (mkF m 157 #[.val (.int p1), .val (.int p2), .val (.int p3), .val (.int p4), .val (.int p5), .val (.int p6), .val (.int (rF p1 p3)), .val (.int (rF p2 p4)), .val (.ref b12), .val (.int (p5 &&& (7 : Int32))), .val (.int p1), .val (.int p2), .val (.int (rF p1 p3)), .val (.int (rF p2 p4)), .unset, .unset] [(.long (maxJ (((rF p1 p3).toInt64) - (2147483647 : Int64)) (minJ (p6.toInt64) ((rF p1 p3).toInt64))))])) _
            refine XS.l2i X46.here hx rfl (hb hby at_157) rfl ?_
            exact k)
          have pre49 : ∀ t, Steps p.tables e below (T46.setTop (mkF m 158 #[.val (.int p1), .val (.int p2), .val (.int p3), .val (.int p4), .val (.int p5), .val (.int p6), .val (.int (rF p1 p3)), .val (.int (rF p2 p4)), .val (.ref b12), .val (.int (p5 &&& (7 : Int32))), .val (.int p1), .val (.int p2), .val (.int (rF p1 p3)), .val (.int (rF p2 p4)), .unset, .unset] [(.int (lF (rF p1 p3) p6))])) t → Steps p.tables e below (s₁.setTop (entryFrame m #[(.int p1), (.int p2), (.int p3), (.int p4), (.int p5), (.int p6)] maxLocals)) t := pre48
          have pre50 : ∀ t, Steps p.tables e below (T46.setTop (mkF m 249 #[.val (.int p1), .val (.int p2), .val (.int p3), .val (.int p4), .val (.int p5), .val (.int p6), .val (.int (rF p1 p3)), .val (.int (rF p2 p4)), .val (.ref b12), .val (.int (p5 &&& (7 : Int32))), .val (.int (lF (rF p1 p3) p6)), .val (.int p2), .val (.int (rF p1 p3)), .val (.int (rF p2 p4)), .unset, .unset] [])) t → Steps p.tables e below (s₁.setTop (entryFrame m #[(.int p1), (.int p2), (.int p3), (.int p4), (.int p5), (.int p6)] maxLocals)) t := fun t k => pre49 t (by
            show Steps p.tables e below (T46.setTop (mkF m 158 #[.val (.int p1), .val (.int p2), .val (.int p3), .val (.int p4), .val (.int p5), .val (.int p6), .val (.int (rF p1 p3)), .val (.int (rF p2 p4)), .val (.ref b12), .val (.int (p5 &&& (7 : Int32))), .val (.int p1), .val (.int p2), .val (.int (rF p1 p3)), .val (.int (rF p2 p4)), .unset, .unset] [(.int (lF (rF p1 p3) p6))])) _
            refine XS.istore X46.here hx rfl (hb hby at_158) rfl (l' := #[.val (.int p1), .val (.int p2), .val (.int p3), .val (.int p4), .val (.int p5), .val (.int p6), .val (.int (rF p1 p3)), .val (.int (rF p2 p4)), .val (.ref b12), .val (.int (p5 &&& (7 : Int32))), .val (.int (lF (rF p1 p3) p6)), .val (.int p2), .val (.int (rF p1 p3)), .val (.int (rF p2 p4)), .unset, .unset]) rfl ?_
            show Steps p.tables e below (T46.setTop (mkF m 160 #[.val (.int p1), .val (.int p2), .val (.int p3), .val (.int p4), .val (.int p5), .val (.int p6), .val (.int (rF p1 p3)), .val (.int (rF p2 p4)), .val (.ref b12), .val (.int (p5 &&& (7 : Int32))), .val (.int (lF (rF p1 p3) p6)), .val (.int p2), .val (.int (rF p1 p3)), .val (.int (rF p2 p4)), .unset, .unset] [])) _
            refine XS.goto X46.here hx rfl (pc0 := 160) (pc' := 249) rfl (hb hby at_160) (by decide) (by decide) ?_
            exact k)
          obtain ⟨T51, h51, X51, e51, E51, A51, D51, -, st51⟩ := newO X46 hx hZ hown (hw _ (List.mem_of_getElem? (i := 6) rfl)) (hw _ (List.mem_of_getElem? (i := 7) rfl)) (hw _ (List.mem_of_getElem? (i := 8) rfl)) e46 (g := (mkF m 249 #[.val (.int p1), .val (.int p2), .val (.int p3), .val (.int p4), .val (.int p5), .val (.int p6), .val (.int (rF p1 p3)), .val (.int (rF p2 p4)), .val (.ref b12), .val (.int (p5 &&& (7 : Int32))), .val (.int (lF (rF p1 p3) p6)), .val (.int p2), .val (.int (rF p1 p3)), .val (.int (rF p2 p4)), .unset, .unset] [])) rfl (hb hby at_249) (by decide) (by decide)
          obtain ⟨b51, g51⟩ : ∃ z, z = T15.heap.size := ⟨_, rfl⟩
          rw [← g51] at A51 D51 st51
          have neb12_b51 : b12 ≠ b51 := Nat.ne_of_lt (Nat.lt_of_lt_of_le r15_0.lt (Nat.le_of_eq g51.symm))
          have f52 := (r15_0.ext E51)
          have f53 := (r15_1.ext E51)
          have f54 := (r15_2.ext E51)
          have f55 := (r15_3.ext E51)
          have f56 := (r15_4.ext E51)
          have F_left_b51 : Fld Z h51 b51 "com/example/blynds/blynds/engine/Rect" "left" "I" (.int (0 : Int32)) := D51 (Or.inr (hw _ (List.mem_of_getElem? (i := 17) rfl))) (ty := .int) (by decide)
          have F_top_b51 : Fld Z h51 b51 "com/example/blynds/blynds/engine/Rect" "top" "I" (.int (0 : Int32)) := D51 (Or.inr (hw _ (List.mem_of_getElem? (i := 19) rfl))) (ty := .int) (by decide)
          have F_right_b51 : Fld Z h51 b51 "com/example/blynds/blynds/engine/Rect" "right" "I" (.int (0 : Int32)) := D51 (Or.inr (hw _ (List.mem_of_getElem? (i := 21) rfl))) (ty := .int) (by decide)
          have F_bottom_b51 : Fld Z h51 b51 "com/example/blynds/blynds/engine/Rect" "bottom" "I" (.int (0 : Int32)) := D51 (Or.inr (hw _ (List.mem_of_getElem? (i := 23) rfl))) (ty := .int) (by decide)
          have g_b51 : n0 ≤ b51 := Nat.le_trans Z15 (Nat.le_of_eq g51.symm)
          have z_b51 : Z.heap.size ≤ b51 := Nat.le_trans O15.1 (Nat.le_of_eq g51.symm)
          have sz_b51 : h0.size ≤ b51 := Nat.le_trans K15.1 (Nat.le_of_eq g51.symm)
          have K51 := K15.ext E51
          have O51 : Ext Z.heap h51 := own_ext_trans O15 E51
          have Z51 : n0 ≤ h51.size := Nat.le_trans Z15 E51.1
          have pre57 : ∀ t, Steps p.tables e below (T51.setTop (mkF m 252 #[.val (.int p1), .val (.int p2), .val (.int p3), .val (.int p4), .val (.int p5), .val (.int p6), .val (.int (rF p1 p3)), .val (.int (rF p2 p4)), .val (.ref b12), .val (.int (p5 &&& (7 : Int32))), .val (.int (lF (rF p1 p3) p6)), .val (.int p2), .val (.int (rF p1 p3)), .val (.int (rF p2 p4)), .unset, .unset] [(.ref b51)])) t → Steps p.tables e below (s₁.setTop (entryFrame m #[(.int p1), (.int p2), (.int p3), (.int p4), (.int p5), (.int p6)] maxLocals)) t := fun t k => pre50 t (st51 t k)
          have pre58 : ∀ t, Steps p.tables e below (T51.setTop (mkF m 261 #[.val (.int p1), .val (.int p2), .val (.int p3), .val (.int p4), .val (.int p5), .val (.int p6), .val (.int (rF p1 p3)), .val (.int (rF p2 p4)), .val (.ref b12), .val (.int (p5 &&& (7 : Int32))), .val (.int (lF (rF p1 p3) p6)), .val (.int p2), .val (.int (rF p1 p3)), .val (.int (rF p2 p4)), .unset, .unset] [(.int (rF p2 p4)), (.int (rF p1 p3)), (.int p2), (.int (lF (rF p1 p3) p6)), (.ref b51), (.ref b51)])) t → Steps p.tables e below (s₁.setTop (entryFrame m #[(.int p1), (.int p2), (.int p3), (.int p4), (.int p5), (.int p6)] maxLocals)) t := fun t k => pre57 t (by
            show Steps p.tables e below (T51.setTop (mkF m 252 #[.val (.int p1), .val (.int p2), .val (.int p3), .val (.int p4), .val (.int p5), .val (.int p6), .val (.int (rF p1 p3)), .val (.int (rF p2 p4)), .val (.ref b12), .val (.int (p5 &&& (7 : Int32))), .val (.int (lF (rF p1 p3) p6)), .val (.int p2), .val (.int (rF p1 p3)), .val (.int (rF p2 p4)), .unset, .unset] [(.ref b51)])) _
            refine XS.dup X51.here hx rfl (hb hby at_252) rfl rfl ?_
            show Steps p.tables e below (T51.setTop (mkF m 253 #[.val (.int p1), .val (.int p2), .val (.int p3), .val (.int p4), .val (.int p5), .val (.int p6), .val (.int (rF p1 p3)), .val (.int (rF p2 p4)), .val (.ref b12), .val (.int (p5 &&& (7 : Int32))), .val (.int (lF (rF p1 p3) p6)), .val (.int p2), .val (.int (rF p1 p3)), .val (.int (rF p2 p4)), .unset, .unset] [(.ref b51), (.ref b51)])) _
            refine XS.iload X51.here hx rfl (hb hby at_253) rfl ?_
            show Steps p.tables e below (T51.setTop (mkF m 255 #[.val (.int p1), .val (.int p2), .val (.int p3), .val (.int p4), .val (.int p5), .val (.int p6), .val (.int (rF p1 p3)), .val (.int (rF p2 p4)), .val (.ref b12), .val (.int (p5 &&& (7 : Int32))), .val (.int (lF (rF p1 p3) p6)), .val (.int p2), .val (.int (rF p1 p3)), .val (.int (rF p2 p4)), .unset, .unset] [(.int (lF (rF p1 p3) p6)), (.ref b51), (.ref b51)])) _
            refine XS.iload X51.here hx rfl (hb hby at_255) rfl ?_
            show Steps p.tables e below (T51.setTop (mkF m 257 #[.val (.int p1), .val (.int p2), .val (.int p3), .val (.int p4), .val (.int p5), .val (.int p6), .val (.int (rF p1 p3)), .val (.int (rF p2 p4)), .val (.ref b12), .val (.int (p5 &&& (7 : Int32))), .val (.int (lF (rF p1 p3) p6)), .val (.int p2), .val (.int (rF p1 p3)), .val (.int (rF p2 p4)), .unset, .unset] [(.int p2), (.int (lF (rF p1 p3) p6)), (.ref b51), (.ref b51)])) _
            refine XS.iload X51.here hx rfl (hb hby at_257) rfl ?_
            show Steps p.tables e below (T51.setTop (mkF m 259 #[.val (.int p1), .val (.int p2), .val (.int p3), .val (.int p4), .val (.int p5), .val (.int p6), .val (.int (rF p1 p3)), .val (.int (rF p2 p4)), .val (.ref b12), .val (.int (p5 &&& (7 : Int32))), .val (.int (lF (rF p1 p3) p6)), .val (.int p2), .val (.int (rF p1 p3)), .val (.int (rF p2 p4)), .unset, .unset] [(.int (rF p1 p3)), (.int p2), (.int (lF (rF p1 p3) p6)), (.ref b51), (.ref b51)])) _
            refine XS.iload X51.here hx rfl (hb hby at_259) rfl ?_
            exact k)
          obtain ⟨_, _, ⟨T59, L59, k59, n59⟩, -, X59, ⟨Lc59, hQ59, l59, y59, z59⟩, st59⟩ := X51.specialBack hx (y := (⟨"com/example/blynds/blynds/engine/Rect", "<init>", "(IIII)V"⟩ : MethodName)) rfl hown (mvT hZ (hw _ (List.mem_of_getElem? (i := 9) rfl))) (mvT hZ (hw _ (List.mem_of_getElem? (i := 10) rfl))) (mvT hZ (hw _ (List.mem_of_getElem? (i := 11) rfl))) (by decide) (backOf (W := 1) (rm_rc l Z a0 hw [] b51 (lF (rF p1 p3) p6) p2 (rF p1 p3) (rF p2 p4) h51 n0 Z51 O51 A51 F_left_b51 F_top_b51 F_right_b51 F_bottom_b51 g_b51 z_b51 (own_lF _ _) (own_rF _ _)) hZ (hw _ (List.mem_of_getElem? (i := 11) rfl)) (hw _ (List.mem_of_getElem? (i := 8) rfl)) (by decide) (by decide)) (g := (mkF m 261 #[.val (.int p1), .val (.int p2), .val (.int p3), .val (.int p4), .val (.int p5), .val (.int p6), .val (.int (rF p1 p3)), .val (.int (rF p2 p4)), .val (.ref b12), .val (.int (p5 &&& (7 : Int32))), .val (.int (lF (rF p1 p3) p6)), .val (.int p2), .val (.int (rF p1 p3)), .val (.int (rF p2 p4)), .unset, .unset] [(.int (rF p2 p4)), (.int (rF p1 p3)), (.int p2), (.int (lF (rF p1 p3) p6)), (.ref b51), (.ref b51)])) rfl (by rw [hml]; rfl) (Steps.refl _) (a := b51) (argsL := [(.int (lF (rF p1 p3) p6)), (.int p2), (.int (rF p1 p3)), (.int (rF p2 p4))]) (rest := [(.ref b51)]) (lenOf pd_3 rfl) rfl (by show 2 * 0 + _ ≤ _; exact Nat.le_of_eq rfl) (hb hby at_261) (fun _ _ => ⟨rfl, e51, (by decide : 2 + 0 ≤ _), (by decide : 8 + 0 ≤ _)⟩)
          dsimp only [Pt.U, Pt.locs, Pt.cells, Pt.slots] at X59 l59 y59 z59 st59 hQ59
          subst l59 y59 z59
          obtain ⟨rfl, N59q, Kq59, r59_0, r59_1, r59_2, r59_3, r59_4⟩ := hQ59
          have f60 := (f52.keep Kq59)
          have f61 := (f53.keep Kq59 (ninS neb12_b51 nin0))
          have f62 := (f54.keep Kq59 (ninS neb12_b51 nin0))
          have f63 := (f55.keep Kq59 (ninS neb12_b51 nin0))
          have f64 := (f56.keep Kq59 (ninS neb12_b51 nin0))
          have O59 : Ext Z.heap T59.heap := own_ext_keep O51 Kq59 (allS z_b51 all0)
          have K59 := K51.trans Kq59 (allS (Or.inr sz_b51) all0)
          have Z59 : n0 ≤ T59.heap.size := Nat.le_trans Z51 Kq59.1
          have N59 := Fr.app N46 N59q
          have pre65 : ∀ t, Steps p.tables e below (T59.setTop (mkF m 264 #[.val (.int p1), .val (.int p2), .val (.int p3), .val (.int p4), .val (.int p5), .val (.int p6), .val (.int (rF p1 p3)), .val (.int (rF p2 p4)), .val (.ref b12), .val (.int (p5 &&& (7 : Int32))), .val (.int (lF (rF p1 p3) p6)), .val (.int p2), .val (.int (rF p1 p3)), .val (.int (rF p2 p4)), .unset, .unset] [(.ref b51)])) t → Steps p.tables e below (s₁.setTop (entryFrame m #[(.int p1), (.int p2), (.int p3), (.int p4), (.int p5), (.int p6)] maxLocals)) t := fun t k => pre58 t (st59.trans k)
          have pre66 : ∀ t, Steps p.tables e below (T59.setTop (mkF m 269 #[.val (.int p1), .val (.int p2), .val (.int p3), .val (.int p4), .val (.int p5), .val (.int p6), .val (.int (rF p1 p3)), .val (.int (rF p2 p4)), .val (.ref b12), .val (.int (p5 &&& (7 : Int32))), .val (.int (lF (rF p1 p3) p6)), .val (.int p2), .val (.int (rF p1 p3)), .val (.int (rF p2 p4)), .val (.ref b51), .unset] [(.int (lF (rF p1 p3) p6)), (.int p1)])) t → Steps p.tables e below (s₁.setTop (entryFrame m #[(.int p1), (.int p2), (.int p3), (.int p4), (.int p5), (.int p6)] maxLocals)) t := fun t k => pre65 t (by
            show Steps p.tables e below (T59.setTop (mkF m 264 #[.val (.int p1), .val (.int p2), .val (.int p3), .val (.int p4), .val (.int p5), .val (.int p6), .val (.int (rF p1 p3)), .val (.int (rF p2 p4)), .val (.ref b12), .val (.int (p5 &&& (7 : Int32))), .val (.int (lF (rF p1 p3) p6)), .val (.int p2), .val (.int (rF p1 p3)), .val (.int (rF p2 p4)), .unset, .unset] [(.ref b51)])) _
            refine XS.astore X59.here hx rfl (hb hby at_264) rfl rfl (l' := #[.val (.int p1), .val (.int p2), .val (.int p3), .val (.int p4), .val (.int p5), .val (.int p6), .val (.int (rF p1 p3)), .val (.int (rF p2 p4)), .val (.ref b12), .val (.int (p5 &&& (7 : Int32))), .val (.int (lF (rF p1 p3) p6)), .val (.int p2), .val (.int (rF p1 p3)), .val (.int (rF p2 p4)), .val (.ref b51), .unset]) rfl ?_
            show Steps p.tables e below (T59.setTop (mkF m 266 #[.val (.int p1), .val (.int p2), .val (.int p3), .val (.int p4), .val (.int p5), .val (.int p6), .val (.int (rF p1 p3)), .val (.int (rF p2 p4)), .val (.ref b12), .val (.int (p5 &&& (7 : Int32))), .val (.int (lF (rF p1 p3) p6)), .val (.int p2), .val (.int (rF p1 p3)), .val (.int (rF p2 p4)), .val (.ref b51), .unset] [])) _
            refine XS.iloadN X59.here hx rfl (hb hby at_266) rfl ?_
            show Steps p.tables e below (T59.setTop (mkF m 267 #[.val (.int p1), .val (.int p2), .val (.int p3), .val (.int p4), .val (.int p5), .val (.int p6), .val (.int (rF p1 p3)), .val (.int (rF p2 p4)), .val (.ref b12), .val (.int (p5 &&& (7 : Int32))), .val (.int (lF (rF p1 p3) p6)), .val (.int p2), .val (.int (rF p1 p3)), .val (.int (rF p2 p4)), .val (.ref b51), .unset] [(.int p1)])) _
            refine XS.iload X59.here hx rfl (hb hby at_267) rfl ?_
            exact k)
          by_cases hc269_67 : p1 = (lF (rF p1 p3) p6)
          · have pre68 : ∀ t, Steps p.tables e below (T59.setTop (mkF m 303 #[.val (.int p1), .val (.int p2), .val (.int p3), .val (.int p4), .val (.int p5), .val (.int p6), .val (.int (rF p1 p3)), .val (.int (rF p2 p4)), .val (.ref b12), .val (.int (p5 &&& (7 : Int32))), .val (.int (lF (rF p1 p3) p6)), .val (.int p2), .val (.int (rF p1 p3)), .val (.int (rF p2 p4)), .val (.ref b51), .val (.int (1 : Int32))] [(.ref b51), (.ref b12)])) t → Steps p.tables e below (s₁.setTop (entryFrame m #[(.int p1), (.int p2), (.int p3), (.int p4), (.int p5), (.int p6)] maxLocals)) t := fun t k => pre66 t (by
              show Steps p.tables e below (T59.setTop (mkF m 269 #[.val (.int p1), .val (.int p2), .val (.int p3), .val (.int p4), .val (.int p5), .val (.int p6), .val (.int (rF p1 p3)), .val (.int (rF p2 p4)), .val (.ref b12), .val (.int (p5 &&& (7 : Int32))), .val (.int (lF (rF p1 p3) p6)), .val (.int p2), .val (.int (rF p1 p3)), .val (.int (rF p2 p4)), .val (.ref b51), .unset] [(.int (lF (rF p1 p3) p6)), (.int p1)])) _
              refine XS.icmpNo X59.here hx rfl (hb hby at_269) rfl (teq hc269_67).2 ?_
              show Steps p.tables e below (T59.setTop (mkF m 272 #[.val (.int p1), .val (.int p2), .val (.int p3), .val (.int p4), .val (.int p5), .val (.int p6), .val (.int (rF p1 p3)), .val (.int (rF p2 p4)), .val (.ref b12), .val (.int (p5 &&& (7 : Int32))), .val (.int (lF (rF p1 p3) p6)), .val (.int p2), .val (.int (rF p1 p3)), .val (.int (rF p2 p4)), .val (.ref b51), .unset] [])) _
              refine XS.iloadN X59.here hx rfl (hb hby at_272) rfl ?_
              show Steps p.tables e below (T59.setTop (mkF m 273 #[.val (.int p1), .val (.int p2), .val (.int p3), .val (.int p4), .val (.int p5), .val (.int p6), .val (.int (rF p1 p3)), .val (.int (rF p2 p4)), .val (.ref b12), .val (.int (p5 &&& (7 : Int32))), .val (.int (lF (rF p1 p3) p6)), .val (.int p2), .val (.int (rF p1 p3)), .val (.int (rF p2 p4)), .val (.ref b51), .unset] [(.int p2)])) _
              refine XS.iload X59.here hx rfl (hb hby at_273) rfl ?_
              show Steps p.tables e below (T59.setTop (mkF m 275 #[.val (.int p1), .val (.int p2), .val (.int p3), .val (.int p4), .val (.int p5), .val (.int p6), .val (.int (rF p1 p3)), .val (.int (rF p2 p4)), .val (.ref b12), .val (.int (p5 &&& (7 : Int32))), .val (.int (lF (rF p1 p3) p6)), .val (.int p2), .val (.int (rF p1 p3)), .val (.int (rF p2 p4)), .val (.ref b51), .unset] [(.int p2), (.int p2)])) _
              refine XS.icmpNo X59.here hx rfl (hb hby at_275) rfl (teq (rfl : p2 = p2)).2 ?_
              show Steps p.tables e below (T59.setTop (mkF m 278 #[.val (.int p1), .val (.int p2), .val (.int p3), .val (.int p4), .val (.int p5), .val (.int p6), .val (.int (rF p1 p3)), .val (.int (rF p2 p4)), .val (.ref b12), .val (.int (p5 &&& (7 : Int32))), .val (.int (lF (rF p1 p3) p6)), .val (.int p2), .val (.int (rF p1 p3)), .val (.int (rF p2 p4)), .val (.ref b51), .unset] [])) _
              refine XS.iload X59.here hx rfl (hb hby at_278) rfl ?_
              show Steps p.tables e below (T59.setTop (mkF m 280 #[.val (.int p1), .val (.int p2), .val (.int p3), .val (.int p4), .val (.int p5), .val (.int p6), .val (.int (rF p1 p3)), .val (.int (rF p2 p4)), .val (.ref b12), .val (.int (p5 &&& (7 : Int32))), .val (.int (lF (rF p1 p3) p6)), .val (.int p2), .val (.int (rF p1 p3)), .val (.int (rF p2 p4)), .val (.ref b51), .unset] [(.int (rF p1 p3))])) _
              refine XS.iload X59.here hx rfl (hb hby at_280) rfl ?_
              show Steps p.tables e below (T59.setTop (mkF m 282 #[.val (.int p1), .val (.int p2), .val (.int p3), .val (.int p4), .val (.int p5), .val (.int p6), .val (.int (rF p1 p3)), .val (.int (rF p2 p4)), .val (.ref b12), .val (.int (p5 &&& (7 : Int32))), .val (.int (lF (rF p1 p3) p6)), .val (.int p2), .val (.int (rF p1 p3)), .val (.int (rF p2 p4)), .val (.ref b51), .unset] [(.int (rF p1 p3)), (.int (rF p1 p3))])) _
              refine XS.icmpNo X59.here hx rfl (hb hby at_282) rfl (teq (rfl : (rF p1 p3) = (rF p1 p3))).2 ?_
              show Steps p.tables e below (T59.setTop (mkF m 285 #[.val (.int p1), .val (.int p2), .val (.int p3), .val (.int p4), .val (.int p5), .val (.int p6), .val (.int (rF p1 p3)), .val (.int (rF p2 p4)), .val (.ref b12), .val (.int (p5 &&& (7 : Int32))), .val (.int (lF (rF p1 p3) p6)), .val (.int p2), .val (.int (rF p1 p3)), .val (.int (rF p2 p4)), .val (.ref b51), .unset] [])) _
              refine XS.iload X59.here hx rfl (hb hby at_285) rfl ?_
              show Steps p.tables e below (T59.setTop (mkF m 287 #[.val (.int p1), .val (.int p2), .val (.int p3), .val (.int p4), .val (.int p5), .val (.int p6), .val (.int (rF p1 p3)), .val (.int (rF p2 p4)), .val (.ref b12), .val (.int (p5 &&& (7 : Int32))), .val (.int (lF (rF p1 p3) p6)), .val (.int p2), .val (.int (rF p1 p3)), .val (.int (rF p2 p4)), .val (.ref b51), .unset] [(.int (rF p2 p4))])) _
              refine XS.iload X59.here hx rfl (hb hby at_287) rfl ?_
              show Steps p.tables e below (T59.setTop (mkF m 289 #[.val (.int p1), .val (.int p2), .val (.int p3), .val (.int p4), .val (.int p5), .val (.int p6), .val (.int (rF p1 p3)), .val (.int (rF p2 p4)), .val (.ref b12), .val (.int (p5 &&& (7 : Int32))), .val (.int (lF (rF p1 p3) p6)), .val (.int p2), .val (.int (rF p1 p3)), .val (.int (rF p2 p4)), .val (.ref b51), .unset] [(.int (rF p2 p4)), (.int (rF p2 p4))])) _
              refine XS.icmpNo X59.here hx rfl (hb hby at_289) rfl (teq (rfl : (rF p2 p4) = (rF p2 p4))).2 ?_
              show Steps p.tables e below (T59.setTop (mkF m 292 #[.val (.int p1), .val (.int p2), .val (.int p3), .val (.int p4), .val (.int p5), .val (.int p6), .val (.int (rF p1 p3)), .val (.int (rF p2 p4)), .val (.ref b12), .val (.int (p5 &&& (7 : Int32))), .val (.int (lF (rF p1 p3) p6)), .val (.int p2), .val (.int (rF p1 p3)), .val (.int (rF p2 p4)), .val (.ref b51), .unset] [])) _
              refine XS.iconst X59.here hx rfl (hb hby at_292) ?_
              show Steps p.tables e below (T59.setTop (mkF m 293 #[.val (.int p1), .val (.int p2), .val (.int p3), .val (.int p4), .val (.int p5), .val (.int p6), .val (.int (rF p1 p3)), .val (.int (rF p2 p4)), .val (.ref b12), .val (.int (p5 &&& (7 : Int32))), .val (.int (lF (rF p1 p3) p6)), .val (.int p2), .val (.int (rF p1 p3)), .val (.int (rF p2 p4)), .val (.ref b51), .unset] [(.int (1 : Int32))])) _
              refine XS.goto X59.here hx rfl (pc0 := 293) (pc' := 297) rfl (hb hby at_293) (by decide) (by decide) ?_
              show Steps p.tables e below (T59.setTop (mkF m 297 #[.val (.int p1), .val (.int p2), .val (.int p3), .val (.int p4), .val (.int p5), .val (.int p6), .val (.int (rF p1 p3)), .val (.int (rF p2 p4)), .val (.ref b12), .val (.int (p5 &&& (7 : Int32))), .val (.int (lF (rF p1 p3) p6)), .val (.int p2), .val (.int (rF p1 p3)), .val (.int (rF p2 p4)), .val (.ref b51), .unset] [(.int (1 : Int32))])) _
              refine XS.istore X59.here hx rfl (hb hby at_297) rfl (l' := #[.val (.int p1), .val (.int p2), .val (.int p3), .val (.int p4), .val (.int p5), .val (.int p6), .val (.int (rF p1 p3)), .val (.int (rF p2 p4)), .val (.ref b12), .val (.int (p5 &&& (7 : Int32))), .val (.int (lF (rF p1 p3) p6)), .val (.int p2), .val (.int (rF p1 p3)), .val (.int (rF p2 p4)), .val (.ref b51), .val (.int (1 : Int32))]) rfl ?_
              show Steps p.tables e below (T59.setTop (mkF m 299 #[.val (.int p1), .val (.int p2), .val (.int p3), .val (.int p4), .val (.int p5), .val (.int p6), .val (.int (rF p1 p3)), .val (.int (rF p2 p4)), .val (.ref b12), .val (.int (p5 &&& (7 : Int32))), .val (.int (lF (rF p1 p3) p6)), .val (.int p2), .val (.int (rF p1 p3)), .val (.int (rF p2 p4)), .val (.ref b51), .val (.int (1 : Int32))] [])) _
              refine XS.aload X59.here hx rfl (hb hby at_299) rfl rfl ?_
              show Steps p.tables e below (T59.setTop (mkF m 301 #[.val (.int p1), .val (.int p2), .val (.int p3), .val (.int p4), .val (.int p5), .val (.int p6), .val (.int (rF p1 p3)), .val (.int (rF p2 p4)), .val (.ref b12), .val (.int (p5 &&& (7 : Int32))), .val (.int (lF (rF p1 p3) p6)), .val (.int p2), .val (.int (rF p1 p3)), .val (.int (rF p2 p4)), .val (.ref b51), .val (.int (1 : Int32))] [(.ref b12)])) _
              refine XS.aload X59.here hx rfl (hb hby at_301) rfl rfl ?_
              exact k)
            obtain ⟨cq69, kq69, q69a, q69b, q69c⟩ := isOf hZ rfl f60
            obtain ⟨_, _, ⟨T69, L69, k69, n69⟩, -, X69, ⟨Lc69, hQ69, l69, y69, z69⟩, st69⟩ := X59.virtualBack hx (y := (⟨"com/example/blynds/blynds/engine/Rect", "equals", "(Ljava/lang/Object;)Z"⟩ : MethodName)) (z := (⟨"com/example/blynds/blynds/engine/Rect", "equals", "(Ljava/lang/Object;)Z"⟩ : MethodName)) hown (mvT hZ (hw _ (List.mem_of_getElem? (i := 24) rfl))) (mvT hZ (hw _ (List.mem_of_getElem? (i := 25) rfl))) (notFace_of_selects (args := #[]) (mvT hZ (hw _ (List.mem_of_getElem? (i := 27) rfl)))) (mvT hZ (hw _ (List.mem_of_getElem? (i := 27) rfl))) (mvT hZ (hw _ (List.mem_of_getElem? (i := 26) rfl))) (by decide) (backOf (W := 0) (rm_eqobj l Z a0 hw [] b12 b51 p1 p2 (rF p1 p3) (rF p2 p4) (lF (rF p1 p3) p6) p2 (rF p1 p3) (rF p2 p4) T59.heap n0 Z59 O59 r59_0 f61 f62 f63 f64 r59_1 r59_2 r59_3 r59_4 neb12_b51) hZ (hw _ (List.mem_of_getElem? (i := 28) rfl)) (hw _ (List.mem_of_getElem? (i := 8) rfl)) (by decide) (by decide)) q69a q69c (g := (mkF m 303 #[.val (.int p1), .val (.int p2), .val (.int p3), .val (.int p4), .val (.int p5), .val (.int p6), .val (.int (rF p1 p3)), .val (.int (rF p2 p4)), .val (.ref b12), .val (.int (p5 &&& (7 : Int32))), .val (.int (lF (rF p1 p3) p6)), .val (.int p2), .val (.int (rF p1 p3)), .val (.int (rF p2 p4)), .val (.ref b51), .val (.int (1 : Int32))] [(.ref b51), (.ref b12)])) rfl (by rw [hml]; rfl) (Steps.refl _) (argsL := [(.ref b51)]) (rest := []) (lenOf pd_4 rfl) rfl (by show 2 * 0 + _ ≤ _; exact Nat.le_of_eq rfl) (hb hby at_303) (fun _ _ => ⟨rfl, rfl, (by decide : 2 + 0 ≤ _), (by decide : 8 + 0 ≤ _)⟩)
            dsimp only [Pt.U, Pt.locs, Pt.cells, Pt.slots] at X69 l69 y69 z69 st69 hQ69
            subst l69 y69 z69
            obtain ⟨hv69, N69q, e69⟩ := hQ69
            rw [(show (eqNF p1 p2 (rF p1 p3) (rF p2 p4) (lF (rF p1 p3) p6) p2 (rF p1 p3) (rF p2 p4)) = (1 : Int32) from (own_eq_yes hc269_67 rfl rfl rfl))] at hv69
            subst hv69
            have N69 := Fr.app N59 N69q
            have pre70 : ∀ t, Steps p.tables e below (T69.setTop (mkF m 306 #[.val (.int p1), .val (.int p2), .val (.int p3), .val (.int p4), .val (.int p5), .val (.int p6), .val (.int (rF p1 p3)), .val (.int (rF p2 p4)), .val (.ref b12), .val (.int (p5 &&& (7 : Int32))), .val (.int (lF (rF p1 p3) p6)), .val (.int p2), .val (.int (rF p1 p3)), .val (.int (rF p2 p4)), .val (.ref b51), .val (.int (1 : Int32))] [(.int (1 : Int32))])) t → Steps p.tables e below (s₁.setTop (entryFrame m #[(.int p1), (.int p2), (.int p3), (.int p4), (.int p5), (.int p6)] maxLocals)) t := fun t k => pre68 t (st69.trans k)
            have pre71 : ∀ t, Steps p.tables e below (T69.setTop (mkF m 315 #[.val (.int p1), .val (.int p2), .val (.int p3), .val (.int p4), .val (.int p5), .val (.int p6), .val (.int (rF p1 p3)), .val (.int (rF p2 p4)), .val (.ref b12), .val (.int (p5 &&& (7 : Int32))), .val (.int (lF (rF p1 p3) p6)), .val (.int p2), .val (.int (rF p1 p3)), .val (.int (rF p2 p4)), .val (.ref b51), .val (.int (1 : Int32))] [(.ref b12), (.ref b51)])) t → Steps p.tables e below (s₁.setTop (entryFrame m #[(.int p1), (.int p2), (.int p3), (.int p4), (.int p5), (.int p6)] maxLocals)) t := fun t k => pre70 t (by
              show Steps p.tables e below (T69.setTop (mkF m 306 #[.val (.int p1), .val (.int p2), .val (.int p3), .val (.int p4), .val (.int p5), .val (.int p6), .val (.int (rF p1 p3)), .val (.int (rF p2 p4)), .val (.ref b12), .val (.int (p5 &&& (7 : Int32))), .val (.int (lF (rF p1 p3) p6)), .val (.int p2), .val (.int (rF p1 p3)), .val (.int (rF p2 p4)), .val (.ref b51), .val (.int (1 : Int32))] [(.int (1 : Int32))])) _
              refine XS.iload X69.here hx rfl (hb hby at_306) rfl ?_
              show Steps p.tables e below (T69.setTop (mkF m 308 #[.val (.int p1), .val (.int p2), .val (.int p3), .val (.int p4), .val (.int p5), .val (.int p6), .val (.int (rF p1 p3)), .val (.int (rF p2 p4)), .val (.ref b12), .val (.int (p5 &&& (7 : Int32))), .val (.int (lF (rF p1 p3) p6)), .val (.int p2), .val (.int (rF p1 p3)), .val (.int (rF p2 p4)), .val (.ref b51), .val (.int (1 : Int32))] [(.int (1 : Int32)), (.int (1 : Int32))])) _
              refine XS.icmpNo X69.here hx rfl (hb hby at_308) rfl (teq (by decide : (1 : Int32) = (1 : Int32))).2 ?_
              show Steps p.tables e below (T69.setTop (mkF m 311 #[.val (.int p1), .val (.int p2), .val (.int p3), .val (.int p4), .val (.int p5), .val (.int p6), .val (.int (rF p1 p3)), .val (.int (rF p2 p4)), .val (.ref b12), .val (.int (p5 &&& (7 : Int32))), .val (.int (lF (rF p1 p3) p6)), .val (.int p2), .val (.int (rF p1 p3)), .val (.int (rF p2 p4)), .val (.ref b51), .val (.int (1 : Int32))] [])) _
              refine XS.aload X69.here hx rfl (hb hby at_311) rfl rfl ?_
              show Steps p.tables e below (T69.setTop (mkF m 313 #[.val (.int p1), .val (.int p2), .val (.int p3), .val (.int p4), .val (.int p5), .val (.int p6), .val (.int (rF p1 p3)), .val (.int (rF p2 p4)), .val (.ref b12), .val (.int (p5 &&& (7 : Int32))), .val (.int (lF (rF p1 p3) p6)), .val (.int p2), .val (.int (rF p1 p3)), .val (.int (rF p2 p4)), .val (.ref b51), .val (.int (1 : Int32))] [(.ref b51)])) _
              refine XS.aload X69.here hx rfl (hb hby at_313) rfl rfl ?_
              exact k)
            obtain ⟨cq72, kq72, q72a, q72b, q72c⟩ := isOf hZ e69 r59_0
            obtain ⟨_, _, ⟨T72, L72, k72, n72⟩, -, X72, ⟨Lc72, hQ72, l72, y72, z72⟩, st72⟩ := X69.virtualBack hx (y := (⟨"com/example/blynds/blynds/engine/Rect", "equals", "(Ljava/lang/Object;)Z"⟩ : MethodName)) (z := (⟨"com/example/blynds/blynds/engine/Rect", "equals", "(Ljava/lang/Object;)Z"⟩ : MethodName)) hown (mvT hZ (hw _ (List.mem_of_getElem? (i := 24) rfl))) (mvT hZ (hw _ (List.mem_of_getElem? (i := 25) rfl))) (notFace_of_selects (args := #[]) (mvT hZ (hw _ (List.mem_of_getElem? (i := 27) rfl)))) (mvT hZ (hw _ (List.mem_of_getElem? (i := 27) rfl))) (mvT hZ (hw _ (List.mem_of_getElem? (i := 26) rfl))) (by decide) (backOf (W := 0) (rm_eqobj l Z a0 hw [] b51 b12 (lF (rF p1 p3) p6) p2 (rF p1 p3) (rF p2 p4) p1 p2 (rF p1 p3) (rF p2 p4) T59.heap n0 Z59 O59 f60 r59_1 r59_2 r59_3 r59_4 f61 f62 f63 f64 (Ne.symm neb12_b51)) hZ (hw _ (List.mem_of_getElem? (i := 28) rfl)) (hw _ (List.mem_of_getElem? (i := 8) rfl)) (by decide) (by decide)) q72a q72c (g := (mkF m 315 #[.val (.int p1), .val (.int p2), .val (.int p3), .val (.int p4), .val (.int p5), .val (.int p6), .val (.int (rF p1 p3)), .val (.int (rF p2 p4)), .val (.ref b12), .val (.int (p5 &&& (7 : Int32))), .val (.int (lF (rF p1 p3) p6)), .val (.int p2), .val (.int (rF p1 p3)), .val (.int (rF p2 p4)), .val (.ref b51), .val (.int (1 : Int32))] [(.ref b12), (.ref b51)])) rfl (by rw [hml]; rfl) (Steps.refl _) (argsL := [(.ref b12)]) (rest := []) (lenOf pd_4 rfl) rfl (by show 2 * 0 + _ ≤ _; exact Nat.le_of_eq rfl) (hb hby at_315) (fun _ _ => ⟨rfl, e69, (by decide : 2 + 0 ≤ _), (by decide : 8 + 0 ≤ _)⟩)
            dsimp only [Pt.U, Pt.locs, Pt.cells, Pt.slots] at X72 l72 y72 z72 st72 hQ72
            subst l72 y72 z72
            obtain ⟨hv72, N72q, e72⟩ := hQ72
            rw [(show (eqNF (lF (rF p1 p3) p6) p2 (rF p1 p3) (rF p2 p4) p1 p2 (rF p1 p3) (rF p2 p4)) = (1 : Int32) from (own_eq_yes (hc269_67).symm rfl rfl rfl))] at hv72
            subst hv72
            have N72 := Fr.app N69 N72q
            have pre73 : ∀ t, Steps p.tables e below (T72.setTop (mkF m 318 #[.val (.int p1), .val (.int p2), .val (.int p3), .val (.int p4), .val (.int p5), .val (.int p6), .val (.int (rF p1 p3)), .val (.int (rF p2 p4)), .val (.ref b12), .val (.int (p5 &&& (7 : Int32))), .val (.int (lF (rF p1 p3) p6)), .val (.int p2), .val (.int (rF p1 p3)), .val (.int (rF p2 p4)), .val (.ref b51), .val (.int (1 : Int32))] [(.int (1 : Int32))])) t → Steps p.tables e below (s₁.setTop (entryFrame m #[(.int p1), (.int p2), (.int p3), (.int p4), (.int p5), (.int p6)] maxLocals)) t := fun t k => pre71 t (st72.trans k)
            have pre74 : ∀ t, Steps p.tables e below (T72.setTop (mkF m 328 #[.val (.int p1), .val (.int p2), .val (.int p3), .val (.int p4), .val (.int p5), .val (.int p6), .val (.int (rF p1 p3)), .val (.int (rF p2 p4)), .val (.ref b12), .val (.int (p5 &&& (7 : Int32))), .val (.int (lF (rF p1 p3) p6)), .val (.int p2), .val (.int (rF p1 p3)), .val (.int (rF p2 p4)), .val (.ref b51), .val (.int (1 : Int32))] [(.int (1 : Int32))])) t → Steps p.tables e below (s₁.setTop (entryFrame m #[(.int p1), (.int p2), (.int p3), (.int p4), (.int p5), (.int p6)] maxLocals)) t := fun t k => pre73 t (by
              show Steps p.tables e below (T72.setTop (mkF m 318 #[.val (.int p1), .val (.int p2), .val (.int p3), .val (.int p4), .val (.int p5), .val (.int p6), .val (.int (rF p1 p3)), .val (.int (rF p2 p4)), .val (.ref b12), .val (.int (p5 &&& (7 : Int32))), .val (.int (lF (rF p1 p3) p6)), .val (.int p2), .val (.int (rF p1 p3)), .val (.int (rF p2 p4)), .val (.ref b51), .val (.int (1 : Int32))] [(.int (1 : Int32))])) _
              refine XS.iload X72.here hx rfl (hb hby at_318) rfl ?_
              show Steps p.tables e below (T72.setTop (mkF m 320 #[.val (.int p1), .val (.int p2), .val (.int p3), .val (.int p4), .val (.int p5), .val (.int p6), .val (.int (rF p1 p3)), .val (.int (rF p2 p4)), .val (.ref b12), .val (.int (p5 &&& (7 : Int32))), .val (.int (lF (rF p1 p3) p6)), .val (.int p2), .val (.int (rF p1 p3)), .val (.int (rF p2 p4)), .val (.ref b51), .val (.int (1 : Int32))] [(.int (1 : Int32)), (.int (1 : Int32))])) _
              refine XS.icmpNo X72.here hx rfl (hb hby at_320) rfl (teq (by decide : (1 : Int32) = (1 : Int32))).2 ?_
              show Steps p.tables e below (T72.setTop (mkF m 323 #[.val (.int p1), .val (.int p2), .val (.int p3), .val (.int p4), .val (.int p5), .val (.int p6), .val (.int (rF p1 p3)), .val (.int (rF p2 p4)), .val (.ref b12), .val (.int (p5 &&& (7 : Int32))), .val (.int (lF (rF p1 p3) p6)), .val (.int p2), .val (.int (rF p1 p3)), .val (.int (rF p2 p4)), .val (.ref b51), .val (.int (1 : Int32))] [])) _
              refine XS.iconst X72.here hx rfl (hb hby at_323) ?_
              show Steps p.tables e below (T72.setTop (mkF m 324 #[.val (.int p1), .val (.int p2), .val (.int p3), .val (.int p4), .val (.int p5), .val (.int p6), .val (.int (rF p1 p3)), .val (.int (rF p2 p4)), .val (.ref b12), .val (.int (p5 &&& (7 : Int32))), .val (.int (lF (rF p1 p3) p6)), .val (.int p2), .val (.int (rF p1 p3)), .val (.int (rF p2 p4)), .val (.ref b51), .val (.int (1 : Int32))] [(.int (1 : Int32))])) _
              refine XS.goto X72.here hx rfl (pc0 := 324) (pc' := 328) rfl (hb hby at_324) (by decide) (by decide) ?_
              exact k)
            obtain ⟨fs, hr, hrun, hended, hW, hsame⟩ := X72.leave (v := some (.int (1 : Int32))) (fun h => by rw [Bd.returns] at h; cases h)
            refine ⟨_, _, pre74 _ ?_, hrun, hended, _, _, rfl, ?_, ⟨_, rfl⟩, hW, hsame.mono (by decide) (by decide)⟩
            · exact retN X72 hx (t := .boolean) Bd.returns (by simp) (hb hby at_328) hr
            · show Q_rm_law Z p1 p2 p3 p4 p5 p6 cA cl h0 n0 _ T72.heap _
              rw [e72]
              exact ⟨rfl, N72⟩
          · have pre75 : ∀ t, Steps p.tables e below (T59.setTop (mkF m 303 #[.val (.int p1), .val (.int p2), .val (.int p3), .val (.int p4), .val (.int p5), .val (.int p6), .val (.int (rF p1 p3)), .val (.int (rF p2 p4)), .val (.ref b12), .val (.int (p5 &&& (7 : Int32))), .val (.int (lF (rF p1 p3) p6)), .val (.int p2), .val (.int (rF p1 p3)), .val (.int (rF p2 p4)), .val (.ref b51), .val (.int (0 : Int32))] [(.ref b51), (.ref b12)])) t → Steps p.tables e below (s₁.setTop (entryFrame m #[(.int p1), (.int p2), (.int p3), (.int p4), (.int p5), (.int p6)] maxLocals)) t := fun t k => pre66 t (by
              show Steps p.tables e below (T59.setTop (mkF m 269 #[.val (.int p1), .val (.int p2), .val (.int p3), .val (.int p4), .val (.int p5), .val (.int p6), .val (.int (rF p1 p3)), .val (.int (rF p2 p4)), .val (.ref b12), .val (.int (p5 &&& (7 : Int32))), .val (.int (lF (rF p1 p3) p6)), .val (.int p2), .val (.int (rF p1 p3)), .val (.int (rF p2 p4)), .val (.ref b51), .unset] [(.int (lF (rF p1 p3) p6)), (.int p1)])) _
              refine XS.icmpYes X59.here hx rfl (pc0 := 269) (pc' := 296) rfl (hb hby at_269) rfl (feq hc269_67).2 (by decide) (by decide) ?_
              show Steps p.tables e below (T59.setTop (mkF m 296 #[.val (.int p1), .val (.int p2), .val (.int p3), .val (.int p4), .val (.int p5), .val (.int p6), .val (.int (rF p1 p3)), .val (.int (rF p2 p4)), .val (.ref b12), .val (.int (p5 &&& (7 : Int32))), .val (.int (lF (rF p1 p3) p6)), .val (.int p2), .val (.int (rF p1 p3)), .val (.int (rF p2 p4)), .val (.ref b51), .unset] [])) _
              refine XS.iconst X59.here hx rfl (hb hby at_296) ?_
              show Steps p.tables e below (T59.setTop (mkF m 297 #[.val (.int p1), .val (.int p2), .val (.int p3), .val (.int p4), .val (.int p5), .val (.int p6), .val (.int (rF p1 p3)), .val (.int (rF p2 p4)), .val (.ref b12), .val (.int (p5 &&& (7 : Int32))), .val (.int (lF (rF p1 p3) p6)), .val (.int p2), .val (.int (rF p1 p3)), .val (.int (rF p2 p4)), .val (.ref b51), .unset] [(.int (0 : Int32))])) _
              refine XS.istore X59.here hx rfl (hb hby at_297) rfl (l' := #[.val (.int p1), .val (.int p2), .val (.int p3), .val (.int p4), .val (.int p5), .val (.int p6), .val (.int (rF p1 p3)), .val (.int (rF p2 p4)), .val (.ref b12), .val (.int (p5 &&& (7 : Int32))), .val (.int (lF (rF p1 p3) p6)), .val (.int p2), .val (.int (rF p1 p3)), .val (.int (rF p2 p4)), .val (.ref b51), .val (.int (0 : Int32))]) rfl ?_
              show Steps p.tables e below (T59.setTop (mkF m 299 #[.val (.int p1), .val (.int p2), .val (.int p3), .val (.int p4), .val (.int p5), .val (.int p6), .val (.int (rF p1 p3)), .val (.int (rF p2 p4)), .val (.ref b12), .val (.int (p5 &&& (7 : Int32))), .val (.int (lF (rF p1 p3) p6)), .val (.int p2), .val (.int (rF p1 p3)), .val (.int (rF p2 p4)), .val (.ref b51), .val (.int (0 : Int32))] [])) _
              refine XS.aload X59.here hx rfl (hb hby at_299) rfl rfl ?_
              show Steps p.tables e below (T59.setTop (mkF m 301 #[.val (.int p1), .val (.int p2), .val (.int p3), .val (.int p4), .val (.int p5), .val (.int p6), .val (.int (rF p1 p3)), .val (.int (rF p2 p4)), .val (.ref b12), .val (.int (p5 &&& (7 : Int32))), .val (.int (lF (rF p1 p3) p6)), .val (.int p2), .val (.int (rF p1 p3)), .val (.int (rF p2 p4)), .val (.ref b51), .val (.int (0 : Int32))] [(.ref b12)])) _
              refine XS.aload X59.here hx rfl (hb hby at_301) rfl rfl ?_
              exact k)
            obtain ⟨cq76, kq76, q76a, q76b, q76c⟩ := isOf hZ rfl f60
            obtain ⟨_, _, ⟨T76, L76, k76, n76⟩, -, X76, ⟨Lc76, hQ76, l76, y76, z76⟩, st76⟩ := X59.virtualBack hx (y := (⟨"com/example/blynds/blynds/engine/Rect", "equals", "(Ljava/lang/Object;)Z"⟩ : MethodName)) (z := (⟨"com/example/blynds/blynds/engine/Rect", "equals", "(Ljava/lang/Object;)Z"⟩ : MethodName)) hown (mvT hZ (hw _ (List.mem_of_getElem? (i := 24) rfl))) (mvT hZ (hw _ (List.mem_of_getElem? (i := 25) rfl))) (notFace_of_selects (args := #[]) (mvT hZ (hw _ (List.mem_of_getElem? (i := 27) rfl)))) (mvT hZ (hw _ (List.mem_of_getElem? (i := 27) rfl))) (mvT hZ (hw _ (List.mem_of_getElem? (i := 26) rfl))) (by decide) (backOf (W := 0) (rm_eqobj l Z a0 hw [] b12 b51 p1 p2 (rF p1 p3) (rF p2 p4) (lF (rF p1 p3) p6) p2 (rF p1 p3) (rF p2 p4) T59.heap n0 Z59 O59 r59_0 f61 f62 f63 f64 r59_1 r59_2 r59_3 r59_4 neb12_b51) hZ (hw _ (List.mem_of_getElem? (i := 28) rfl)) (hw _ (List.mem_of_getElem? (i := 8) rfl)) (by decide) (by decide)) q76a q76c (g := (mkF m 303 #[.val (.int p1), .val (.int p2), .val (.int p3), .val (.int p4), .val (.int p5), .val (.int p6), .val (.int (rF p1 p3)), .val (.int (rF p2 p4)), .val (.ref b12), .val (.int (p5 &&& (7 : Int32))), .val (.int (lF (rF p1 p3) p6)), .val (.int p2), .val (.int (rF p1 p3)), .val (.int (rF p2 p4)), .val (.ref b51), .val (.int (0 : Int32))] [(.ref b51), (.ref b12)])) rfl (by rw [hml]; rfl) (Steps.refl _) (argsL := [(.ref b51)]) (rest := []) (lenOf pd_4 rfl) rfl (by show 2 * 0 + _ ≤ _; exact Nat.le_of_eq rfl) (hb hby at_303) (fun _ _ => ⟨rfl, rfl, (by decide : 2 + 0 ≤ _), (by decide : 8 + 0 ≤ _)⟩)
            dsimp only [Pt.U, Pt.locs, Pt.cells, Pt.slots] at X76 l76 y76 z76 st76 hQ76
            subst l76 y76 z76
            obtain ⟨hv76, N76q, e76⟩ := hQ76
            rw [(show (eqNF p1 p2 (rF p1 p3) (rF p2 p4) (lF (rF p1 p3) p6) p2 (rF p1 p3) (rF p2 p4)) = (0 : Int32) from (own_eq_no (fun q => hc269_67 (q.1))))] at hv76
            subst hv76
            have N76 := Fr.app N59 N76q
            have pre77 : ∀ t, Steps p.tables e below (T76.setTop (mkF m 306 #[.val (.int p1), .val (.int p2), .val (.int p3), .val (.int p4), .val (.int p5), .val (.int p6), .val (.int (rF p1 p3)), .val (.int (rF p2 p4)), .val (.ref b12), .val (.int (p5 &&& (7 : Int32))), .val (.int (lF (rF p1 p3) p6)), .val (.int p2), .val (.int (rF p1 p3)), .val (.int (rF p2 p4)), .val (.ref b51), .val (.int (0 : Int32))] [(.int (0 : Int32))])) t → Steps p.tables e below (s₁.setTop (entryFrame m #[(.int p1), (.int p2), (.int p3), (.int p4), (.int p5), (.int p6)] maxLocals)) t := fun t k => pre75 t (st76.trans k)
            have pre78 : ∀ t, Steps p.tables e below (T76.setTop (mkF m 315 #[.val (.int p1), .val (.int p2), .val (.int p3), .val (.int p4), .val (.int p5), .val (.int p6), .val (.int (rF p1 p3)), .val (.int (rF p2 p4)), .val (.ref b12), .val (.int (p5 &&& (7 : Int32))), .val (.int (lF (rF p1 p3) p6)), .val (.int p2), .val (.int (rF p1 p3)), .val (.int (rF p2 p4)), .val (.ref b51), .val (.int (0 : Int32))] [(.ref b12), (.ref b51)])) t → Steps p.tables e below (s₁.setTop (entryFrame m #[(.int p1), (.int p2), (.int p3), (.int p4), (.int p5), (.int p6)] maxLocals)) t := fun t k => pre77 t (by
              show Steps p.tables e below (T76.setTop (mkF m 306 #[.val (.int p1), .val (.int p2), .val (.int p3), .val (.int p4), .val (.int p5), .val (.int p6), .val (.int (rF p1 p3)), .val (.int (rF p2 p4)), .val (.ref b12), .val (.int (p5 &&& (7 : Int32))), .val (.int (lF (rF p1 p3) p6)), .val (.int p2), .val (.int (rF p1 p3)), .val (.int (rF p2 p4)), .val (.ref b51), .val (.int (0 : Int32))] [(.int (0 : Int32))])) _
              refine XS.iload X76.here hx rfl (hb hby at_306) rfl ?_
              show Steps p.tables e below (T76.setTop (mkF m 308 #[.val (.int p1), .val (.int p2), .val (.int p3), .val (.int p4), .val (.int p5), .val (.int p6), .val (.int (rF p1 p3)), .val (.int (rF p2 p4)), .val (.ref b12), .val (.int (p5 &&& (7 : Int32))), .val (.int (lF (rF p1 p3) p6)), .val (.int p2), .val (.int (rF p1 p3)), .val (.int (rF p2 p4)), .val (.ref b51), .val (.int (0 : Int32))] [(.int (0 : Int32)), (.int (0 : Int32))])) _
              refine XS.icmpNo X76.here hx rfl (hb hby at_308) rfl (teq (by decide : (0 : Int32) = (0 : Int32))).2 ?_
              show Steps p.tables e below (T76.setTop (mkF m 311 #[.val (.int p1), .val (.int p2), .val (.int p3), .val (.int p4), .val (.int p5), .val (.int p6), .val (.int (rF p1 p3)), .val (.int (rF p2 p4)), .val (.ref b12), .val (.int (p5 &&& (7 : Int32))), .val (.int (lF (rF p1 p3) p6)), .val (.int p2), .val (.int (rF p1 p3)), .val (.int (rF p2 p4)), .val (.ref b51), .val (.int (0 : Int32))] [])) _
              refine XS.aload X76.here hx rfl (hb hby at_311) rfl rfl ?_
              show Steps p.tables e below (T76.setTop (mkF m 313 #[.val (.int p1), .val (.int p2), .val (.int p3), .val (.int p4), .val (.int p5), .val (.int p6), .val (.int (rF p1 p3)), .val (.int (rF p2 p4)), .val (.ref b12), .val (.int (p5 &&& (7 : Int32))), .val (.int (lF (rF p1 p3) p6)), .val (.int p2), .val (.int (rF p1 p3)), .val (.int (rF p2 p4)), .val (.ref b51), .val (.int (0 : Int32))] [(.ref b51)])) _
              refine XS.aload X76.here hx rfl (hb hby at_313) rfl rfl ?_
              exact k)
            obtain ⟨cq79, kq79, q79a, q79b, q79c⟩ := isOf hZ e76 r59_0
            obtain ⟨_, _, ⟨T79, L79, k79, n79⟩, -, X79, ⟨Lc79, hQ79, l79, y79, z79⟩, st79⟩ := X76.virtualBack hx (y := (⟨"com/example/blynds/blynds/engine/Rect", "equals", "(Ljava/lang/Object;)Z"⟩ : MethodName)) (z := (⟨"com/example/blynds/blynds/engine/Rect", "equals", "(Ljava/lang/Object;)Z"⟩ : MethodName)) hown (mvT hZ (hw _ (List.mem_of_getElem? (i := 24) rfl))) (mvT hZ (hw _ (List.mem_of_getElem? (i := 25) rfl))) (notFace_of_selects (args := #[]) (mvT hZ (hw _ (List.mem_of_getElem? (i := 27) rfl)))) (mvT hZ (hw _ (List.mem_of_getElem? (i := 27) rfl))) (mvT hZ (hw _ (List.mem_of_getElem? (i := 26) rfl))) (by decide) (backOf (W := 0) (rm_eqobj l Z a0 hw [] b51 b12 (lF (rF p1 p3) p6) p2 (rF p1 p3) (rF p2 p4) p1 p2 (rF p1 p3) (rF p2 p4) T59.heap n0 Z59 O59 f60 r59_1 r59_2 r59_3 r59_4 f61 f62 f63 f64 (Ne.symm neb12_b51)) hZ (hw _ (List.mem_of_getElem? (i := 28) rfl)) (hw _ (List.mem_of_getElem? (i := 8) rfl)) (by decide) (by decide)) q79a q79c (g := (mkF m 315 #[.val (.int p1), .val (.int p2), .val (.int p3), .val (.int p4), .val (.int p5), .val (.int p6), .val (.int (rF p1 p3)), .val (.int (rF p2 p4)), .val (.ref b12), .val (.int (p5 &&& (7 : Int32))), .val (.int (lF (rF p1 p3) p6)), .val (.int p2), .val (.int (rF p1 p3)), .val (.int (rF p2 p4)), .val (.ref b51), .val (.int (0 : Int32))] [(.ref b12), (.ref b51)])) rfl (by rw [hml]; rfl) (Steps.refl _) (argsL := [(.ref b12)]) (rest := []) (lenOf pd_4 rfl) rfl (by show 2 * 0 + _ ≤ _; exact Nat.le_of_eq rfl) (hb hby at_315) (fun _ _ => ⟨rfl, e76, (by decide : 2 + 0 ≤ _), (by decide : 8 + 0 ≤ _)⟩)
            dsimp only [Pt.U, Pt.locs, Pt.cells, Pt.slots] at X79 l79 y79 z79 st79 hQ79
            subst l79 y79 z79
            obtain ⟨hv79, N79q, e79⟩ := hQ79
            rw [(show (eqNF (lF (rF p1 p3) p6) p2 (rF p1 p3) (rF p2 p4) p1 p2 (rF p1 p3) (rF p2 p4)) = (0 : Int32) from (own_eq_no (fun q => hc269_67 (q.1).symm)))] at hv79
            subst hv79
            have N79 := Fr.app N76 N79q
            have pre80 : ∀ t, Steps p.tables e below (T79.setTop (mkF m 318 #[.val (.int p1), .val (.int p2), .val (.int p3), .val (.int p4), .val (.int p5), .val (.int p6), .val (.int (rF p1 p3)), .val (.int (rF p2 p4)), .val (.ref b12), .val (.int (p5 &&& (7 : Int32))), .val (.int (lF (rF p1 p3) p6)), .val (.int p2), .val (.int (rF p1 p3)), .val (.int (rF p2 p4)), .val (.ref b51), .val (.int (0 : Int32))] [(.int (0 : Int32))])) t → Steps p.tables e below (s₁.setTop (entryFrame m #[(.int p1), (.int p2), (.int p3), (.int p4), (.int p5), (.int p6)] maxLocals)) t := fun t k => pre78 t (st79.trans k)
            have pre81 : ∀ t, Steps p.tables e below (T79.setTop (mkF m 328 #[.val (.int p1), .val (.int p2), .val (.int p3), .val (.int p4), .val (.int p5), .val (.int p6), .val (.int (rF p1 p3)), .val (.int (rF p2 p4)), .val (.ref b12), .val (.int (p5 &&& (7 : Int32))), .val (.int (lF (rF p1 p3) p6)), .val (.int p2), .val (.int (rF p1 p3)), .val (.int (rF p2 p4)), .val (.ref b51), .val (.int (0 : Int32))] [(.int (1 : Int32))])) t → Steps p.tables e below (s₁.setTop (entryFrame m #[(.int p1), (.int p2), (.int p3), (.int p4), (.int p5), (.int p6)] maxLocals)) t := fun t k => pre80 t (by
              show Steps p.tables e below (T79.setTop (mkF m 318 #[.val (.int p1), .val (.int p2), .val (.int p3), .val (.int p4), .val (.int p5), .val (.int p6), .val (.int (rF p1 p3)), .val (.int (rF p2 p4)), .val (.ref b12), .val (.int (p5 &&& (7 : Int32))), .val (.int (lF (rF p1 p3) p6)), .val (.int p2), .val (.int (rF p1 p3)), .val (.int (rF p2 p4)), .val (.ref b51), .val (.int (0 : Int32))] [(.int (0 : Int32))])) _
              refine XS.iload X79.here hx rfl (hb hby at_318) rfl ?_
              show Steps p.tables e below (T79.setTop (mkF m 320 #[.val (.int p1), .val (.int p2), .val (.int p3), .val (.int p4), .val (.int p5), .val (.int p6), .val (.int (rF p1 p3)), .val (.int (rF p2 p4)), .val (.ref b12), .val (.int (p5 &&& (7 : Int32))), .val (.int (lF (rF p1 p3) p6)), .val (.int p2), .val (.int (rF p1 p3)), .val (.int (rF p2 p4)), .val (.ref b51), .val (.int (0 : Int32))] [(.int (0 : Int32)), (.int (0 : Int32))])) _
              refine XS.icmpNo X79.here hx rfl (hb hby at_320) rfl (teq (by decide : (0 : Int32) = (0 : Int32))).2 ?_
              show Steps p.tables e below (T79.setTop (mkF m 323 #[.val (.int p1), .val (.int p2), .val (.int p3), .val (.int p4), .val (.int p5), .val (.int p6), .val (.int (rF p1 p3)), .val (.int (rF p2 p4)), .val (.ref b12), .val (.int (p5 &&& (7 : Int32))), .val (.int (lF (rF p1 p3) p6)), .val (.int p2), .val (.int (rF p1 p3)), .val (.int (rF p2 p4)), .val (.ref b51), .val (.int (0 : Int32))] [])) _
              refine XS.iconst X79.here hx rfl (hb hby at_323) ?_
              show Steps p.tables e below (T79.setTop (mkF m 324 #[.val (.int p1), .val (.int p2), .val (.int p3), .val (.int p4), .val (.int p5), .val (.int p6), .val (.int (rF p1 p3)), .val (.int (rF p2 p4)), .val (.ref b12), .val (.int (p5 &&& (7 : Int32))), .val (.int (lF (rF p1 p3) p6)), .val (.int p2), .val (.int (rF p1 p3)), .val (.int (rF p2 p4)), .val (.ref b51), .val (.int (0 : Int32))] [(.int (1 : Int32))])) _
              refine XS.goto X79.here hx rfl (pc0 := 324) (pc' := 328) rfl (hb hby at_324) (by decide) (by decide) ?_
              exact k)
            obtain ⟨fs, hr, hrun, hended, hW, hsame⟩ := X79.leave (v := some (.int (1 : Int32))) (fun h => by rw [Bd.returns] at h; cases h)
            refine ⟨_, _, pre81 _ ?_, hrun, hended, _, _, rfl, ?_, ⟨_, rfl⟩, hW, hsame.mono (by decide) (by decide)⟩
            · exact retN X79 hx (t := .boolean) Bd.returns (by simp) (hb hby at_328) hr
            · show Q_rm_law Z p1 p2 p3 p4 p5 p6 cA cl h0 n0 _ T79.heap _
              rw [e79]
              exact ⟨rfl, N79⟩
        · have pre82 : ∀ t, Steps p.tables e below (T15.setTop (mkF m 166 #[.val (.int p1), .val (.int p2), .val (.int p3), .val (.int p4), .val (.int p5), .val (.int p6), .val (.int (rF p1 p3)), .val (.int (rF p2 p4)), .val (.ref b12), .val (.int (p5 &&& (7 : Int32))), .val (.int p1), .val (.int p2), .val (.int (rF p1 p3)), .val (.int (rF p2 p4)), .unset, .unset] [(.int (2 : Int32)), (.int (p5 &&& (7 : Int32)))])) t → Steps p.tables e below (s₁.setTop (entryFrame m #[(.int p1), (.int p2), (.int p3), (.int p4), (.int p5), (.int p6)] maxLocals)) t := fun t k => pre41 t (by
            show Steps p.tables e below (T15.setTop (mkF m 135 #[.val (.int p1), .val (.int p2), .val (.int p3), .val (.int p4), .val (.int p5), .val (.int p6), .val (.int (rF p1 p3)), .val (.int (rF p2 p4)), .val (.ref b12), .val (.int (p5 &&& (7 : Int32))), .val (.int p1), .val (.int p2), .val (.int (rF p1 p3)), .val (.int (rF p2 p4)), .unset, .unset] [(.int (1 : Int32)), (.int (p5 &&& (7 : Int32)))])) _
            refine XS.icmpYes X15.here hx rfl (pc0 := 135) (pc' := 163) rfl (hb hby at_135) rfl (feq hc135_42).2 (by decide) (by decide) ?_
            show Steps p.tables e below (T15.setTop (mkF m 163 #[.val (.int p1), .val (.int p2), .val (.int p3), .val (.int p4), .val (.int p5), .val (.int p6), .val (.int (rF p1 p3)), .val (.int (rF p2 p4)), .val (.ref b12), .val (.int (p5 &&& (7 : Int32))), .val (.int p1), .val (.int p2), .val (.int (rF p1 p3)), .val (.int (rF p2 p4)), .unset, .unset] [])) _
            refine XS.iload X15.here hx rfl (hb hby at_163) rfl ?_
            show Steps p.tables e below (T15.setTop (mkF m 165 #[.val (.int p1), .val (.int p2), .val (.int p3), .val (.int p4), .val (.int p5), .val (.int p6), .val (.int (rF p1 p3)), .val (.int (rF p2 p4)), .val (.ref b12), .val (.int (p5 &&& (7 : Int32))), .val (.int p1), .val (.int p2), .val (.int (rF p1 p3)), .val (.int (rF p2 p4)), .unset, .unset] [(.int (p5 &&& (7 : Int32)))])) _
            refine XS.iconst X15.here hx rfl (hb hby at_165) ?_
            exact k)
          by_cases hc166_83 : (p5 &&& (7 : Int32)) = (2 : Int32)
          · have pre84 : ∀ t, Steps p.tables e below (T15.setTop (mkF m 182 #[.val (.int p1), .val (.int p2), .val (.int p3), .val (.int p4), .val (.int p5), .val (.int p6), .val (.int (rF p1 p3)), .val (.int (rF p2 p4)), .val (.ref b12), .val (.int (p5 &&& (7 : Int32))), .val (.int p1), .val (.int p2), .val (.int (rF p1 p3)), .val (.int (rF p2 p4)), .unset, .unset] [(.long ((rF p2 p4).toInt64)), (.long (p6.toInt64)), (.long (((rF p2 p4).toInt64) - (2147483647 : Int64)))])) t → Steps p.tables e below (s₁.setTop (entryFrame m #[(.int p1), (.int p2), (.int p3), (.int p4), (.int p5), (.int p6)] maxLocals)) t := fun t k => pre82 t (by
              show Steps p.tables e below (T15.setTop (mkF m 166 #[.val (.int p1), .val (.int p2), .val (.int p3), .val (.int p4), .val (.int p5), .val (.int p6), .val (.int (rF p1 p3)), .val (.int (rF p2 p4)), .val (.ref b12), .val (.int (p5 &&& (7 : Int32))), .val (.int p1), .val (.int p2), .val (.int (rF p1 p3)), .val (.int (rF p2 p4)), .unset, .unset] [(.int (2 : Int32)), (.int (p5 &&& (7 : Int32)))])) _
              refine XS.icmpNo X15.here hx rfl (hb hby at_166) rfl (teq hc166_83).2 ?_
              show Steps p.tables e below (T15.setTop (mkF m 169 #[.val (.int p1), .val (.int p2), .val (.int p3), .val (.int p4), .val (.int p5), .val (.int p6), .val (.int (rF p1 p3)), .val (.int (rF p2 p4)), .val (.ref b12), .val (.int (p5 &&& (7 : Int32))), .val (.int p1), .val (.int p2), .val (.int (rF p1 p3)), .val (.int (rF p2 p4)), .unset, .unset] [])) _
              refine XS.iload X15.here hx rfl (hb hby at_169) rfl ?_
              show Steps p.tables e below (T15.setTop (mkF m 171 #[.val (.int p1), .val (.int p2), .val (.int p3), .val (.int p4), .val (.int p5), .val (.int p6), .val (.int (rF p1 p3)), .val (.int (rF p2 p4)), .val (.ref b12), .val (.int (p5 &&& (7 : Int32))), .val (.int p1), .val (.int p2), .val (.int (rF p1 p3)), .val (.int (rF p2 p4)), .unset, .unset] [(.int (rF p2 p4))])) _
              refine XS.i2l X15.here hx rfl (hb hby at_171) rfl ?_
              show Steps p.tables e below (T15.setTop (mkF m 172 #[.val (.int p1), .val (.int p2), .val (.int p3), .val (.int p4), .val (.int p5), .val (.int p6), .val (.int (rF p1 p3)), .val (.int (rF p2 p4)), .val (.ref b12), .val (.int (p5 &&& (7 : Int32))), .val (.int p1), .val (.int p2), .val (.int (rF p1 p3)), .val (.int (rF p2 p4)), .unset, .unset] [(.long ((rF p2 p4).toInt64))])) _
              refine X15.ldc2Long hx hown (mvT hZ (hw _ (List.mem_of_getElem? (i := 1) rfl))) (g := (mkF m 172 #[.val (.int p1), .val (.int p2), .val (.int p3), .val (.int p4), .val (.int p5), .val (.int p6), .val (.int (rF p1 p3)), .val (.int (rF p2 p4)), .val (.ref b12), .val (.int (p5 &&& (7 : Int32))), .val (.int p1), .val (.int p2), .val (.int (rF p1 p3)), .val (.int (rF p2 p4)), .unset, .unset] [(.long ((rF p2 p4).toInt64))])) rfl (hb hby at_172) _ ?_
              show Steps p.tables e below (T15.setTop (mkF m 175 #[.val (.int p1), .val (.int p2), .val (.int p3), .val (.int p4), .val (.int p5), .val (.int p6), .val (.int (rF p1 p3)), .val (.int (rF p2 p4)), .val (.ref b12), .val (.int (p5 &&& (7 : Int32))), .val (.int p1), .val (.int p2), .val (.int (rF p1 p3)), .val (.int (rF p2 p4)), .unset, .unset] [(.long (2147483647 : Int64)), (.long ((rF p2 p4).toInt64))])) _
              refine XS.lsub X15.here hx rfl (hb hby at_175) rfl ?_
              show Steps p.tables e below (T15.setTop (mkF m 176 #[.val (.int p1), .val (.int p2), .val (.int p3), .val (.int p4), .val (.int p5), .val (.int p6), .val (.int (rF p1 p3)), .val (.int (rF p2 p4)), .val (.ref b12), .val (.int (p5 &&& (7 : Int32))), .val (.int p1), .val (.int p2), .val (.int (rF p1 p3)), .val (.int (rF p2 p4)), .unset, .unset] [(.long (((rF p2 p4).toInt64) - (2147483647 : Int64)))])) _
              refine XS.iload X15.here hx rfl (hb hby at_176) rfl ?_
              show Steps p.tables e below (T15.setTop (mkF m 178 #[.val (.int p1), .val (.int p2), .val (.int p3), .val (.int p4), .val (.int p5), .val (.int p6), .val (.int (rF p1 p3)), .val (.int (rF p2 p4)), .val (.ref b12), .val (.int (p5 &&& (7 : Int32))), .val (.int p1), .val (.int p2), .val (.int (rF p1 p3)), .val (.int (rF p2 p4)), .unset, .unset] [(.int p6), (.long (((rF p2 p4).toInt64) - (2147483647 : Int64)))])) _
              refine XS.i2l X15.here hx rfl (hb hby at_178) rfl ?_
              show Steps p.tables e below (T15.setTop (mkF m 179 #[.val (.int p1), .val (.int p2), .val (.int p3), .val (.int p4), .val (.int p5), .val (.int p6), .val (.int (rF p1 p3)), .val (.int (rF p2 p4)), .val (.ref b12), .val (.int (p5 &&& (7 : Int32))), .val (.int p1), .val (.int p2), .val (.int (rF p1 p3)), .val (.int (rF p2 p4)), .unset, .unset] [(.long (p6.toInt64)), (.long (((rF p2 p4).toInt64) - (2147483647 : Int64)))])) _
              refine XS.iload X15.here hx rfl (hb hby at_179) rfl ?_
              show Steps p.tables e below (T15.setTop (mkF m 181 #[.val (.int p1), .val (.int p2), .val (.int p3), .val (.int p4), .val (.int p5), .val (.int p6), .val (.int (rF p1 p3)), .val (.int (rF p2 p4)), .val (.ref b12), .val (.int (p5 &&& (7 : Int32))), .val (.int p1), .val (.int p2), .val (.int (rF p1 p3)), .val (.int (rF p2 p4)), .unset, .unset] [(.int (rF p2 p4)), (.long (p6.toInt64)), (.long (((rF p2 p4).toInt64) - (2147483647 : Int64)))])) _
              refine XS.i2l X15.here hx rfl (hb hby at_181) rfl ?_
              exact k)
            obtain ⟨_, _, ⟨T85, L85, k85, n85⟩, -, X85, ⟨Lc85, hQ85, l85, y85, z85⟩, st85⟩ := Jvm.LawKit.callS X15 hx (y := (⟨"java/lang/Math", "min", "(JJ)J"⟩ : MethodName)) hown (mvT hZ (hw _ (List.mem_of_getElem? (i := 2) rfl))) (mvT hZ (hw _ (List.mem_of_getElem? (i := 3) rfl))) (mvT hZ (hw _ (List.mem_of_getElem? (i := 4) rfl))) (mvT hZ (hw _ (List.mem_of_getElem? (i := 5) rfl))) (by decide) (backOf (W := 2) (rm_min l Z a0 hw [] (p6.toInt64) ((rF p2 p4).toInt64) T15.heap n0 Z15 O15) hZ (hw _ (List.mem_of_getElem? (i := 5) rfl)) (hw _ (List.mem_of_getElem? (i := 4) rfl)) (by decide) (by decide)) (g := (mkF m 182 #[.val (.int p1), .val (.int p2), .val (.int p3), .val (.int p4), .val (.int p5), .val (.int p6), .val (.int (rF p1 p3)), .val (.int (rF p2 p4)), .val (.ref b12), .val (.int (p5 &&& (7 : Int32))), .val (.int p1), .val (.int p2), .val (.int (rF p1 p3)), .val (.int (rF p2 p4)), .unset, .unset] [(.long ((rF p2 p4).toInt64)), (.long (p6.toInt64)), (.long (((rF p2 p4).toInt64) - (2147483647 : Int64)))])) rfl (by rw [hml]; rfl) (argsL := [(.long (p6.toInt64)), (.long ((rF p2 p4).toInt64))]) (rest := [(.long (((rF p2 p4).toInt64) - (2147483647 : Int64)))]) (lenOf pd_2 rfl) rfl (by show 2 * 0 + _ ≤ _; exact Nat.le_of_eq rfl) (hb hby at_182) (fun _ _ => ⟨rfl, rfl, (by decide : 1 + 0 ≤ _), (by decide : 4 + 0 ≤ _)⟩)
            dsimp only [Pt.U, Pt.locs, Pt.cells, Pt.slots] at X85 l85 y85 z85 st85 hQ85
            subst l85 y85 z85
            obtain ⟨rfl, N85q, e85⟩ := hQ85
            have N85 := Fr.app N15 N85q
            have pre86 : ∀ t, Steps p.tables e below (T85.setTop (mkF m 185 #[.val (.int p1), .val (.int p2), .val (.int p3), .val (.int p4), .val (.int p5), .val (.int p6), .val (.int (rF p1 p3)), .val (.int (rF p2 p4)), .val (.ref b12), .val (.int (p5 &&& (7 : Int32))), .val (.int p1), .val (.int p2), .val (.int (rF p1 p3)), .val (.int (rF p2 p4)), .unset, .unset] [(.long (minJ (p6.toInt64) ((rF p2 p4).toInt64))), (.long (((rF p2 p4).toInt64) - (2147483647 : Int64)))])) t → Steps p.tables e below (s₁.setTop (entryFrame m #[(.int p1), (.int p2), (.int p3), (.int p4), (.int p5), (.int p6)] maxLocals)) t := fun t k => pre84 t (st85 t k)
            obtain ⟨_, _, ⟨T87, L87, k87, n87⟩, -, X87, ⟨Lc87, hQ87, l87, y87, z87⟩, st87⟩ := Jvm.LawKit.callS X85 hx (y := (⟨"java/lang/Math", "max", "(JJ)J"⟩ : MethodName)) hown (mvT hZ (hw _ (List.mem_of_getElem? (i := 31) rfl))) (mvT hZ (hw _ (List.mem_of_getElem? (i := 32) rfl))) (mvT hZ (hw _ (List.mem_of_getElem? (i := 4) rfl))) (mvT hZ (hw _ (List.mem_of_getElem? (i := 33) rfl))) (by decide) (backOf (W := 0) (rm_max l Z a0 hw [] (((rF p2 p4).toInt64) - (2147483647 : Int64)) (minJ (p6.toInt64) ((rF p2 p4).toInt64)) T15.heap n0 Z15 O15) hZ (hw _ (List.mem_of_getElem? (i := 33) rfl)) (hw _ (List.mem_of_getElem? (i := 4) rfl)) (by decide) (by decide)) (g := (mkF m 185 #[.val (.int p1), .val (.int p2), .val (.int p3), .val (.int p4), .val (.int p5), .val (.int p6), .val (.int (rF p1 p3)), .val (.int (rF p2 p4)), .val (.ref b12), .val (.int (p5 &&& (7 : Int32))), .val (.int p1), .val (.int p2), .val (.int (rF p1 p3)), .val (.int (rF p2 p4)), .unset, .unset] [(.long (minJ (p6.toInt64) ((rF p2 p4).toInt64))), (.long (((rF p2 p4).toInt64) - (2147483647 : Int64)))])) rfl (by rw [hml]; rfl) (argsL := [(.long (((rF p2 p4).toInt64) - (2147483647 : Int64))), (.long (minJ (p6.toInt64) ((rF p2 p4).toInt64)))]) (rest := []) (lenOf pd_2 rfl) rfl (by show 2 * 0 + _ ≤ _; exact Nat.le_of_eq rfl) (hb hby at_185) (fun _ _ => ⟨rfl, e85, (by decide : 1 + 0 ≤ _), (by decide : 4 + 0 ≤ _)⟩)
            dsimp only [Pt.U, Pt.locs, Pt.cells, Pt.slots] at X87 l87 y87 z87 st87 hQ87
            subst l87 y87 z87
            obtain ⟨rfl, N87q, e87⟩ := hQ87
            have N87 := Fr.app N85 N87q
            have pre88 : ∀ t, Steps p.tables e below (T87.setTop (mkF m 188 #[.val (.int p1), .val (.int p2), .val (.int p3), .val (.int p4), .val (.int p5), .val (.int p6), .val (.int (rF p1 p3)), .val (.int (rF p2 p4)), .val (.ref b12), .val (.int (p5 &&& (7 : Int32))), .val (.int p1), .val (.int p2), .val (.int (rF p1 p3)), .val (.int (rF p2 p4)), .unset, .unset] [(.long (maxJ (((rF p2 p4).toInt64) - (2147483647 : Int64)) (minJ (p6.toInt64) ((rF p2 p4).toInt64))))])) t → Steps p.tables e below (s₁.setTop (entryFrame m #[(.int p1), (.int p2), (.int p3), (.int p4), (.int p5), (.int p6)] maxLocals)) t := fun t k => pre86 t (st87 t k)
            have pre89 : ∀ t, Steps p.tables e below (T87.setTop (mkF m 189 #[.val (.int p1), .val (.int p2), .val (.int p3), .val (.int p4), .val (.int p5), .val (.int p6), .val (.int (rF p1 p3)), .val (.int (rF p2 p4)), .val (.ref b12), .val (.int (p5 &&& (7 : Int32))), .val (.int p1), .val (.int p2), .val (.int (rF p1 p3)), .val (.int (rF p2 p4)), .unset, .unset] [(.int ((maxJ (((rF p2 p4).toInt64) - (2147483647 : Int64)) (minJ (p6.toInt64) ((rF p2 p4).toInt64))).toInt32))])) t → Steps p.tables e below (s₁.setTop (entryFrame m #[(.int p1), (.int p2), (.int p3), (.int p4), (.int p5), (.int p6)] maxLocals)) t := fun t k => pre88 t (by
              show Steps p.tables e below (T87.setTop (mkF m 188 #[.val (.int p1), .val (.int p2), .val (.int p3), .val (.int p4), .val (.int p5), .val (.int p6), .val (.int (rF p1 p3)), .val (.int (rF p2 p4)), .val (.ref b12), .val (.int (p5 &&& (7 : Int32))), .val (.int p1), .val (.int p2), .val (.int (rF p1 p3)), .val (.int (rF p2 p4)), .unset, .unset] [(.long (maxJ (((rF p2 p4).toInt64) - (2147483647 : Int64)) (minJ (p6.toInt64) ((rF p2 p4).toInt64))))])) _
              refine XS.l2i X87.here hx rfl (hb hby at_188) rfl ?_
              exact k)
            have pre90 : ∀ t, Steps p.tables e below (T87.setTop (mkF m 189 #[.val (.int p1), .val (.int p2), .val (.int p3), .val (.int p4), .val (.int p5), .val (.int p6), .val (.int (rF p1 p3)), .val (.int (rF p2 p4)), .val (.ref b12), .val (.int (p5 &&& (7 : Int32))), .val (.int p1), .val (.int p2), .val (.int (rF p1 p3)), .val (.int (rF p2 p4)), .unset, .unset] [(.int (lF (rF p2 p4) p6))])) t → Steps p.tables e below (s₁.setTop (entryFrame m #[(.int p1), (.int p2), (.int p3), (.int p4), (.int p5), (.int p6)] maxLocals)) t := pre89
            have pre91 : ∀ t, Steps p.tables e below (T87.setTop (mkF m 249 #[.val (.int p1), .val (.int p2), .val (.int p3), .val (.int p4), .val (.int p5), .val (.int p6), .val (.int (rF p1 p3)), .val (.int (rF p2 p4)), .val (.ref b12), .val (.int (p5 &&& (7 : Int32))), .val (.int p1), .val (.int (lF (rF p2 p4) p6)), .val (.int (rF p1 p3)), .val (.int (rF p2 p4)), .unset, .unset] [])) t → Steps p.tables e below (s₁.setTop (entryFrame m #[(.int p1), (.int p2), (.int p3), (.int p4), (.int p5), (.int p6)] maxLocals)) t := fun t k => pre90 t (by
              show Steps p.tables e below (T87.setTop (mkF m 189 #[.val (.int p1), .val (.int p2), .val (.int p3), .val (.int p4), .val (.int p5), .val (.int p6), .val (.int (rF p1 p3)), .val (.int (rF p2 p4)), .val (.ref b12), .val (.int (p5 &&& (7 : Int32))), .val (.int p1), .val (.int p2), .val (.int (rF p1 p3)), .val (.int (rF p2 p4)), .unset, .unset] [(.int (lF (rF p2 p4) p6))])) _
              refine XS.istore X87.here hx rfl (hb hby at_189) rfl (l' := #[.val (.int p1), .val (.int p2), .val (.int p3), .val (.int p4), .val (.int p5), .val (.int p6), .val (.int (rF p1 p3)), .val (.int (rF p2 p4)), .val (.ref b12), .val (.int (p5 &&& (7 : Int32))), .val (.int p1), .val (.int (lF (rF p2 p4) p6)), .val (.int (rF p1 p3)), .val (.int (rF p2 p4)), .unset, .unset]) rfl ?_
              show Steps p.tables e below (T87.setTop (mkF m 191 #[.val (.int p1), .val (.int p2), .val (.int p3), .val (.int p4), .val (.int p5), .val (.int p6), .val (.int (rF p1 p3)), .val (.int (rF p2 p4)), .val (.ref b12), .val (.int (p5 &&& (7 : Int32))), .val (.int p1), .val (.int (lF (rF p2 p4) p6)), .val (.int (rF p1 p3)), .val (.int (rF p2 p4)), .unset, .unset] [])) _
              refine XS.goto X87.here hx rfl (pc0 := 191) (pc' := 249) rfl (hb hby at_191) (by decide) (by decide) ?_
              exact k)
            obtain ⟨T92, h92, X92, e92, E92, A92, D92, -, st92⟩ := newO X87 hx hZ hown (hw _ (List.mem_of_getElem? (i := 6) rfl)) (hw _ (List.mem_of_getElem? (i := 7) rfl)) (hw _ (List.mem_of_getElem? (i := 8) rfl)) e87 (g := (mkF m 249 #[.val (.int p1), .val (.int p2), .val (.int p3), .val (.int p4), .val (.int p5), .val (.int p6), .val (.int (rF p1 p3)), .val (.int (rF p2 p4)), .val (.ref b12), .val (.int (p5 &&& (7 : Int32))), .val (.int p1), .val (.int (lF (rF p2 p4) p6)), .val (.int (rF p1 p3)), .val (.int (rF p2 p4)), .unset, .unset] [])) rfl (hb hby at_249) (by decide) (by decide)
            obtain ⟨b92, g92⟩ : ∃ z, z = T15.heap.size := ⟨_, rfl⟩
            rw [← g92] at A92 D92 st92
            have neb12_b92 : b12 ≠ b92 := Nat.ne_of_lt (Nat.lt_of_lt_of_le r15_0.lt (Nat.le_of_eq g92.symm))
            have f93 := (r15_0.ext E92)
            have f94 := (r15_1.ext E92)
            have f95 := (r15_2.ext E92)
            have f96 := (r15_3.ext E92)
            have f97 := (r15_4.ext E92)
            have F_left_b92 : Fld Z h92 b92 "com/example/blynds/blynds/engine/Rect" "left" "I" (.int (0 : Int32)) := D92 (Or.inr (hw _ (List.mem_of_getElem? (i := 17) rfl))) (ty := .int) (by decide)
            have F_top_b92 : Fld Z h92 b92 "com/example/blynds/blynds/engine/Rect" "top" "I" (.int (0 : Int32)) := D92 (Or.inr (hw _ (List.mem_of_getElem? (i := 19) rfl))) (ty := .int) (by decide)
            have F_right_b92 : Fld Z h92 b92 "com/example/blynds/blynds/engine/Rect" "right" "I" (.int (0 : Int32)) := D92 (Or.inr (hw _ (List.mem_of_getElem? (i := 21) rfl))) (ty := .int) (by decide)
            have F_bottom_b92 : Fld Z h92 b92 "com/example/blynds/blynds/engine/Rect" "bottom" "I" (.int (0 : Int32)) := D92 (Or.inr (hw _ (List.mem_of_getElem? (i := 23) rfl))) (ty := .int) (by decide)
            have g_b92 : n0 ≤ b92 := Nat.le_trans Z15 (Nat.le_of_eq g92.symm)
            have z_b92 : Z.heap.size ≤ b92 := Nat.le_trans O15.1 (Nat.le_of_eq g92.symm)
            have sz_b92 : h0.size ≤ b92 := Nat.le_trans K15.1 (Nat.le_of_eq g92.symm)
            have K92 := K15.ext E92
            have O92 : Ext Z.heap h92 := own_ext_trans O15 E92
            have Z92 : n0 ≤ h92.size := Nat.le_trans Z15 E92.1
            have pre98 : ∀ t, Steps p.tables e below (T92.setTop (mkF m 252 #[.val (.int p1), .val (.int p2), .val (.int p3), .val (.int p4), .val (.int p5), .val (.int p6), .val (.int (rF p1 p3)), .val (.int (rF p2 p4)), .val (.ref b12), .val (.int (p5 &&& (7 : Int32))), .val (.int p1), .val (.int (lF (rF p2 p4) p6)), .val (.int (rF p1 p3)), .val (.int (rF p2 p4)), .unset, .unset] [(.ref b92)])) t → Steps p.tables e below (s₁.setTop (entryFrame m #[(.int p1), (.int p2), (.int p3), (.int p4), (.int p5), (.int p6)] maxLocals)) t := fun t k => pre91 t (st92 t k)
            have pre99 : ∀ t, Steps p.tables e below (T92.setTop (mkF m 261 #[.val (.int p1), .val (.int p2), .val (.int p3), .val (.int p4), .val (.int p5), .val (.int p6), .val (.int (rF p1 p3)), .val (.int (rF p2 p4)), .val (.ref b12), .val (.int (p5 &&& (7 : Int32))), .val (.int p1), .val (.int (lF (rF p2 p4) p6)), .val (.int (rF p1 p3)), .val (.int (rF p2 p4)), .unset, .unset] [(.int (rF p2 p4)), (.int (rF p1 p3)), (.int (lF (rF p2 p4) p6)), (.int p1), (.ref b92), (.ref b92)])) t → Steps p.tables e below (s₁.setTop (entryFrame m #[(.int p1), (.int p2), (.int p3), (.int p4), (.int p5), (.int p6)] maxLocals)) t := fun t k => pre98 t (by
              show Steps p.tables e below (T92.setTop (mkF m 252 #[.val (.int p1), .val (.int p2), .val (.int p3), .val (.int p4), .val (.int p5), .val (.int p6), .val (.int (rF p1 p3)), .val (.int (rF p2 p4)), .val (.ref b12), .val (.int (p5 &&& (7 : Int32))), .val (.int p1), .val (.int (lF (rF p2 p4) p6)), .val (.int (rF p1 p3)), .val (.int (rF p2 p4)), .unset, .unset] [(.ref b92)])) _
              refine XS.dup X92.here hx rfl (hb hby at_252) rfl rfl ?_
              show Steps p.tables e below (T92.setTop (mkF m 253 #[.val (.int p1), .val (.int p2), .val (.int p3), .val (.int p4), .val (.int p5), .val (.int p6), .val (.int (rF p1 p3)), .val (.int (rF p2 p4)), .val (.ref b12), .val (.int (p5 &&& (7 : Int32))), .val (.int p1), .val (.int (lF (rF p2 p4) p6)), .val (.int (rF p1 p3)), .val (.int (rF p2 p4)), .unset, .unset] [(.ref b92), (.ref b92)])) _
              refine XS.iload X92.here hx rfl (hb hby at_253) rfl ?_
              show Steps p.tables e below (T92.setTop (mkF m 255 #[.val (.int p1), .val (.int p2), .val (.int p3), .val (.int p4), .val (.int p5), .val (.int p6), .val (.int (rF p1 p3)), .val (.int (rF p2 p4)), .val (.ref b12), .val (.int (p5 &&& (7 : Int32))), .val (.int p1), .val (.int (lF (rF p2 p4) p6)), .val (.int (rF p1 p3)), .val (.int (rF p2 p4)), .unset, .unset] [(.int p1), (.ref b92), (.ref b92)])) _
              refine XS.iload X92.here hx rfl (hb hby at_255) rfl ?_
              show Steps p.tables e below (T92.setTop (mkF m 257 #[.val (.int p1), .val (.int p2), .val (.int p3), .val (.int p4), .val (.int p5), .val (.int p6), .val (.int (rF p1 p3)), .val (.int (rF p2 p4)), .val (.ref b12), .val (.int (p5 &&& (7 : Int32))), .val (.int p1), .val (.int (lF (rF p2 p4) p6)), .val (.int (rF p1 p3)), .val (.int (rF p2 p4)), .unset, .unset] [(.int (lF (rF p2 p4) p6)), (.int p1), (.ref b92), (.ref b92)])) _
              refine XS.iload X92.here hx rfl (hb hby at_257) rfl ?_
              show Steps p.tables e below (T92.setTop (mkF m 259 #[.val (.int p1), .val (.int p2), .val (.int p3), .val (.int p4), .val (.int p5), .val (.int p6), .val (.int (rF p1 p3)), .val (.int (rF p2 p4)), .val (.ref b12), .val (.int (p5 &&& (7 : Int32))), .val (.int p1), .val (.int (lF (rF p2 p4) p6)), .val (.int (rF p1 p3)), .val (.int (rF p2 p4)), .unset, .unset] [(.int (rF p1 p3)), (.int (lF (rF p2 p4) p6)), (.int p1), (.ref b92), (.ref b92)])) _
              refine XS.iload X92.here hx rfl (hb hby at_259) rfl ?_
              exact k)
            obtain ⟨_, _, ⟨T100, L100, k100, n100⟩, -, X100, ⟨Lc100, hQ100, l100, y100, z100⟩, st100⟩ := X92.specialBack hx (y := (⟨"com/example/blynds/blynds/engine/Rect", "<init>", "(IIII)V"⟩ : MethodName)) rfl hown (mvT hZ (hw _ (List.mem_of_getElem? (i := 9) rfl))) (mvT hZ (hw _ (List.mem_of_getElem? (i := 10) rfl))) (mvT hZ (hw _ (List.mem_of_getElem? (i := 11) rfl))) (by decide) (backOf (W := 1) (rm_rc l Z a0 hw [] b92 p1 (lF (rF p2 p4) p6) (rF p1 p3) (rF p2 p4) h92 n0 Z92 O92 A92 F_left_b92 F_top_b92 F_right_b92 F_bottom_b92 g_b92 z_b92 (own_rF _ _) (own_lF _ _)) hZ (hw _ (List.mem_of_getElem? (i := 11) rfl)) (hw _ (List.mem_of_getElem? (i := 8) rfl)) (by decide) (by decide)) (g := (mkF m 261 #[.val (.int p1), .val (.int p2), .val (.int p3), .val (.int p4), .val (.int p5), .val (.int p6), .val (.int (rF p1 p3)), .val (.int (rF p2 p4)), .val (.ref b12), .val (.int (p5 &&& (7 : Int32))), .val (.int p1), .val (.int (lF (rF p2 p4) p6)), .val (.int (rF p1 p3)), .val (.int (rF p2 p4)), .unset, .unset] [(.int (rF p2 p4)), (.int (rF p1 p3)), (.int (lF (rF p2 p4) p6)), (.int p1), (.ref b92), (.ref b92)])) rfl (by rw [hml]; rfl) (Steps.refl _) (a := b92) (argsL := [(.int p1), (.int (lF (rF p2 p4) p6)), (.int (rF p1 p3)), (.int (rF p2 p4))]) (rest := [(.ref b92)]) (lenOf pd_3 rfl) rfl (by show 2 * 0 + _ ≤ _; exact Nat.le_of_eq rfl) (hb hby at_261) (fun _ _ => ⟨rfl, e92, (by decide : 2 + 0 ≤ _), (by decide : 8 + 0 ≤ _)⟩)
            dsimp only [Pt.U, Pt.locs, Pt.cells, Pt.slots] at X100 l100 y100 z100 st100 hQ100
            subst l100 y100 z100
            obtain ⟨rfl, N100q, Kq100, r100_0, r100_1, r100_2, r100_3, r100_4⟩ := hQ100
            have f101 := (f93.keep Kq100)
            have f102 := (f94.keep Kq100 (ninS neb12_b92 nin0))
            have f103 := (f95.keep Kq100 (ninS neb12_b92 nin0))
            have f104 := (f96.keep Kq100 (ninS neb12_b92 nin0))
            have f105 := (f97.keep Kq100 (ninS neb12_b92 nin0))
            have O100 : Ext Z.heap T100.heap := own_ext_keep O92 Kq100 (allS z_b92 all0)
            have K100 := K92.trans Kq100 (allS (Or.inr sz_b92) all0)
            have Z100 : n0 ≤ T100.heap.size := Nat.le_trans Z92 Kq100.1
            have N100 := Fr.app N87 N100q
            have pre106 : ∀ t, Steps p.tables e below (T100.setTop (mkF m 264 #[.val (.int p1), .val (.int p2), .val (.int p3), .val (.int p4), .val (.int p5), .val (.int p6), .val (.int (rF p1 p3)), .val (.int (rF p2 p4)), .val (.ref b12), .val (.int (p5 &&& (7 : Int32))), .val (.int p1), .val (.int (lF (rF p2 p4) p6)), .val (.int (rF p1 p3)), .val (.int (rF p2 p4)), .unset, .unset] [(.ref b92)])) t → Steps p.tables e below (s₁.setTop (entryFrame m #[(.int p1), (.int p2), (.int p3), (.int p4), (.int p5), (.int p6)] maxLocals)) t := fun t k => pre99 t (st100.trans k)
            have pre107 : ∀ t, Steps p.tables e below (T100.setTop (mkF m 275 #[.val (.int p1), .val (.int p2), .val (.int p3), .val (.int p4), .val (.int p5), .val (.int p6), .val (.int (rF p1 p3)), .val (.int (rF p2 p4)), .val (.ref b12), .val (.int (p5 &&& (7 : Int32))), .val (.int p1), .val (.int (lF (rF p2 p4) p6)), .val (.int (rF p1 p3)), .val (.int (rF p2 p4)), .val (.ref b92), .unset] [(.int (lF (rF p2 p4) p6)), (.int p2)])) t → Steps p.tables e below (s₁.setTop (entryFrame m #[(.int p1), (.int p2), (.int p3), (.int p4), (.int p5), (.int p6)] maxLocals)) t := fun t k => pre106 t (by
              show Steps p.tables e below (T100.setTop (mkF m 264 #[.val (.int p1), .val (.int p2), .val (.int p3), .val (.int p4), .val (.int p5), .val (.int p6), .val (.int (rF p1 p3)), .val (.int (rF p2 p4)), .val (.ref b12), .val (.int (p5 &&& (7 : Int32))), .val (.int p1), .val (.int (lF (rF p2 p4) p6)), .val (.int (rF p1 p3)), .val (.int (rF p2 p4)), .unset, .unset] [(.ref b92)])) _
              refine XS.astore X100.here hx rfl (hb hby at_264) rfl rfl (l' := #[.val (.int p1), .val (.int p2), .val (.int p3), .val (.int p4), .val (.int p5), .val (.int p6), .val (.int (rF p1 p3)), .val (.int (rF p2 p4)), .val (.ref b12), .val (.int (p5 &&& (7 : Int32))), .val (.int p1), .val (.int (lF (rF p2 p4) p6)), .val (.int (rF p1 p3)), .val (.int (rF p2 p4)), .val (.ref b92), .unset]) rfl ?_
              show Steps p.tables e below (T100.setTop (mkF m 266 #[.val (.int p1), .val (.int p2), .val (.int p3), .val (.int p4), .val (.int p5), .val (.int p6), .val (.int (rF p1 p3)), .val (.int (rF p2 p4)), .val (.ref b12), .val (.int (p5 &&& (7 : Int32))), .val (.int p1), .val (.int (lF (rF p2 p4) p6)), .val (.int (rF p1 p3)), .val (.int (rF p2 p4)), .val (.ref b92), .unset] [])) _
              refine XS.iloadN X100.here hx rfl (hb hby at_266) rfl ?_
              show Steps p.tables e below (T100.setTop (mkF m 267 #[.val (.int p1), .val (.int p2), .val (.int p3), .val (.int p4), .val (.int p5), .val (.int p6), .val (.int (rF p1 p3)), .val (.int (rF p2 p4)), .val (.ref b12), .val (.int (p5 &&& (7 : Int32))), .val (.int p1), .val (.int (lF (rF p2 p4) p6)), .val (.int (rF p1 p3)), .val (.int (rF p2 p4)), .val (.ref b92), .unset] [(.int p1)])) _
              refine XS.iload X100.here hx rfl (hb hby at_267) rfl ?_
              show Steps p.tables e below (T100.setTop (mkF m 269 #[.val (.int p1), .val (.int p2), .val (.int p3), .val (.int p4), .val (.int p5), .val (.int p6), .val (.int (rF p1 p3)), .val (.int (rF p2 p4)), .val (.ref b12), .val (.int (p5 &&& (7 : Int32))), .val (.int p1), .val (.int (lF (rF p2 p4) p6)), .val (.int (rF p1 p3)), .val (.int (rF p2 p4)), .val (.ref b92), .unset] [(.int p1), (.int p1)])) _
              refine XS.icmpNo X100.here hx rfl (hb hby at_269) rfl (teq (rfl : p1 = p1)).2 ?_
              show Steps p.tables e below (T100.setTop (mkF m 272 #[.val (.int p1), .val (.int p2), .val (.int p3), .val (.int p4), .val (.int p5), .val (.int p6), .val (.int (rF p1 p3)), .val (.int (rF p2 p4)), .val (.ref b12), .val (.int (p5 &&& (7 : Int32))), .val (.int p1), .val (.int (lF (rF p2 p4) p6)), .val (.int (rF p1 p3)), .val (.int (rF p2 p4)), .val (.ref b92), .unset] [])) _
              refine XS.iloadN X100.here hx rfl (hb hby at_272) rfl ?_
              show Steps p.tables e below (T100.setTop (mkF m 273 #[.val (.int p1), .val (.int p2), .val (.int p3), .val (.int p4), .val (.int p5), .val (.int p6), .val (.int (rF p1 p3)), .val (.int (rF p2 p4)), .val (.ref b12), .val (.int (p5 &&& (7 : Int32))), .val (.int p1), .val (.int (lF (rF p2 p4) p6)), .val (.int (rF p1 p3)), .val (.int (rF p2 p4)), .val (.ref b92), .unset] [(.int p2)])) _
              refine XS.iload X100.here hx rfl (hb hby at_273) rfl ?_
              exact k)
            by_cases hc275_108 : p2 = (lF (rF p2 p4) p6)
            · have pre109 : ∀ t, Steps p.tables e below (T100.setTop (mkF m 303 #[.val (.int p1), .val (.int p2), .val (.int p3), .val (.int p4), .val (.int p5), .val (.int p6), .val (.int (rF p1 p3)), .val (.int (rF p2 p4)), .val (.ref b12), .val (.int (p5 &&& (7 : Int32))), .val (.int p1), .val (.int (lF (rF p2 p4) p6)), .val (.int (rF p1 p3)), .val (.int (rF p2 p4)), .val (.ref b92), .val (.int (1 : Int32))] [(.ref b92), (.ref b12)])) t → Steps p.tables e below (s₁.setTop (entryFrame m #[(.int p1), (.int p2), (.int p3), (.int p4), (.int p5), (.int p6)] maxLocals)) t := fun t k => pre107 t (by
                show Steps p.tables e below (T100.setTop (mkF m 275 #[.val (.int p1), .val (.int p2), .val (.int p3), .val (.int p4), .val (.int p5), .val (.int p6), .val (.int (rF p1 p3)), .val (.int (rF p2 p4)), .val (.ref b12), .val (.int (p5 &&& (7 : Int32))), .val (.int p1), .val (.int (lF (rF p2 p4) p6)), .val (.int (rF p1 p3)), .val (.int (rF p2 p4)), .val (.ref b92), .unset] [(.int (lF (rF p2 p4) p6)), (.int p2)])) _
                refine XS.icmpNo X100.here hx rfl (hb hby at_275) rfl (teq hc275_108).2 ?_
                show Steps p.tables e below (T100.setTop (mkF m 278 #[.val (.int p1), .val (.int p2), .val (.int p3), .val (.int p4), .val (.int p5), .val (.int p6), .val (.int (rF p1 p3)), .val (.int (rF p2 p4)), .val (.ref b12), .val (.int (p5 &&& (7 : Int32))), .val (.int p1), .val (.int (lF (rF p2 p4) p6)), .val (.int (rF p1 p3)), .val (.int (rF p2 p4)), .val (.ref b92), .unset] [])) _
                refine XS.iload X100.here hx rfl (hb hby at_278) rfl ?_
                show Steps p.tables e below (T100.setTop (mkF m 280 #[.val (.int p1), .val (.int p2), .val (.int p3), .val (.int p4), .val (.int p5), .val (.int p6), .val (.int (rF p1 p3)), .val (.int (rF p2 p4)), .val (.ref b12), .val (.int (p5 &&& (7 : Int32))), .val (.int p1), .val (.int (lF (rF p2 p4) p6)), .val (.int (rF p1 p3)), .val (.int (rF p2 p4)), .val (.ref b92), .unset] [(.int (rF p1 p3))])) _
                refine XS.iload X100.here hx rfl (hb hby at_280) rfl ?_
                show Steps p.tables e below (T100.setTop (mkF m 282 #[.val (.int p1), .val (.int p2), .val (.int p3), .val (.int p4), .val (.int p5), .val (.int p6), .val (.int (rF p1 p3)), .val (.int (rF p2 p4)), .val (.ref b12), .val (.int (p5 &&& (7 : Int32))), .val (.int p1), .val (.int (lF (rF p2 p4) p6)), .val (.int (rF p1 p3)), .val (.int (rF p2 p4)), .val (.ref b92), .unset] [(.int (rF p1 p3)), (.int (rF p1 p3))])) _
                refine XS.icmpNo X100.here hx rfl (hb hby at_282) rfl (teq (rfl : (rF p1 p3) = (rF p1 p3))).2 ?_
                show Steps p.tables e below (T100.setTop (mkF m 285 #[.val (.int p1), .val (.int p2), .val (.int p3), .val (.int p4), .val (.int p5), .val (.int p6), .val (.int (rF p1 p3)), .val (.int (rF p2 p4)), .val (.ref b12), .val (.int (p5 &&& (7 : Int32))), .val (.int p1), .val (.int (lF (rF p2 p4) p6)), .val (.int (rF p1 p3)), .val (.int (rF p2 p4)), .val (.ref b92), .unset] [])) _
                refine XS.iload X100.here hx rfl (hb hby at_285) rfl ?_
                show Steps p.tables e below (T100.setTop (mkF m 287 #[.val (.int p1), .val (.int p2), .val (.int p3), .val (.int p4), .val (.int p5), .val (.int p6), .val (.int (rF p1 p3)), .val (.int (rF p2 p4)), .val (.ref b12), .val (.int (p5 &&& (7 : Int32))), .val (.int p1), .val (.int (lF (rF p2 p4) p6)), .val (.int (rF p1 p3)), .val (.int (rF p2 p4)), .val (.ref b92), .unset] [(.int (rF p2 p4))])) _
                refine XS.iload X100.here hx rfl (hb hby at_287) rfl ?_
                show Steps p.tables e below (T100.setTop (mkF m 289 #[.val (.int p1), .val (.int p2), .val (.int p3), .val (.int p4), .val (.int p5), .val (.int p6), .val (.int (rF p1 p3)), .val (.int (rF p2 p4)), .val (.ref b12), .val (.int (p5 &&& (7 : Int32))), .val (.int p1), .val (.int (lF (rF p2 p4) p6)), .val (.int (rF p1 p3)), .val (.int (rF p2 p4)), .val (.ref b92), .unset] [(.int (rF p2 p4)), (.int (rF p2 p4))])) _
                refine XS.icmpNo X100.here hx rfl (hb hby at_289) rfl (teq (rfl : (rF p2 p4) = (rF p2 p4))).2 ?_
                show Steps p.tables e below (T100.setTop (mkF m 292 #[.val (.int p1), .val (.int p2), .val (.int p3), .val (.int p4), .val (.int p5), .val (.int p6), .val (.int (rF p1 p3)), .val (.int (rF p2 p4)), .val (.ref b12), .val (.int (p5 &&& (7 : Int32))), .val (.int p1), .val (.int (lF (rF p2 p4) p6)), .val (.int (rF p1 p3)), .val (.int (rF p2 p4)), .val (.ref b92), .unset] [])) _
                refine XS.iconst X100.here hx rfl (hb hby at_292) ?_
                show Steps p.tables e below (T100.setTop (mkF m 293 #[.val (.int p1), .val (.int p2), .val (.int p3), .val (.int p4), .val (.int p5), .val (.int p6), .val (.int (rF p1 p3)), .val (.int (rF p2 p4)), .val (.ref b12), .val (.int (p5 &&& (7 : Int32))), .val (.int p1), .val (.int (lF (rF p2 p4) p6)), .val (.int (rF p1 p3)), .val (.int (rF p2 p4)), .val (.ref b92), .unset] [(.int (1 : Int32))])) _
                refine XS.goto X100.here hx rfl (pc0 := 293) (pc' := 297) rfl (hb hby at_293) (by decide) (by decide) ?_
                show Steps p.tables e below (T100.setTop (mkF m 297 #[.val (.int p1), .val (.int p2), .val (.int p3), .val (.int p4), .val (.int p5), .val (.int p6), .val (.int (rF p1 p3)), .val (.int (rF p2 p4)), .val (.ref b12), .val (.int (p5 &&& (7 : Int32))), .val (.int p1), .val (.int (lF (rF p2 p4) p6)), .val (.int (rF p1 p3)), .val (.int (rF p2 p4)), .val (.ref b92), .unset] [(.int (1 : Int32))])) _
                refine XS.istore X100.here hx rfl (hb hby at_297) rfl (l' := #[.val (.int p1), .val (.int p2), .val (.int p3), .val (.int p4), .val (.int p5), .val (.int p6), .val (.int (rF p1 p3)), .val (.int (rF p2 p4)), .val (.ref b12), .val (.int (p5 &&& (7 : Int32))), .val (.int p1), .val (.int (lF (rF p2 p4) p6)), .val (.int (rF p1 p3)), .val (.int (rF p2 p4)), .val (.ref b92), .val (.int (1 : Int32))]) rfl ?_
                show Steps p.tables e below (T100.setTop (mkF m 299 #[.val (.int p1), .val (.int p2), .val (.int p3), .val (.int p4), .val (.int p5), .val (.int p6), .val (.int (rF p1 p3)), .val (.int (rF p2 p4)), .val (.ref b12), .val (.int (p5 &&& (7 : Int32))), .val (.int p1), .val (.int (lF (rF p2 p4) p6)), .val (.int (rF p1 p3)), .val (.int (rF p2 p4)), .val (.ref b92), .val (.int (1 : Int32))] [])) _
                refine XS.aload X100.here hx rfl (hb hby at_299) rfl rfl ?_
                show Steps p.tables e below (T100.setTop (mkF m 301 #[.val (.int p1), .val (.int p2), .val (.int p3), .val (.int p4), .val (.int p5), .val (.int p6), .val (.int (rF p1 p3)), .val (.int (rF p2 p4)), .val (.ref b12), .val (.int (p5 &&& (7 : Int32))), .val (.int p1), .val (.int (lF (rF p2 p4) p6)), .val (.int (rF p1 p3)), .val (.int (rF p2 p4)), .val (.ref b92), .val (.int (1 : Int32))] [(.ref b12)])) _
                refine XS.aload X100.here hx rfl (hb hby at_301) rfl rfl ?_
                exact k)
              obtain ⟨cq110, kq110, q110a, q110b, q110c⟩ := isOf hZ rfl f101
              obtain ⟨_, _, ⟨T110, L110, k110, n110⟩, -, X110, ⟨Lc110, hQ110, l110, y110, z110⟩, st110⟩ := X100.virtualBack hx (y := (⟨"com/example/blynds/blynds/engine/Rect", "equals", "(Ljava/lang/Object;)Z"⟩ : MethodName)) (z := (⟨"com/example/blynds/blynds/engine/Rect", "equals", "(Ljava/lang/Object;)Z"⟩ : MethodName)) hown (mvT hZ (hw _ (List.mem_of_getElem? (i := 24) rfl))) (mvT hZ (hw _ (List.mem_of_getElem? (i := 25) rfl))) (notFace_of_selects (args := #[]) (mvT hZ (hw _ (List.mem_of_getElem? (i := 27) rfl)))) (mvT hZ (hw _ (List.mem_of_getElem? (i := 27) rfl))) (mvT hZ (hw _ (List.mem_of_getElem? (i := 26) rfl))) (by decide) (backOf (W := 0) (rm_eqobj l Z a0 hw [] b12 b92 p1 p2 (rF p1 p3) (rF p2 p4) p1 (lF (rF p2 p4) p6) (rF p1 p3) (rF p2 p4) T100.heap n0 Z100 O100 r100_0 f102 f103 f104 f105 r100_1 r100_2 r100_3 r100_4 neb12_b92) hZ (hw _ (List.mem_of_getElem? (i := 28) rfl)) (hw _ (List.mem_of_getElem? (i := 8) rfl)) (by decide) (by decide)) q110a q110c (g := (mkF m 303 #[.val (.int p1), .val (.int p2), .val (.int p3), .val (.int p4), .val (.int p5), .val (.int p6), .val (.int (rF p1 p3)), .val (.int (rF p2 p4)), .val (.ref b12), .val (.int (p5 &&& (7 : Int32))), .val (.int p1), .val (.int (lF (rF p2 p4) p6)), .val (.int (rF p1 p3)), .val (.int (rF p2 p4)), .val (.ref b92), .val (.int (1 : Int32))] [(.ref b92), (.ref b12)])) rfl (by rw [hml]; rfl) (Steps.refl _) (argsL := [(.ref b92)]) (rest := []) (lenOf pd_4 rfl) rfl (by show 2 * 0 + _ ≤ _; exact Nat.le_of_eq rfl) (hb hby at_303) (fun _ _ => ⟨rfl, rfl, (by decide : 2 + 0 ≤ _), (by decide : 8 + 0 ≤ _)⟩)
              dsimp only [Pt.U, Pt.locs, Pt.cells, Pt.slots] at X110 l110 y110 z110 st110 hQ110
              subst l110 y110 z110
              obtain ⟨hv110, N110q, e110⟩ := hQ110
              rw [(show (eqNF p1 p2 (rF p1 p3) (rF p2 p4) p1 (lF (rF p2 p4) p6) (rF p1 p3) (rF p2 p4)) = (1 : Int32) from (own_eq_yes rfl hc275_108 rfl rfl))] at hv110
              subst hv110
              have N110 := Fr.app N100 N110q
              have pre111 : ∀ t, Steps p.tables e below (T110.setTop (mkF m 306 #[.val (.int p1), .val (.int p2), .val (.int p3), .val (.int p4), .val (.int p5), .val (.int p6), .val (.int (rF p1 p3)), .val (.int (rF p2 p4)), .val (.ref b12), .val (.int (p5 &&& (7 : Int32))), .val (.int p1), .val (.int (lF (rF p2 p4) p6)), .val (.int (rF p1 p3)), .val (.int (rF p2 p4)), .val (.ref b92), .val (.int (1 : Int32))] [(.int (1 : Int32))])) t → Steps p.tables e below (s₁.setTop (entryFrame m #[(.int p1), (.int p2), (.int p3), (.int p4), (.int p5), (.int p6)] maxLocals)) t := fun t k => pre109 t (st110.trans k)
              have pre112 : ∀ t, Steps p.tables e below (T110.setTop (mkF m 315 #[.val (.int p1), .val (.int p2), .val (.int p3), .val (.int p4), .val (.int p5), .val (.int p6), .val (.int (rF p1 p3)), .val (.int (rF p2 p4)), .val (.ref b12), .val (.int (p5 &&& (7 : Int32))), .val (.int p1), .val (.int (lF (rF p2 p4) p6)), .val (.int (rF p1 p3)), .val (.int (rF p2 p4)), .val (.ref b92), .val (.int (1 : Int32))] [(.ref b12), (.ref b92)])) t → Steps p.tables e below (s₁.setTop (entryFrame m #[(.int p1), (.int p2), (.int p3), (.int p4), (.int p5), (.int p6)] maxLocals)) t := fun t k => pre111 t (by
                show Steps p.tables e below (T110.setTop (mkF m 306 #[.val (.int p1), .val (.int p2), .val (.int p3), .val (.int p4), .val (.int p5), .val (.int p6), .val (.int (rF p1 p3)), .val (.int (rF p2 p4)), .val (.ref b12), .val (.int (p5 &&& (7 : Int32))), .val (.int p1), .val (.int (lF (rF p2 p4) p6)), .val (.int (rF p1 p3)), .val (.int (rF p2 p4)), .val (.ref b92), .val (.int (1 : Int32))] [(.int (1 : Int32))])) _
                refine XS.iload X110.here hx rfl (hb hby at_306) rfl ?_
                show Steps p.tables e below (T110.setTop (mkF m 308 #[.val (.int p1), .val (.int p2), .val (.int p3), .val (.int p4), .val (.int p5), .val (.int p6), .val (.int (rF p1 p3)), .val (.int (rF p2 p4)), .val (.ref b12), .val (.int (p5 &&& (7 : Int32))), .val (.int p1), .val (.int (lF (rF p2 p4) p6)), .val (.int (rF p1 p3)), .val (.int (rF p2 p4)), .val (.ref b92), .val (.int (1 : Int32))] [(.int (1 : Int32)), (.int (1 : Int32))])) _
                refine XS.icmpNo X110.here hx rfl (hb hby at_308) rfl (teq (by decide : (1 : Int32) = (1 : Int32))).2 ?_
                show Steps p.tables e below (T110.setTop (mkF m 311 #[.val (.int p1), .val (.int p2), .val (.int p3), .val (.int p4), .val (.int p5), .val (.int p6), .val (.int (rF p1 p3)), .val (.int (rF p2 p4)), .val (.ref b12), .val (.int (p5 &&& (7 : Int32))), .val (.int p1), .val (.int (lF (rF p2 p4) p6)), .val (.int (rF p1 p3)), .val (.int (rF p2 p4)), .val (.ref b92), .val (.int (1 : Int32))] [])) _
                refine XS.aload X110.here hx rfl (hb hby at_311) rfl rfl ?_
                show Steps p.tables e below (T110.setTop (mkF m 313 #[.val (.int p1), .val (.int p2), .val (.int p3), .val (.int p4), .val (.int p5), .val (.int p6), .val (.int (rF p1 p3)), .val (.int (rF p2 p4)), .val (.ref b12), .val (.int (p5 &&& (7 : Int32))), .val (.int p1), .val (.int (lF (rF p2 p4) p6)), .val (.int (rF p1 p3)), .val (.int (rF p2 p4)), .val (.ref b92), .val (.int (1 : Int32))] [(.ref b92)])) _
                refine XS.aload X110.here hx rfl (hb hby at_313) rfl rfl ?_
                exact k)
              obtain ⟨cq113, kq113, q113a, q113b, q113c⟩ := isOf hZ e110 r100_0
              obtain ⟨_, _, ⟨T113, L113, k113, n113⟩, -, X113, ⟨Lc113, hQ113, l113, y113, z113⟩, st113⟩ := X110.virtualBack hx (y := (⟨"com/example/blynds/blynds/engine/Rect", "equals", "(Ljava/lang/Object;)Z"⟩ : MethodName)) (z := (⟨"com/example/blynds/blynds/engine/Rect", "equals", "(Ljava/lang/Object;)Z"⟩ : MethodName)) hown (mvT hZ (hw _ (List.mem_of_getElem? (i := 24) rfl))) (mvT hZ (hw _ (List.mem_of_getElem? (i := 25) rfl))) (notFace_of_selects (args := #[]) (mvT hZ (hw _ (List.mem_of_getElem? (i := 27) rfl)))) (mvT hZ (hw _ (List.mem_of_getElem? (i := 27) rfl))) (mvT hZ (hw _ (List.mem_of_getElem? (i := 26) rfl))) (by decide) (backOf (W := 0) (rm_eqobj l Z a0 hw [] b92 b12 p1 (lF (rF p2 p4) p6) (rF p1 p3) (rF p2 p4) p1 p2 (rF p1 p3) (rF p2 p4) T100.heap n0 Z100 O100 f101 r100_1 r100_2 r100_3 r100_4 f102 f103 f104 f105 (Ne.symm neb12_b92)) hZ (hw _ (List.mem_of_getElem? (i := 28) rfl)) (hw _ (List.mem_of_getElem? (i := 8) rfl)) (by decide) (by decide)) q113a q113c (g := (mkF m 315 #[.val (.int p1), .val (.int p2), .val (.int p3), .val (.int p4), .val (.int p5), .val (.int p6), .val (.int (rF p1 p3)), .val (.int (rF p2 p4)), .val (.ref b12), .val (.int (p5 &&& (7 : Int32))), .val (.int p1), .val (.int (lF (rF p2 p4) p6)), .val (.int (rF p1 p3)), .val (.int (rF p2 p4)), .val (.ref b92), .val (.int (1 : Int32))] [(.ref b12), (.ref b92)])) rfl (by rw [hml]; rfl) (Steps.refl _) (argsL := [(.ref b12)]) (rest := []) (lenOf pd_4 rfl) rfl (by show 2 * 0 + _ ≤ _; exact Nat.le_of_eq rfl) (hb hby at_315) (fun _ _ => ⟨rfl, e110, (by decide : 2 + 0 ≤ _), (by decide : 8 + 0 ≤ _)⟩)
              dsimp only [Pt.U, Pt.locs, Pt.cells, Pt.slots] at X113 l113 y113 z113 st113 hQ113
              subst l113 y113 z113
              obtain ⟨hv113, N113q, e113⟩ := hQ113
              rw [(show (eqNF p1 (lF (rF p2 p4) p6) (rF p1 p3) (rF p2 p4) p1 p2 (rF p1 p3) (rF p2 p4)) = (1 : Int32) from (own_eq_yes rfl (hc275_108).symm rfl rfl))] at hv113
              subst hv113
              have N113 := Fr.app N110 N113q
              have pre114 : ∀ t, Steps p.tables e below (T113.setTop (mkF m 318 #[.val (.int p1), .val (.int p2), .val (.int p3), .val (.int p4), .val (.int p5), .val (.int p6), .val (.int (rF p1 p3)), .val (.int (rF p2 p4)), .val (.ref b12), .val (.int (p5 &&& (7 : Int32))), .val (.int p1), .val (.int (lF (rF p2 p4) p6)), .val (.int (rF p1 p3)), .val (.int (rF p2 p4)), .val (.ref b92), .val (.int (1 : Int32))] [(.int (1 : Int32))])) t → Steps p.tables e below (s₁.setTop (entryFrame m #[(.int p1), (.int p2), (.int p3), (.int p4), (.int p5), (.int p6)] maxLocals)) t := fun t k => pre112 t (st113.trans k)
              have pre115 : ∀ t, Steps p.tables e below (T113.setTop (mkF m 328 #[.val (.int p1), .val (.int p2), .val (.int p3), .val (.int p4), .val (.int p5), .val (.int p6), .val (.int (rF p1 p3)), .val (.int (rF p2 p4)), .val (.ref b12), .val (.int (p5 &&& (7 : Int32))), .val (.int p1), .val (.int (lF (rF p2 p4) p6)), .val (.int (rF p1 p3)), .val (.int (rF p2 p4)), .val (.ref b92), .val (.int (1 : Int32))] [(.int (1 : Int32))])) t → Steps p.tables e below (s₁.setTop (entryFrame m #[(.int p1), (.int p2), (.int p3), (.int p4), (.int p5), (.int p6)] maxLocals)) t := fun t k => pre114 t (by
                show Steps p.tables e below (T113.setTop (mkF m 318 #[.val (.int p1), .val (.int p2), .val (.int p3), .val (.int p4), .val (.int p5), .val (.int p6), .val (.int (rF p1 p3)), .val (.int (rF p2 p4)), .val (.ref b12), .val (.int (p5 &&& (7 : Int32))), .val (.int p1), .val (.int (lF (rF p2 p4) p6)), .val (.int (rF p1 p3)), .val (.int (rF p2 p4)), .val (.ref b92), .val (.int (1 : Int32))] [(.int (1 : Int32))])) _
                refine XS.iload X113.here hx rfl (hb hby at_318) rfl ?_
                show Steps p.tables e below (T113.setTop (mkF m 320 #[.val (.int p1), .val (.int p2), .val (.int p3), .val (.int p4), .val (.int p5), .val (.int p6), .val (.int (rF p1 p3)), .val (.int (rF p2 p4)), .val (.ref b12), .val (.int (p5 &&& (7 : Int32))), .val (.int p1), .val (.int (lF (rF p2 p4) p6)), .val (.int (rF p1 p3)), .val (.int (rF p2 p4)), .val (.ref b92), .val (.int (1 : Int32))] [(.int (1 : Int32)), (.int (1 : Int32))])) _
                refine XS.icmpNo X113.here hx rfl (hb hby at_320) rfl (teq (by decide : (1 : Int32) = (1 : Int32))).2 ?_
                show Steps p.tables e below (T113.setTop (mkF m 323 #[.val (.int p1), .val (.int p2), .val (.int p3), .val (.int p4), .val (.int p5), .val (.int p6), .val (.int (rF p1 p3)), .val (.int (rF p2 p4)), .val (.ref b12), .val (.int (p5 &&& (7 : Int32))), .val (.int p1), .val (.int (lF (rF p2 p4) p6)), .val (.int (rF p1 p3)), .val (.int (rF p2 p4)), .val (.ref b92), .val (.int (1 : Int32))] [])) _
                refine XS.iconst X113.here hx rfl (hb hby at_323) ?_
                show Steps p.tables e below (T113.setTop (mkF m 324 #[.val (.int p1), .val (.int p2), .val (.int p3), .val (.int p4), .val (.int p5), .val (.int p6), .val (.int (rF p1 p3)), .val (.int (rF p2 p4)), .val (.ref b12), .val (.int (p5 &&& (7 : Int32))), .val (.int p1), .val (.int (lF (rF p2 p4) p6)), .val (.int (rF p1 p3)), .val (.int (rF p2 p4)), .val (.ref b92), .val (.int (1 : Int32))] [(.int (1 : Int32))])) _
                refine XS.goto X113.here hx rfl (pc0 := 324) (pc' := 328) rfl (hb hby at_324) (by decide) (by decide) ?_
                exact k)
              obtain ⟨fs, hr, hrun, hended, hW, hsame⟩ := X113.leave (v := some (.int (1 : Int32))) (fun h => by rw [Bd.returns] at h; cases h)
              refine ⟨_, _, pre115 _ ?_, hrun, hended, _, _, rfl, ?_, ⟨_, rfl⟩, hW, hsame.mono (by decide) (by decide)⟩
              · exact retN X113 hx (t := .boolean) Bd.returns (by simp) (hb hby at_328) hr
              · show Q_rm_law Z p1 p2 p3 p4 p5 p6 cA cl h0 n0 _ T113.heap _
                rw [e113]
                exact ⟨rfl, N113⟩
            · have pre116 : ∀ t, Steps p.tables e below (T100.setTop (mkF m 303 #[.val (.int p1), .val (.int p2), .val (.int p3), .val (.int p4), .val (.int p5), .val (.int p6), .val (.int (rF p1 p3)), .val (.int (rF p2 p4)), .val (.ref b12), .val (.int (p5 &&& (7 : Int32))), .val (.int p1), .val (.int (lF (rF p2 p4) p6)), .val (.int (rF p1 p3)), .val (.int (rF p2 p4)), .val (.ref b92), .val (.int (0 : Int32))] [(.ref b92), (.ref b12)])) t → Steps p.tables e below (s₁.setTop (entryFrame m #[(.int p1), (.int p2), (.int p3), (.int p4), (.int p5), (.int p6)] maxLocals)) t := fun t k => pre107 t (by
                show Steps p.tables e below (T100.setTop (mkF m 275 #[.val (.int p1), .val (.int p2), .val (.int p3), .val (.int p4), .val (.int p5), .val (.int p6), .val (.int (rF p1 p3)), .val (.int (rF p2 p4)), .val (.ref b12), .val (.int (p5 &&& (7 : Int32))), .val (.int p1), .val (.int (lF (rF p2 p4) p6)), .val (.int (rF p1 p3)), .val (.int (rF p2 p4)), .val (.ref b92), .unset] [(.int (lF (rF p2 p4) p6)), (.int p2)])) _
                refine XS.icmpYes X100.here hx rfl (pc0 := 275) (pc' := 296) rfl (hb hby at_275) rfl (feq hc275_108).2 (by decide) (by decide) ?_
                show Steps p.tables e below (T100.setTop (mkF m 296 #[.val (.int p1), .val (.int p2), .val (.int p3), .val (.int p4), .val (.int p5), .val (.int p6), .val (.int (rF p1 p3)), .val (.int (rF p2 p4)), .val (.ref b12), .val (.int (p5 &&& (7 : Int32))), .val (.int p1), .val (.int (lF (rF p2 p4) p6)), .val (.int (rF p1 p3)), .val (.int (rF p2 p4)), .val (.ref b92), .unset] [])) _
                refine XS.iconst X100.here hx rfl (hb hby at_296) ?_
                show Steps p.tables e below (T100.setTop (mkF m 297 #[.val (.int p1), .val (.int p2), .val (.int p3), .val (.int p4), .val (.int p5), .val (.int p6), .val (.int (rF p1 p3)), .val (.int (rF p2 p4)), .val (.ref b12), .val (.int (p5 &&& (7 : Int32))), .val (.int p1), .val (.int (lF (rF p2 p4) p6)), .val (.int (rF p1 p3)), .val (.int (rF p2 p4)), .val (.ref b92), .unset] [(.int (0 : Int32))])) _
                refine XS.istore X100.here hx rfl (hb hby at_297) rfl (l' := #[.val (.int p1), .val (.int p2), .val (.int p3), .val (.int p4), .val (.int p5), .val (.int p6), .val (.int (rF p1 p3)), .val (.int (rF p2 p4)), .val (.ref b12), .val (.int (p5 &&& (7 : Int32))), .val (.int p1), .val (.int (lF (rF p2 p4) p6)), .val (.int (rF p1 p3)), .val (.int (rF p2 p4)), .val (.ref b92), .val (.int (0 : Int32))]) rfl ?_
                show Steps p.tables e below (T100.setTop (mkF m 299 #[.val (.int p1), .val (.int p2), .val (.int p3), .val (.int p4), .val (.int p5), .val (.int p6), .val (.int (rF p1 p3)), .val (.int (rF p2 p4)), .val (.ref b12), .val (.int (p5 &&& (7 : Int32))), .val (.int p1), .val (.int (lF (rF p2 p4) p6)), .val (.int (rF p1 p3)), .val (.int (rF p2 p4)), .val (.ref b92), .val (.int (0 : Int32))] [])) _
                refine XS.aload X100.here hx rfl (hb hby at_299) rfl rfl ?_
                show Steps p.tables e below (T100.setTop (mkF m 301 #[.val (.int p1), .val (.int p2), .val (.int p3), .val (.int p4), .val (.int p5), .val (.int p6), .val (.int (rF p1 p3)), .val (.int (rF p2 p4)), .val (.ref b12), .val (.int (p5 &&& (7 : Int32))), .val (.int p1), .val (.int (lF (rF p2 p4) p6)), .val (.int (rF p1 p3)), .val (.int (rF p2 p4)), .val (.ref b92), .val (.int (0 : Int32))] [(.ref b12)])) _
                refine XS.aload X100.here hx rfl (hb hby at_301) rfl rfl ?_
                exact k)
              obtain ⟨cq117, kq117, q117a, q117b, q117c⟩ := isOf hZ rfl f101
              obtain ⟨_, _, ⟨T117, L117, k117, n117⟩, -, X117, ⟨Lc117, hQ117, l117, y117, z117⟩, st117⟩ := X100.virtualBack hx (y := (⟨"com/example/blynds/blynds/engine/Rect", "equals", "(Ljava/lang/Object;)Z"⟩ : MethodName)) (z := (⟨"com/example/blynds/blynds/engine/Rect", "equals", "(Ljava/lang/Object;)Z"⟩ : MethodName)) hown (mvT hZ (hw _ (List.mem_of_getElem? (i := 24) rfl))) (mvT hZ (hw _ (List.mem_of_getElem? (i := 25) rfl))) (notFace_of_selects (args := #[]) (mvT hZ (hw _ (List.mem_of_getElem? (i := 27) rfl)))) (mvT hZ (hw _ (List.mem_of_getElem? (i := 27) rfl))) (mvT hZ (hw _ (List.mem_of_getElem? (i := 26) rfl))) (by decide) (backOf (W := 0) (rm_eqobj l Z a0 hw [] b12 b92 p1 p2 (rF p1 p3) (rF p2 p4) p1 (lF (rF p2 p4) p6) (rF p1 p3) (rF p2 p4) T100.heap n0 Z100 O100 r100_0 f102 f103 f104 f105 r100_1 r100_2 r100_3 r100_4 neb12_b92) hZ (hw _ (List.mem_of_getElem? (i := 28) rfl)) (hw _ (List.mem_of_getElem? (i := 8) rfl)) (by decide) (by decide)) q117a q117c (g := (mkF m 303 #[.val (.int p1), .val (.int p2), .val (.int p3), .val (.int p4), .val (.int p5), .val (.int p6), .val (.int (rF p1 p3)), .val (.int (rF p2 p4)), .val (.ref b12), .val (.int (p5 &&& (7 : Int32))), .val (.int p1), .val (.int (lF (rF p2 p4) p6)), .val (.int (rF p1 p3)), .val (.int (rF p2 p4)), .val (.ref b92), .val (.int (0 : Int32))] [(.ref b92), (.ref b12)])) rfl (by rw [hml]; rfl) (Steps.refl _) (argsL := [(.ref b92)]) (rest := []) (lenOf pd_4 rfl) rfl (by show 2 * 0 + _ ≤ _; exact Nat.le_of_eq rfl) (hb hby at_303) (fun _ _ => ⟨rfl, rfl, (by decide : 2 + 0 ≤ _), (by decide : 8 + 0 ≤ _)⟩)
              dsimp only [Pt.U, Pt.locs, Pt.cells, Pt.slots] at X117 l117 y117 z117 st117 hQ117
              subst l117 y117 z117
              obtain ⟨hv117, N117q, e117⟩ := hQ117
              rw [(show (eqNF p1 p2 (rF p1 p3) (rF p2 p4) p1 (lF (rF p2 p4) p6) (rF p1 p3) (rF p2 p4)) = (0 : Int32) from (own_eq_no (fun q => hc275_108 (q.2.1))))] at hv117
              subst hv117
              have N117 := Fr.app N100 N117q
              have pre118 : ∀ t, Steps p.tables e below (T117.setTop (mkF m 306 #[.val (.int p1), .val (.int p2), .val (.int p3), .val (.int p4), .val (.int p5), .val (.int p6), .val (.int (rF p1 p3)), .val (.int (rF p2 p4)), .val (.ref b12), .val (.int (p5 &&& (7 : Int32))), .val (.int p1), .val (.int (lF (rF p2 p4) p6)), .val (.int (rF p1 p3)), .val (.int (rF p2 p4)), .val (.ref b92), .val (.int (0 : Int32))] [(.int (0 : Int32))])) t → Steps p.tables e below (s₁.setTop (entryFrame m #[(.int p1), (.int p2), (.int p3), (.int p4), (.int p5), (.int p6)] maxLocals)) t := fun t k => pre116 t (st117.trans k)
              have pre119 : ∀ t, Steps p.tables e below (T117.setTop (mkF m 315 #[.val (.int p1), .val (.int p2), .val (.int p3), .val (.int p4), .val (.int p5), .val (.int p6), .val (.int (rF p1 p3)), .val (.int (rF p2 p4)), .val (.ref b12), .val (.int (p5 &&& (7 : Int32))), .val (.int p1), .val (.int (lF (rF p2 p4) p6)), .val (.int (rF p1 p3)), .val (.int (rF p2 p4)), .val (.ref b92), .val (.int (0 : Int32))] [(.ref b12), (.ref b92)])) t → Steps p.tables e below (s₁.setTop (entryFrame m #[(.int p1), (.int p2), (.int p3), (.int p4), (.int p5), (.int p6)] maxLocals)) t := fun t k => pre118 t (by
                show Steps p.tables e below (T117.setTop (mkF m 306 #[.val (.int p1), .val (.int p2), .val (.int p3), .val (.int p4), .val (.int p5), .val (.int p6), .val (.int (rF p1 p3)), .val (.int (rF p2 p4)), .val (.ref b12), .val (.int (p5 &&& (7 : Int32))), .val (.int p1), .val (.int (lF (rF p2 p4) p6)), .val (.int (rF p1 p3)), .val (.int (rF p2 p4)), .val (.ref b92), .val (.int (0 : Int32))] [(.int (0 : Int32))])) _
                refine XS.iload X117.here hx rfl (hb hby at_306) rfl ?_
                show Steps p.tables e below (T117.setTop (mkF m 308 #[.val (.int p1), .val (.int p2), .val (.int p3), .val (.int p4), .val (.int p5), .val (.int p6), .val (.int (rF p1 p3)), .val (.int (rF p2 p4)), .val (.ref b12), .val (.int (p5 &&& (7 : Int32))), .val (.int p1), .val (.int (lF (rF p2 p4) p6)), .val (.int (rF p1 p3)), .val (.int (rF p2 p4)), .val (.ref b92), .val (.int (0 : Int32))] [(.int (0 : Int32)), (.int (0 : Int32))])) _
                refine XS.icmpNo X117.here hx rfl (hb hby at_308) rfl (teq (by decide : (0 : Int32) = (0 : Int32))).2 ?_
                show Steps p.tables e below (T117.setTop (mkF m 311 #[.val (.int p1), .val (.int p2), .val (.int p3), .val (.int p4), .val (.int p5), .val (.int p6), .val (.int (rF p1 p3)), .val (.int (rF p2 p4)), .val (.ref b12), .val (.int (p5 &&& (7 : Int32))), .val (.int p1), .val (.int (lF (rF p2 p4) p6)), .val (.int (rF p1 p3)), .val (.int (rF p2 p4)), .val (.ref b92), .val (.int (0 : Int32))] [])) _
                refine XS.aload X117.here hx rfl (hb hby at_311) rfl rfl ?_
                show Steps p.tables e below (T117.setTop (mkF m 313 #[.val (.int p1), .val (.int p2), .val (.int p3), .val (.int p4), .val (.int p5), .val (.int p6), .val (.int (rF p1 p3)), .val (.int (rF p2 p4)), .val (.ref b12), .val (.int (p5 &&& (7 : Int32))), .val (.int p1), .val (.int (lF (rF p2 p4) p6)), .val (.int (rF p1 p3)), .val (.int (rF p2 p4)), .val (.ref b92), .val (.int (0 : Int32))] [(.ref b92)])) _
                refine XS.aload X117.here hx rfl (hb hby at_313) rfl rfl ?_
                exact k)
              obtain ⟨cq120, kq120, q120a, q120b, q120c⟩ := isOf hZ e117 r100_0
              obtain ⟨_, _, ⟨T120, L120, k120, n120⟩, -, X120, ⟨Lc120, hQ120, l120, y120, z120⟩, st120⟩ := X117.virtualBack hx (y := (⟨"com/example/blynds/blynds/engine/Rect", "equals", "(Ljava/lang/Object;)Z"⟩ : MethodName)) (z := (⟨"com/example/blynds/blynds/engine/Rect", "equals", "(Ljava/lang/Object;)Z"⟩ : MethodName)) hown (mvT hZ (hw _ (List.mem_of_getElem? (i := 24) rfl))) (mvT hZ (hw _ (List.mem_of_getElem? (i := 25) rfl))) (notFace_of_selects (args := #[]) (mvT hZ (hw _ (List.mem_of_getElem? (i := 27) rfl)))) (mvT hZ (hw _ (List.mem_of_getElem? (i := 27) rfl))) (mvT hZ (hw _ (List.mem_of_getElem? (i := 26) rfl))) (by decide) (backOf (W := 0) (rm_eqobj l Z a0 hw [] b92 b12 p1 (lF (rF p2 p4) p6) (rF p1 p3) (rF p2 p4) p1 p2 (rF p1 p3) (rF p2 p4) T100.heap n0 Z100 O100 f101 r100_1 r100_2 r100_3 r100_4 f102 f103 f104 f105 (Ne.symm neb12_b92)) hZ (hw _ (List.mem_of_getElem? (i := 28) rfl)) (hw _ (List.mem_of_getElem? (i := 8) rfl)) (by decide) (by decide)) q120a q120c (g := (mkF m 315 #[.val (.int p1), .val (.int p2), .val (.int p3), .val (.int p4), .val (.int p5), .val (.int p6), .val (.int (rF p1 p3)), .val (.int (rF p2 p4)), .val (.ref b12), .val (.int (p5 &&& (7 : Int32))), .val (.int p1), .val (.int (lF (rF p2 p4) p6)), .val (.int (rF p1 p3)), .val (.int (rF p2 p4)), .val (.ref b92), .val (.int (0 : Int32))] [(.ref b12), (.ref b92)])) rfl (by rw [hml]; rfl) (Steps.refl _) (argsL := [(.ref b12)]) (rest := []) (lenOf pd_4 rfl) rfl (by show 2 * 0 + _ ≤ _; exact Nat.le_of_eq rfl) (hb hby at_315) (fun _ _ => ⟨rfl, e117, (by decide : 2 + 0 ≤ _), (by decide : 8 + 0 ≤ _)⟩)
              dsimp only [Pt.U, Pt.locs, Pt.cells, Pt.slots] at X120 l120 y120 z120 st120 hQ120
              subst l120 y120 z120
              obtain ⟨hv120, N120q, e120⟩ := hQ120
              rw [(show (eqNF p1 (lF (rF p2 p4) p6) (rF p1 p3) (rF p2 p4) p1 p2 (rF p1 p3) (rF p2 p4)) = (0 : Int32) from (own_eq_no (fun q => hc275_108 (q.2.1).symm)))] at hv120
              subst hv120
              have N120 := Fr.app N117 N120q
              have pre121 : ∀ t, Steps p.tables e below (T120.setTop (mkF m 318 #[.val (.int p1), .val (.int p2), .val (.int p3), .val (.int p4), .val (.int p5), .val (.int p6), .val (.int (rF p1 p3)), .val (.int (rF p2 p4)), .val (.ref b12), .val (.int (p5 &&& (7 : Int32))), .val (.int p1), .val (.int (lF (rF p2 p4) p6)), .val (.int (rF p1 p3)), .val (.int (rF p2 p4)), .val (.ref b92), .val (.int (0 : Int32))] [(.int (0 : Int32))])) t → Steps p.tables e below (s₁.setTop (entryFrame m #[(.int p1), (.int p2), (.int p3), (.int p4), (.int p5), (.int p6)] maxLocals)) t := fun t k => pre119 t (st120.trans k)
              have pre122 : ∀ t, Steps p.tables e below (T120.setTop (mkF m 328 #[.val (.int p1), .val (.int p2), .val (.int p3), .val (.int p4), .val (.int p5), .val (.int p6), .val (.int (rF p1 p3)), .val (.int (rF p2 p4)), .val (.ref b12), .val (.int (p5 &&& (7 : Int32))), .val (.int p1), .val (.int (lF (rF p2 p4) p6)), .val (.int (rF p1 p3)), .val (.int (rF p2 p4)), .val (.ref b92), .val (.int (0 : Int32))] [(.int (1 : Int32))])) t → Steps p.tables e below (s₁.setTop (entryFrame m #[(.int p1), (.int p2), (.int p3), (.int p4), (.int p5), (.int p6)] maxLocals)) t := fun t k => pre121 t (by
                show Steps p.tables e below (T120.setTop (mkF m 318 #[.val (.int p1), .val (.int p2), .val (.int p3), .val (.int p4), .val (.int p5), .val (.int p6), .val (.int (rF p1 p3)), .val (.int (rF p2 p4)), .val (.ref b12), .val (.int (p5 &&& (7 : Int32))), .val (.int p1), .val (.int (lF (rF p2 p4) p6)), .val (.int (rF p1 p3)), .val (.int (rF p2 p4)), .val (.ref b92), .val (.int (0 : Int32))] [(.int (0 : Int32))])) _
                refine XS.iload X120.here hx rfl (hb hby at_318) rfl ?_
                show Steps p.tables e below (T120.setTop (mkF m 320 #[.val (.int p1), .val (.int p2), .val (.int p3), .val (.int p4), .val (.int p5), .val (.int p6), .val (.int (rF p1 p3)), .val (.int (rF p2 p4)), .val (.ref b12), .val (.int (p5 &&& (7 : Int32))), .val (.int p1), .val (.int (lF (rF p2 p4) p6)), .val (.int (rF p1 p3)), .val (.int (rF p2 p4)), .val (.ref b92), .val (.int (0 : Int32))] [(.int (0 : Int32)), (.int (0 : Int32))])) _
                refine XS.icmpNo X120.here hx rfl (hb hby at_320) rfl (teq (by decide : (0 : Int32) = (0 : Int32))).2 ?_
                show Steps p.tables e below (T120.setTop (mkF m 323 #[.val (.int p1), .val (.int p2), .val (.int p3), .val (.int p4), .val (.int p5), .val (.int p6), .val (.int (rF p1 p3)), .val (.int (rF p2 p4)), .val (.ref b12), .val (.int (p5 &&& (7 : Int32))), .val (.int p1), .val (.int (lF (rF p2 p4) p6)), .val (.int (rF p1 p3)), .val (.int (rF p2 p4)), .val (.ref b92), .val (.int (0 : Int32))] [])) _
                refine XS.iconst X120.here hx rfl (hb hby at_323) ?_
                show Steps p.tables e below (T120.setTop (mkF m 324 #[.val (.int p1), .val (.int p2), .val (.int p3), .val (.int p4), .val (.int p5), .val (.int p6), .val (.int (rF p1 p3)), .val (.int (rF p2 p4)), .val (.ref b12), .val (.int (p5 &&& (7 : Int32))), .val (.int p1), .val (.int (lF (rF p2 p4) p6)), .val (.int (rF p1 p3)), .val (.int (rF p2 p4)), .val (.ref b92), .val (.int (0 : Int32))] [(.int (1 : Int32))])) _
                refine XS.goto X120.here hx rfl (pc0 := 324) (pc' := 328) rfl (hb hby at_324) (by decide) (by decide) ?_
                exact k)
              obtain ⟨fs, hr, hrun, hended, hW, hsame⟩ := X120.leave (v := some (.int (1 : Int32))) (fun h => by rw [Bd.returns] at h; cases h)
              refine ⟨_, _, pre122 _ ?_, hrun, hended, _, _, rfl, ?_, ⟨_, rfl⟩, hW, hsame.mono (by decide) (by decide)⟩
              · exact retN X120 hx (t := .boolean) Bd.returns (by simp) (hb hby at_328) hr
              · show Q_rm_law Z p1 p2 p3 p4 p5 p6 cA cl h0 n0 _ T120.heap _
                rw [e120]
                exact ⟨rfl, N120⟩
          · have pre123 : ∀ t, Steps p.tables e below (T15.setTop (mkF m 197 #[.val (.int p1), .val (.int p2), .val (.int p3), .val (.int p4), .val (.int p5), .val (.int p6), .val (.int (rF p1 p3)), .val (.int (rF p2 p4)), .val (.ref b12), .val (.int (p5 &&& (7 : Int32))), .val (.int p1), .val (.int p2), .val (.int (rF p1 p3)), .val (.int (rF p2 p4)), .unset, .unset] [(.int (3 : Int32)), (.int (p5 &&& (7 : Int32)))])) t → Steps p.tables e below (s₁.setTop (entryFrame m #[(.int p1), (.int p2), (.int p3), (.int p4), (.int p5), (.int p6)] maxLocals)) t := fun t k => pre82 t (by
              show Steps p.tables e below (T15.setTop (mkF m 166 #[.val (.int p1), .val (.int p2), .val (.int p3), .val (.int p4), .val (.int p5), .val (.int p6), .val (.int (rF p1 p3)), .val (.int (rF p2 p4)), .val (.ref b12), .val (.int (p5 &&& (7 : Int32))), .val (.int p1), .val (.int p2), .val (.int (rF p1 p3)), .val (.int (rF p2 p4)), .unset, .unset] [(.int (2 : Int32)), (.int (p5 &&& (7 : Int32)))])) _
              refine XS.icmpYes X15.here hx rfl (pc0 := 166) (pc' := 194) rfl (hb hby at_166) rfl (feq hc166_83).2 (by decide) (by decide) ?_
              show Steps p.tables e below (T15.setTop (mkF m 194 #[.val (.int p1), .val (.int p2), .val (.int p3), .val (.int p4), .val (.int p5), .val (.int p6), .val (.int (rF p1 p3)), .val (.int (rF p2 p4)), .val (.ref b12), .val (.int (p5 &&& (7 : Int32))), .val (.int p1), .val (.int p2), .val (.int (rF p1 p3)), .val (.int (rF p2 p4)), .unset, .unset] [])) _
              refine XS.iload X15.here hx rfl (hb hby at_194) rfl ?_
              show Steps p.tables e below (T15.setTop (mkF m 196 #[.val (.int p1), .val (.int p2), .val (.int p3), .val (.int p4), .val (.int p5), .val (.int p6), .val (.int (rF p1 p3)), .val (.int (rF p2 p4)), .val (.ref b12), .val (.int (p5 &&& (7 : Int32))), .val (.int p1), .val (.int p2), .val (.int (rF p1 p3)), .val (.int (rF p2 p4)), .unset, .unset] [(.int (p5 &&& (7 : Int32)))])) _
              refine XS.iconst X15.here hx rfl (hb hby at_196) ?_
              exact k)
            by_cases hc197_124 : (p5 &&& (7 : Int32)) = (3 : Int32)
            · have pre125 : ∀ t, Steps p.tables e below (T15.setTop (mkF m 205 #[.val (.int p1), .val (.int p2), .val (.int p3), .val (.int p4), .val (.int p5), .val (.int p6), .val (.int (rF p1 p3)), .val (.int (rF p2 p4)), .val (.ref b12), .val (.int (p5 &&& (7 : Int32))), .val (.int p1), .val (.int p2), .val (.int (rF p1 p3)), .val (.int (rF p2 p4)), .unset, .unset] [(.long (p1.toInt64)), (.long (p6.toInt64))])) t → Steps p.tables e below (s₁.setTop (entryFrame m #[(.int p1), (.int p2), (.int p3), (.int p4), (.int p5), (.int p6)] maxLocals)) t := fun t k => pre123 t (by
                show Steps p.tables e below (T15.setTop (mkF m 197 #[.val (.int p1), .val (.int p2), .val (.int p3), .val (.int p4), .val (.int p5), .val (.int p6), .val (.int (rF p1 p3)), .val (.int (rF p2 p4)), .val (.ref b12), .val (.int (p5 &&& (7 : Int32))), .val (.int p1), .val (.int p2), .val (.int (rF p1 p3)), .val (.int (rF p2 p4)), .unset, .unset] [(.int (3 : Int32)), (.int (p5 &&& (7 : Int32)))])) _
                refine XS.icmpNo X15.here hx rfl (hb hby at_197) rfl (teq hc197_124).2 ?_
                show Steps p.tables e below (T15.setTop (mkF m 200 #[.val (.int p1), .val (.int p2), .val (.int p3), .val (.int p4), .val (.int p5), .val (.int p6), .val (.int (rF p1 p3)), .val (.int (rF p2 p4)), .val (.ref b12), .val (.int (p5 &&& (7 : Int32))), .val (.int p1), .val (.int p2), .val (.int (rF p1 p3)), .val (.int (rF p2 p4)), .unset, .unset] [])) _
                refine XS.iload X15.here hx rfl (hb hby at_200) rfl ?_
                show Steps p.tables e below (T15.setTop (mkF m 202 #[.val (.int p1), .val (.int p2), .val (.int p3), .val (.int p4), .val (.int p5), .val (.int p6), .val (.int (rF p1 p3)), .val (.int (rF p2 p4)), .val (.ref b12), .val (.int (p5 &&& (7 : Int32))), .val (.int p1), .val (.int p2), .val (.int (rF p1 p3)), .val (.int (rF p2 p4)), .unset, .unset] [(.int p6)])) _
                refine XS.i2l X15.here hx rfl (hb hby at_202) rfl ?_
                show Steps p.tables e below (T15.setTop (mkF m 203 #[.val (.int p1), .val (.int p2), .val (.int p3), .val (.int p4), .val (.int p5), .val (.int p6), .val (.int (rF p1 p3)), .val (.int (rF p2 p4)), .val (.ref b12), .val (.int (p5 &&& (7 : Int32))), .val (.int p1), .val (.int p2), .val (.int (rF p1 p3)), .val (.int (rF p2 p4)), .unset, .unset] [(.long (p6.toInt64))])) _
                refine XS.iloadN X15.here hx rfl (hb hby at_203) rfl ?_
                show Steps p.tables e below (T15.setTop (mkF m 204 #[.val (.int p1), .val (.int p2), .val (.int p3), .val (.int p4), .val (.int p5), .val (.int p6), .val (.int (rF p1 p3)), .val (.int (rF p2 p4)), .val (.ref b12), .val (.int (p5 &&& (7 : Int32))), .val (.int p1), .val (.int p2), .val (.int (rF p1 p3)), .val (.int (rF p2 p4)), .unset, .unset] [(.int p1), (.long (p6.toInt64))])) _
                refine XS.i2l X15.here hx rfl (hb hby at_204) rfl ?_
                exact k)
              obtain ⟨_, _, ⟨T126, L126, k126, n126⟩, -, X126, ⟨Lc126, hQ126, l126, y126, z126⟩, st126⟩ := Jvm.LawKit.callS X15 hx (y := (⟨"java/lang/Math", "max", "(JJ)J"⟩ : MethodName)) hown (mvT hZ (hw _ (List.mem_of_getElem? (i := 31) rfl))) (mvT hZ (hw _ (List.mem_of_getElem? (i := 32) rfl))) (mvT hZ (hw _ (List.mem_of_getElem? (i := 4) rfl))) (mvT hZ (hw _ (List.mem_of_getElem? (i := 33) rfl))) (by decide) (backOf (W := 0) (rm_max l Z a0 hw [] (p6.toInt64) (p1.toInt64) T15.heap n0 Z15 O15) hZ (hw _ (List.mem_of_getElem? (i := 33) rfl)) (hw _ (List.mem_of_getElem? (i := 4) rfl)) (by decide) (by decide)) (g := (mkF m 205 #[.val (.int p1), .val (.int p2), .val (.int p3), .val (.int p4), .val (.int p5), .val (.int p6), .val (.int (rF p1 p3)), .val (.int (rF p2 p4)), .val (.ref b12), .val (.int (p5 &&& (7 : Int32))), .val (.int p1), .val (.int p2), .val (.int (rF p1 p3)), .val (.int (rF p2 p4)), .unset, .unset] [(.long (p1.toInt64)), (.long (p6.toInt64))])) rfl (by rw [hml]; rfl) (argsL := [(.long (p6.toInt64)), (.long (p1.toInt64))]) (rest := []) (lenOf pd_2 rfl) rfl (by show 2 * 0 + _ ≤ _; exact Nat.le_of_eq rfl) (hb hby at_205) (fun _ _ => ⟨rfl, rfl, (by decide : 1 + 0 ≤ _), (by decide : 4 + 0 ≤ _)⟩)
              dsimp only [Pt.U, Pt.locs, Pt.cells, Pt.slots] at X126 l126 y126 z126 st126 hQ126
              subst l126 y126 z126
              obtain ⟨rfl, N126q, e126⟩ := hQ126
              have N126 := Fr.app N15 N126q
              have pre127 : ∀ t, Steps p.tables e below (T126.setTop (mkF m 208 #[.val (.int p1), .val (.int p2), .val (.int p3), .val (.int p4), .val (.int p5), .val (.int p6), .val (.int (rF p1 p3)), .val (.int (rF p2 p4)), .val (.ref b12), .val (.int (p5 &&& (7 : Int32))), .val (.int p1), .val (.int p2), .val (.int (rF p1 p3)), .val (.int (rF p2 p4)), .unset, .unset] [(.long (maxJ (p6.toInt64) (p1.toInt64)))])) t → Steps p.tables e below (s₁.setTop (entryFrame m #[(.int p1), (.int p2), (.int p3), (.int p4), (.int p5), (.int p6)] maxLocals)) t := fun t k => pre125 t (st126 t k)
              have pre128 : ∀ t, Steps p.tables e below (T126.setTop (mkF m 214 #[.val (.int p1), .val (.int p2), .val (.int p3), .val (.int p4), .val (.int p5), .val (.int p6), .val (.int (rF p1 p3)), .val (.int (rF p2 p4)), .val (.ref b12), .val (.int (p5 &&& (7 : Int32))), .val (.int p1), .val (.int p2), .val (.int (rF p1 p3)), .val (.int (rF p2 p4)), .unset, .unset] [(.long ((p1.toInt64) + (2147483647 : Int64))), (.long (maxJ (p6.toInt64) (p1.toInt64)))])) t → Steps p.tables e below (s₁.setTop (entryFrame m #[(.int p1), (.int p2), (.int p3), (.int p4), (.int p5), (.int p6)] maxLocals)) t := fun t k => pre127 t (by
                show Steps p.tables e below (T126.setTop (mkF m 208 #[.val (.int p1), .val (.int p2), .val (.int p3), .val (.int p4), .val (.int p5), .val (.int p6), .val (.int (rF p1 p3)), .val (.int (rF p2 p4)), .val (.ref b12), .val (.int (p5 &&& (7 : Int32))), .val (.int p1), .val (.int p2), .val (.int (rF p1 p3)), .val (.int (rF p2 p4)), .unset, .unset] [(.long (maxJ (p6.toInt64) (p1.toInt64)))])) _
                refine XS.iloadN X126.here hx rfl (hb hby at_208) rfl ?_
                show Steps p.tables e below (T126.setTop (mkF m 209 #[.val (.int p1), .val (.int p2), .val (.int p3), .val (.int p4), .val (.int p5), .val (.int p6), .val (.int (rF p1 p3)), .val (.int (rF p2 p4)), .val (.ref b12), .val (.int (p5 &&& (7 : Int32))), .val (.int p1), .val (.int p2), .val (.int (rF p1 p3)), .val (.int (rF p2 p4)), .unset, .unset] [(.int p1), (.long (maxJ (p6.toInt64) (p1.toInt64)))])) _
                refine XS.i2l X126.here hx rfl (hb hby at_209) rfl ?_
                show Steps p.tables e below (T126.setTop (mkF m 210 #[.val (.int p1), .val (.int p2), .val (.int p3), .val (.int p4), .val (.int p5), .val (.int p6), .val (.int (rF p1 p3)), .val (.int (rF p2 p4)), .val (.ref b12), .val (.int (p5 &&& (7 : Int32))), .val (.int p1), .val (.int p2), .val (.int (rF p1 p3)), .val (.int (rF p2 p4)), .unset, .unset] [(.long (p1.toInt64)), (.long (maxJ (p6.toInt64) (p1.toInt64)))])) _
                refine X126.ldc2Long hx hown (mvT hZ (hw _ (List.mem_of_getElem? (i := 1) rfl))) (g := (mkF m 210 #[.val (.int p1), .val (.int p2), .val (.int p3), .val (.int p4), .val (.int p5), .val (.int p6), .val (.int (rF p1 p3)), .val (.int (rF p2 p4)), .val (.ref b12), .val (.int (p5 &&& (7 : Int32))), .val (.int p1), .val (.int p2), .val (.int (rF p1 p3)), .val (.int (rF p2 p4)), .unset, .unset] [(.long (p1.toInt64)), (.long (maxJ (p6.toInt64) (p1.toInt64)))])) rfl (hb hby at_210) _ ?_
                show Steps p.tables e below (T126.setTop (mkF m 213 #[.val (.int p1), .val (.int p2), .val (.int p3), .val (.int p4), .val (.int p5), .val (.int p6), .val (.int (rF p1 p3)), .val (.int (rF p2 p4)), .val (.ref b12), .val (.int (p5 &&& (7 : Int32))), .val (.int p1), .val (.int p2), .val (.int (rF p1 p3)), .val (.int (rF p2 p4)), .unset, .unset] [(.long (2147483647 : Int64)), (.long (p1.toInt64)), (.long (maxJ (p6.toInt64) (p1.toInt64)))])) _
                refine XS.ladd X126.here hx rfl (hb hby at_213) rfl ?_
                exact k)
              obtain ⟨_, _, ⟨T129, L129, k129, n129⟩, -, X129, ⟨Lc129, hQ129, l129, y129, z129⟩, st129⟩ := Jvm.LawKit.callS X126 hx (y := (⟨"java/lang/Math", "min", "(JJ)J"⟩ : MethodName)) hown (mvT hZ (hw _ (List.mem_of_getElem? (i := 2) rfl))) (mvT hZ (hw _ (List.mem_of_getElem? (i := 3) rfl))) (mvT hZ (hw _ (List.mem_of_getElem? (i := 4) rfl))) (mvT hZ (hw _ (List.mem_of_getElem? (i := 5) rfl))) (by decide) (backOf (W := 0) (rm_min l Z a0 hw [] (maxJ (p6.toInt64) (p1.toInt64)) ((p1.toInt64) + (2147483647 : Int64)) T15.heap n0 Z15 O15) hZ (hw _ (List.mem_of_getElem? (i := 5) rfl)) (hw _ (List.mem_of_getElem? (i := 4) rfl)) (by decide) (by decide)) (g := (mkF m 214 #[.val (.int p1), .val (.int p2), .val (.int p3), .val (.int p4), .val (.int p5), .val (.int p6), .val (.int (rF p1 p3)), .val (.int (rF p2 p4)), .val (.ref b12), .val (.int (p5 &&& (7 : Int32))), .val (.int p1), .val (.int p2), .val (.int (rF p1 p3)), .val (.int (rF p2 p4)), .unset, .unset] [(.long ((p1.toInt64) + (2147483647 : Int64))), (.long (maxJ (p6.toInt64) (p1.toInt64)))])) rfl (by rw [hml]; rfl) (argsL := [(.long (maxJ (p6.toInt64) (p1.toInt64))), (.long ((p1.toInt64) + (2147483647 : Int64)))]) (rest := []) (lenOf pd_2 rfl) rfl (by show 2 * 0 + _ ≤ _; exact Nat.le_of_eq rfl) (hb hby at_214) (fun _ _ => ⟨rfl, e126, (by decide : 1 + 0 ≤ _), (by decide : 4 + 0 ≤ _)⟩)
              dsimp only [Pt.U, Pt.locs, Pt.cells, Pt.slots] at X129 l129 y129 z129 st129 hQ129
              subst l129 y129 z129
              obtain ⟨rfl, N129q, e129⟩ := hQ129
              have N129 := Fr.app N126 N129q
              have pre130 : ∀ t, Steps p.tables e below (T129.setTop (mkF m 217 #[.val (.int p1), .val (.int p2), .val (.int p3), .val (.int p4), .val (.int p5), .val (.int p6), .val (.int (rF p1 p3)), .val (.int (rF p2 p4)), .val (.ref b12), .val (.int (p5 &&& (7 : Int32))), .val (.int p1), .val (.int p2), .val (.int (rF p1 p3)), .val (.int (rF p2 p4)), .unset, .unset] [(.long (minJ (maxJ (p6.toInt64) (p1.toInt64)) ((p1.toInt64) + (2147483647 : Int64))))])) t → Steps p.tables e below (s₁.setTop (entryFrame m #[(.int p1), (.int p2), (.int p3), (.int p4), (.int p5), (.int p6)] maxLocals)) t := fun t k => pre128 t (st129 t k)
              have pre131 : ∀ t, Steps p.tables e below (T129.setTop (mkF m 218 #[.val (.int p1), .val (.int p2), .val (.int p3), .val (.int p4), .val (.int p5), .val (.int p6), .val (.int (rF p1 p3)), .val (.int (rF p2 p4)), .val (.ref b12), .val (.int (p5 &&& (7 : Int32))), .val (.int p1), .val (.int p2), .val (.int (rF p1 p3)), .val (.int (rF p2 p4)), .unset, .unset] [(.int ((minJ (maxJ (p6.toInt64) (p1.toInt64)) ((p1.toInt64) + (2147483647 : Int64))).toInt32))])) t → Steps p.tables e below (s₁.setTop (entryFrame m #[(.int p1), (.int p2), (.int p3), (.int p4), (.int p5), (.int p6)] maxLocals)) t := fun t k => pre130 t (by
                show Steps p.tables e below (T129.setTop (mkF m 217 #[.val (.int p1), .val (.int p2), .val (.int p3), .val (.int p4), .val (.int p5), .val (.int p6), .val (.int (rF p1 p3)), .val (.int (rF p2 p4)), .val (.ref b12), .val (.int (p5 &&& (7 : Int32))), .val (.int p1), .val (.int p2), .val (.int (rF p1 p3)), .val (.int (rF p2 p4)), .unset, .unset] [(.long (minJ (maxJ (p6.toInt64) (p1.toInt64)) ((p1.toInt64) + (2147483647 : Int64))))])) _
                refine XS.l2i X129.here hx rfl (hb hby at_217) rfl ?_
                exact k)
              have pre132 : ∀ t, Steps p.tables e below (T129.setTop (mkF m 218 #[.val (.int p1), .val (.int p2), .val (.int p3), .val (.int p4), .val (.int p5), .val (.int p6), .val (.int (rF p1 p3)), .val (.int (rF p2 p4)), .val (.ref b12), .val (.int (p5 &&& (7 : Int32))), .val (.int p1), .val (.int p2), .val (.int (rF p1 p3)), .val (.int (rF p2 p4)), .unset, .unset] [(.int (sF p1 p6))])) t → Steps p.tables e below (s₁.setTop (entryFrame m #[(.int p1), (.int p2), (.int p3), (.int p4), (.int p5), (.int p6)] maxLocals)) t := pre131
              have pre133 : ∀ t, Steps p.tables e below (T129.setTop (mkF m 249 #[.val (.int p1), .val (.int p2), .val (.int p3), .val (.int p4), .val (.int p5), .val (.int p6), .val (.int (rF p1 p3)), .val (.int (rF p2 p4)), .val (.ref b12), .val (.int (p5 &&& (7 : Int32))), .val (.int p1), .val (.int p2), .val (.int (sF p1 p6)), .val (.int (rF p2 p4)), .unset, .unset] [])) t → Steps p.tables e below (s₁.setTop (entryFrame m #[(.int p1), (.int p2), (.int p3), (.int p4), (.int p5), (.int p6)] maxLocals)) t := fun t k => pre132 t (by
                show Steps p.tables e below (T129.setTop (mkF m 218 #[.val (.int p1), .val (.int p2), .val (.int p3), .val (.int p4), .val (.int p5), .val (.int p6), .val (.int (rF p1 p3)), .val (.int (rF p2 p4)), .val (.ref b12), .val (.int (p5 &&& (7 : Int32))), .val (.int p1), .val (.int p2), .val (.int (rF p1 p3)), .val (.int (rF p2 p4)), .unset, .unset] [(.int (sF p1 p6))])) _
                refine XS.istore X129.here hx rfl (hb hby at_218) rfl (l' := #[.val (.int p1), .val (.int p2), .val (.int p3), .val (.int p4), .val (.int p5), .val (.int p6), .val (.int (rF p1 p3)), .val (.int (rF p2 p4)), .val (.ref b12), .val (.int (p5 &&& (7 : Int32))), .val (.int p1), .val (.int p2), .val (.int (sF p1 p6)), .val (.int (rF p2 p4)), .unset, .unset]) rfl ?_
                show Steps p.tables e below (T129.setTop (mkF m 220 #[.val (.int p1), .val (.int p2), .val (.int p3), .val (.int p4), .val (.int p5), .val (.int p6), .val (.int (rF p1 p3)), .val (.int (rF p2 p4)), .val (.ref b12), .val (.int (p5 &&& (7 : Int32))), .val (.int p1), .val (.int p2), .val (.int (sF p1 p6)), .val (.int (rF p2 p4)), .unset, .unset] [])) _
                refine XS.goto X129.here hx rfl (pc0 := 220) (pc' := 249) rfl (hb hby at_220) (by decide) (by decide) ?_
                exact k)
              obtain ⟨T134, h134, X134, e134, E134, A134, D134, -, st134⟩ := newO X129 hx hZ hown (hw _ (List.mem_of_getElem? (i := 6) rfl)) (hw _ (List.mem_of_getElem? (i := 7) rfl)) (hw _ (List.mem_of_getElem? (i := 8) rfl)) e129 (g := (mkF m 249 #[.val (.int p1), .val (.int p2), .val (.int p3), .val (.int p4), .val (.int p5), .val (.int p6), .val (.int (rF p1 p3)), .val (.int (rF p2 p4)), .val (.ref b12), .val (.int (p5 &&& (7 : Int32))), .val (.int p1), .val (.int p2), .val (.int (sF p1 p6)), .val (.int (rF p2 p4)), .unset, .unset] [])) rfl (hb hby at_249) (by decide) (by decide)
              obtain ⟨b134, g134⟩ : ∃ z, z = T15.heap.size := ⟨_, rfl⟩
              rw [← g134] at A134 D134 st134
              have neb12_b134 : b12 ≠ b134 := Nat.ne_of_lt (Nat.lt_of_lt_of_le r15_0.lt (Nat.le_of_eq g134.symm))
              have f135 := (r15_0.ext E134)
              have f136 := (r15_1.ext E134)
              have f137 := (r15_2.ext E134)
              have f138 := (r15_3.ext E134)
              have f139 := (r15_4.ext E134)
              have F_left_b134 : Fld Z h134 b134 "com/example/blynds/blynds/engine/Rect" "left" "I" (.int (0 : Int32)) := D134 (Or.inr (hw _ (List.mem_of_getElem? (i := 17) rfl))) (ty := .int) (by decide)
              have F_top_b134 : Fld Z h134 b134 "com/example/blynds/blynds/engine/Rect" "top" "I" (.int (0 : Int32)) := D134 (Or.inr (hw _ (List.mem_of_getElem? (i := 19) rfl))) (ty := .int) (by decide)
              have F_right_b134 : Fld Z h134 b134 "com/example/blynds/blynds/engine/Rect" "right" "I" (.int (0 : Int32)) := D134 (Or.inr (hw _ (List.mem_of_getElem? (i := 21) rfl))) (ty := .int) (by decide)
              have F_bottom_b134 : Fld Z h134 b134 "com/example/blynds/blynds/engine/Rect" "bottom" "I" (.int (0 : Int32)) := D134 (Or.inr (hw _ (List.mem_of_getElem? (i := 23) rfl))) (ty := .int) (by decide)
              have g_b134 : n0 ≤ b134 := Nat.le_trans Z15 (Nat.le_of_eq g134.symm)
              have z_b134 : Z.heap.size ≤ b134 := Nat.le_trans O15.1 (Nat.le_of_eq g134.symm)
              have sz_b134 : h0.size ≤ b134 := Nat.le_trans K15.1 (Nat.le_of_eq g134.symm)
              have K134 := K15.ext E134
              have O134 : Ext Z.heap h134 := own_ext_trans O15 E134
              have Z134 : n0 ≤ h134.size := Nat.le_trans Z15 E134.1
              have pre140 : ∀ t, Steps p.tables e below (T134.setTop (mkF m 252 #[.val (.int p1), .val (.int p2), .val (.int p3), .val (.int p4), .val (.int p5), .val (.int p6), .val (.int (rF p1 p3)), .val (.int (rF p2 p4)), .val (.ref b12), .val (.int (p5 &&& (7 : Int32))), .val (.int p1), .val (.int p2), .val (.int (sF p1 p6)), .val (.int (rF p2 p4)), .unset, .unset] [(.ref b134)])) t → Steps p.tables e below (s₁.setTop (entryFrame m #[(.int p1), (.int p2), (.int p3), (.int p4), (.int p5), (.int p6)] maxLocals)) t := fun t k => pre133 t (st134 t k)
              have pre141 : ∀ t, Steps p.tables e below (T134.setTop (mkF m 261 #[.val (.int p1), .val (.int p2), .val (.int p3), .val (.int p4), .val (.int p5), .val (.int p6), .val (.int (rF p1 p3)), .val (.int (rF p2 p4)), .val (.ref b12), .val (.int (p5 &&& (7 : Int32))), .val (.int p1), .val (.int p2), .val (.int (sF p1 p6)), .val (.int (rF p2 p4)), .unset, .unset] [(.int (rF p2 p4)), (.int (sF p1 p6)), (.int p2), (.int p1), (.ref b134), (.ref b134)])) t → Steps p.tables e below (s₁.setTop (entryFrame m #[(.int p1), (.int p2), (.int p3), (.int p4), (.int p5), (.int p6)] maxLocals)) t := fun t k => pre140 t (by
                show Steps p.tables e below (T134.setTop (mkF m 252 #[.val (.int p1), .val (.int p2), .val (.int p3), .val (.int p4), .val (.int p5), .val (.int p6), .val (.int (rF p1 p3)), .val (.int (rF p2 p4)), .val (.ref b12), .val (.int (p5 &&& (7 : Int32))), .val (.int p1), .val (.int p2), .val (.int (sF p1 p6)), .val (.int (rF p2 p4)), .unset, .unset] [(.ref b134)])) _
                refine XS.dup X134.here hx rfl (hb hby at_252) rfl rfl ?_
                show Steps p.tables e below (T134.setTop (mkF m 253 #[.val (.int p1), .val (.int p2), .val (.int p3), .val (.int p4), .val (.int p5), .val (.int p6), .val (.int (rF p1 p3)), .val (.int (rF p2 p4)), .val (.ref b12), .val (.int (p5 &&& (7 : Int32))), .val (.int p1), .val (.int p2), .val (.int (sF p1 p6)), .val (.int (rF p2 p4)), .unset, .unset] [(.ref b134), (.ref b134)])) _
                refine XS.iload X134.here hx rfl (hb hby at_253) rfl ?_
                show Steps p.tables e below (T134.setTop (mkF m 255 #[.val (.int p1), .val (.int p2), .val (.int p3), .val (.int p4), .val (.int p5), .val (.int p6), .val (.int (rF p1 p3)), .val (.int (rF p2 p4)), .val (.ref b12), .val (.int (p5 &&& (7 : Int32))), .val (.int p1), .val (.int p2), .val (.int (sF p1 p6)), .val (.int (rF p2 p4)), .unset, .unset] [(.int p1), (.ref b134), (.ref b134)])) _
                refine XS.iload X134.here hx rfl (hb hby at_255) rfl ?_
                show Steps p.tables e below (T134.setTop (mkF m 257 #[.val (.int p1), .val (.int p2), .val (.int p3), .val (.int p4), .val (.int p5), .val (.int p6), .val (.int (rF p1 p3)), .val (.int (rF p2 p4)), .val (.ref b12), .val (.int (p5 &&& (7 : Int32))), .val (.int p1), .val (.int p2), .val (.int (sF p1 p6)), .val (.int (rF p2 p4)), .unset, .unset] [(.int p2), (.int p1), (.ref b134), (.ref b134)])) _
                refine XS.iload X134.here hx rfl (hb hby at_257) rfl ?_
                show Steps p.tables e below (T134.setTop (mkF m 259 #[.val (.int p1), .val (.int p2), .val (.int p3), .val (.int p4), .val (.int p5), .val (.int p6), .val (.int (rF p1 p3)), .val (.int (rF p2 p4)), .val (.ref b12), .val (.int (p5 &&& (7 : Int32))), .val (.int p1), .val (.int p2), .val (.int (sF p1 p6)), .val (.int (rF p2 p4)), .unset, .unset] [(.int (sF p1 p6)), (.int p2), (.int p1), (.ref b134), (.ref b134)])) _
                refine XS.iload X134.here hx rfl (hb hby at_259) rfl ?_
                exact k)
              obtain ⟨_, _, ⟨T142, L142, k142, n142⟩, -, X142, ⟨Lc142, hQ142, l142, y142, z142⟩, st142⟩ := X134.specialBack hx (y := (⟨"com/example/blynds/blynds/engine/Rect", "<init>", "(IIII)V"⟩ : MethodName)) rfl hown (mvT hZ (hw _ (List.mem_of_getElem? (i := 9) rfl))) (mvT hZ (hw _ (List.mem_of_getElem? (i := 10) rfl))) (mvT hZ (hw _ (List.mem_of_getElem? (i := 11) rfl))) (by decide) (backOf (W := 1) (rm_rc l Z a0 hw [] b134 p1 p2 (sF p1 p6) (rF p2 p4) h134 n0 Z134 O134 A134 F_left_b134 F_top_b134 F_right_b134 F_bottom_b134 g_b134 z_b134 (own_sF _ _) (own_rF _ _)) hZ (hw _ (List.mem_of_getElem? (i := 11) rfl)) (hw _ (List.mem_of_getElem? (i := 8) rfl)) (by decide) (by decide)) (g := (mkF m 261 #[.val (.int p1), .val (.int p2), .val (.int p3), .val (.int p4), .val (.int p5), .val (.int p6), .val (.int (rF p1 p3)), .val (.int (rF p2 p4)), .val (.ref b12), .val (.int (p5 &&& (7 : Int32))), .val (.int p1), .val (.int p2), .val (.int (sF p1 p6)), .val (.int (rF p2 p4)), .unset, .unset] [(.int (rF p2 p4)), (.int (sF p1 p6)), (.int p2), (.int p1), (.ref b134), (.ref b134)])) rfl (by rw [hml]; rfl) (Steps.refl _) (a := b134) (argsL := [(.int p1), (.int p2), (.int (sF p1 p6)), (.int (rF p2 p4))]) (rest := [(.ref b134)]) (lenOf pd_3 rfl) rfl (by show 2 * 0 + _ ≤ _; exact Nat.le_of_eq rfl) (hb hby at_261) (fun _ _ => ⟨rfl, e134, (by decide : 2 + 0 ≤ _), (by decide : 8 + 0 ≤ _)⟩)
              dsimp only [Pt.U, Pt.locs, Pt.cells, Pt.slots] at X142 l142 y142 z142 st142 hQ142
              subst l142 y142 z142
              obtain ⟨rfl, N142q, Kq142, r142_0, r142_1, r142_2, r142_3, r142_4⟩ := hQ142
              have f143 := (f135.keep Kq142)
              have f144 := (f136.keep Kq142 (ninS neb12_b134 nin0))
              have f145 := (f137.keep Kq142 (ninS neb12_b134 nin0))
              have f146 := (f138.keep Kq142 (ninS neb12_b134 nin0))
              have f147 := (f139.keep Kq142 (ninS neb12_b134 nin0))
              have O142 : Ext Z.heap T142.heap := own_ext_keep O134 Kq142 (allS z_b134 all0)
              have K142 := K134.trans Kq142 (allS (Or.inr sz_b134) all0)
              have Z142 : n0 ≤ T142.heap.size := Nat.le_trans Z134 Kq142.1
              have N142 := Fr.app N129 N142q
              have pre148 : ∀ t, Steps p.tables e below (T142.setTop (mkF m 264 #[.val (.int p1), .val (.int p2), .val (.int p3), .val (.int p4), .val (.int p5), .val (.int p6), .val (.int (rF p1 p3)), .val (.int (rF p2 p4)), .val (.ref b12), .val (.int (p5 &&& (7 : Int32))), .val (.int p1), .val (.int p2), .val (.int (sF p1 p6)), .val (.int (rF p2 p4)), .unset, .unset] [(.ref b134)])) t → Steps p.tables e below (s₁.setTop (entryFrame m #[(.int p1), (.int p2), (.int p3), (.int p4), (.int p5), (.int p6)] maxLocals)) t := fun t k => pre141 t (st142.trans k)
              have pre149 : ∀ t, Steps p.tables e below (T142.setTop (mkF m 282 #[.val (.int p1), .val (.int p2), .val (.int p3), .val (.int p4), .val (.int p5), .val (.int p6), .val (.int (rF p1 p3)), .val (.int (rF p2 p4)), .val (.ref b12), .val (.int (p5 &&& (7 : Int32))), .val (.int p1), .val (.int p2), .val (.int (sF p1 p6)), .val (.int (rF p2 p4)), .val (.ref b134), .unset] [(.int (sF p1 p6)), (.int (rF p1 p3))])) t → Steps p.tables e below (s₁.setTop (entryFrame m #[(.int p1), (.int p2), (.int p3), (.int p4), (.int p5), (.int p6)] maxLocals)) t := fun t k => pre148 t (by
                show Steps p.tables e below (T142.setTop (mkF m 264 #[.val (.int p1), .val (.int p2), .val (.int p3), .val (.int p4), .val (.int p5), .val (.int p6), .val (.int (rF p1 p3)), .val (.int (rF p2 p4)), .val (.ref b12), .val (.int (p5 &&& (7 : Int32))), .val (.int p1), .val (.int p2), .val (.int (sF p1 p6)), .val (.int (rF p2 p4)), .unset, .unset] [(.ref b134)])) _
                refine XS.astore X142.here hx rfl (hb hby at_264) rfl rfl (l' := #[.val (.int p1), .val (.int p2), .val (.int p3), .val (.int p4), .val (.int p5), .val (.int p6), .val (.int (rF p1 p3)), .val (.int (rF p2 p4)), .val (.ref b12), .val (.int (p5 &&& (7 : Int32))), .val (.int p1), .val (.int p2), .val (.int (sF p1 p6)), .val (.int (rF p2 p4)), .val (.ref b134), .unset]) rfl ?_
                show Steps p.tables e below (T142.setTop (mkF m 266 #[.val (.int p1), .val (.int p2), .val (.int p3), .val (.int p4), .val (.int p5), .val (.int p6), .val (.int (rF p1 p3)), .val (.int (rF p2 p4)), .val (.ref b12), .val (.int (p5 &&& (7 : Int32))), .val (.int p1), .val (.int p2), .val (.int (sF p1 p6)), .val (.int (rF p2 p4)), .val (.ref b134), .unset] [])) _
                refine XS.iloadN X142.here hx rfl (hb hby at_266) rfl ?_
                show Steps p.tables e below (T142.setTop (mkF m 267 #[.val (.int p1), .val (.int p2), .val (.int p3), .val (.int p4), .val (.int p5), .val (.int p6), .val (.int (rF p1 p3)), .val (.int (rF p2 p4)), .val (.ref b12), .val (.int (p5 &&& (7 : Int32))), .val (.int p1), .val (.int p2), .val (.int (sF p1 p6)), .val (.int (rF p2 p4)), .val (.ref b134), .unset] [(.int p1)])) _
                refine XS.iload X142.here hx rfl (hb hby at_267) rfl ?_
                show Steps p.tables e below (T142.setTop (mkF m 269 #[.val (.int p1), .val (.int p2), .val (.int p3), .val (.int p4), .val (.int p5), .val (.int p6), .val (.int (rF p1 p3)), .val (.int (rF p2 p4)), .val (.ref b12), .val (.int (p5 &&& (7 : Int32))), .val (.int p1), .val (.int p2), .val (.int (sF p1 p6)), .val (.int (rF p2 p4)), .val (.ref b134), .unset] [(.int p1), (.int p1)])) _
                refine XS.icmpNo X142.here hx rfl (hb hby at_269) rfl (teq (rfl : p1 = p1)).2 ?_
                show Steps p.tables e below (T142.setTop (mkF m 272 #[.val (.int p1), .val (.int p2), .val (.int p3), .val (.int p4), .val (.int p5), .val (.int p6), .val (.int (rF p1 p3)), .val (.int (rF p2 p4)), .val (.ref b12), .val (.int (p5 &&& (7 : Int32))), .val (.int p1), .val (.int p2), .val (.int (sF p1 p6)), .val (.int (rF p2 p4)), .val (.ref b134), .unset] [])) _
                refine XS.iloadN X142.here hx rfl (hb hby at_272) rfl ?_
                show Steps p.tables e below (T142.setTop (mkF m 273 #[.val (.int p1), .val (.int p2), .val (.int p3), .val (.int p4), .val (.int p5), .val (.int p6), .val (.int (rF p1 p3)), .val (.int (rF p2 p4)), .val (.ref b12), .val (.int (p5 &&& (7 : Int32))), .val (.int p1), .val (.int p2), .val (.int (sF p1 p6)), .val (.int (rF p2 p4)), .val (.ref b134), .unset] [(.int p2)])) _
                refine XS.iload X142.here hx rfl (hb hby at_273) rfl ?_
                show Steps p.tables e below (T142.setTop (mkF m 275 #[.val (.int p1), .val (.int p2), .val (.int p3), .val (.int p4), .val (.int p5), .val (.int p6), .val (.int (rF p1 p3)), .val (.int (rF p2 p4)), .val (.ref b12), .val (.int (p5 &&& (7 : Int32))), .val (.int p1), .val (.int p2), .val (.int (sF p1 p6)), .val (.int (rF p2 p4)), .val (.ref b134), .unset] [(.int p2), (.int p2)])) _
                refine XS.icmpNo X142.here hx rfl (hb hby at_275) rfl (teq (rfl : p2 = p2)).2 ?_
                show Steps p.tables e below (T142.setTop (mkF m 278 #[.val (.int p1), .val (.int p2), .val (.int p3), .val (.int p4), .val (.int p5), .val (.int p6), .val (.int (rF p1 p3)), .val (.int (rF p2 p4)), .val (.ref b12), .val (.int (p5 &&& (7 : Int32))), .val (.int p1), .val (.int p2), .val (.int (sF p1 p6)), .val (.int (rF p2 p4)), .val (.ref b134), .unset] [])) _
                refine XS.iload X142.here hx rfl (hb hby at_278) rfl ?_
                show Steps p.tables e below (T142.setTop (mkF m 280 #[.val (.int p1), .val (.int p2), .val (.int p3), .val (.int p4), .val (.int p5), .val (.int p6), .val (.int (rF p1 p3)), .val (.int (rF p2 p4)), .val (.ref b12), .val (.int (p5 &&& (7 : Int32))), .val (.int p1), .val (.int p2), .val (.int (sF p1 p6)), .val (.int (rF p2 p4)), .val (.ref b134), .unset] [(.int (rF p1 p3))])) _
                refine XS.iload X142.here hx rfl (hb hby at_280) rfl ?_
                exact k)
              by_cases hc282_150 : (rF p1 p3) = (sF p1 p6)
              · have pre151 : ∀ t, Steps p.tables e below (T142.setTop (mkF m 303 #[.val (.int p1), .val (.int p2), .val (.int p3), .val (.int p4), .val (.int p5), .val (.int p6), .val (.int (rF p1 p3)), .val (.int (rF p2 p4)), .val (.ref b12), .val (.int (p5 &&& (7 : Int32))), .val (.int p1), .val (.int p2), .val (.int (sF p1 p6)), .val (.int (rF p2 p4)), .val (.ref b134), .val (.int (1 : Int32))] [(.ref b134), (.ref b12)])) t → Steps p.tables e below (s₁.setTop (entryFrame m #[(.int p1), (.int p2), (.int p3), (.int p4), (.int p5), (.int p6)] maxLocals)) t := fun t k => pre149 t (by
                  show Steps p.tables e below (T142.setTop (mkF m 282 #[.val (.int p1), .val (.int p2), .val (.int p3), .val (.int p4), .val (.int p5), .val (.int p6), .val (.int (rF p1 p3)), .val (.int (rF p2 p4)), .val (.ref b12), .val (.int (p5 &&& (7 : Int32))), .val (.int p1), .val (.int p2), .val (.int (sF p1 p6)), .val (.int (rF p2 p4)), .val (.ref b134), .unset] [(.int (sF p1 p6)), (.int (rF p1 p3))])) _
                  refine XS.icmpNo X142.here hx rfl (hb hby at_282) rfl (teq hc282_150).2 ?_
                  show Steps p.tables e below (T142.setTop (mkF m 285 #[.val (.int p1), .val (.int p2), .val (.int p3), .val (.int p4), .val (.int p5), .val (.int p6), .val (.int (rF p1 p3)), .val (.int (rF p2 p4)), .val (.ref b12), .val (.int (p5 &&& (7 : Int32))), .val (.int p1), .val (.int p2), .val (.int (sF p1 p6)), .val (.int (rF p2 p4)), .val (.ref b134), .unset] [])) _
                  refine XS.iload X142.here hx rfl (hb hby at_285) rfl ?_
                  show Steps p.tables e below (T142.setTop (mkF m 287 #[.val (.int p1), .val (.int p2), .val (.int p3), .val (.int p4), .val (.int p5), .val (.int p6), .val (.int (rF p1 p3)), .val (.int (rF p2 p4)), .val (.ref b12), .val (.int (p5 &&& (7 : Int32))), .val (.int p1), .val (.int p2), .val (.int (sF p1 p6)), .val (.int (rF p2 p4)), .val (.ref b134), .unset] [(.int (rF p2 p4))])) _
                  refine XS.iload X142.here hx rfl (hb hby at_287) rfl ?_
                  show Steps p.tables e below (T142.setTop (mkF m 289 #[.val (.int p1), .val (.int p2), .val (.int p3), .val (.int p4), .val (.int p5), .val (.int p6), .val (.int (rF p1 p3)), .val (.int (rF p2 p4)), .val (.ref b12), .val (.int (p5 &&& (7 : Int32))), .val (.int p1), .val (.int p2), .val (.int (sF p1 p6)), .val (.int (rF p2 p4)), .val (.ref b134), .unset] [(.int (rF p2 p4)), (.int (rF p2 p4))])) _
                  refine XS.icmpNo X142.here hx rfl (hb hby at_289) rfl (teq (rfl : (rF p2 p4) = (rF p2 p4))).2 ?_
                  show Steps p.tables e below (T142.setTop (mkF m 292 #[.val (.int p1), .val (.int p2), .val (.int p3), .val (.int p4), .val (.int p5), .val (.int p6), .val (.int (rF p1 p3)), .val (.int (rF p2 p4)), .val (.ref b12), .val (.int (p5 &&& (7 : Int32))), .val (.int p1), .val (.int p2), .val (.int (sF p1 p6)), .val (.int (rF p2 p4)), .val (.ref b134), .unset] [])) _
                  refine XS.iconst X142.here hx rfl (hb hby at_292) ?_
                  show Steps p.tables e below (T142.setTop (mkF m 293 #[.val (.int p1), .val (.int p2), .val (.int p3), .val (.int p4), .val (.int p5), .val (.int p6), .val (.int (rF p1 p3)), .val (.int (rF p2 p4)), .val (.ref b12), .val (.int (p5 &&& (7 : Int32))), .val (.int p1), .val (.int p2), .val (.int (sF p1 p6)), .val (.int (rF p2 p4)), .val (.ref b134), .unset] [(.int (1 : Int32))])) _
                  refine XS.goto X142.here hx rfl (pc0 := 293) (pc' := 297) rfl (hb hby at_293) (by decide) (by decide) ?_
                  show Steps p.tables e below (T142.setTop (mkF m 297 #[.val (.int p1), .val (.int p2), .val (.int p3), .val (.int p4), .val (.int p5), .val (.int p6), .val (.int (rF p1 p3)), .val (.int (rF p2 p4)), .val (.ref b12), .val (.int (p5 &&& (7 : Int32))), .val (.int p1), .val (.int p2), .val (.int (sF p1 p6)), .val (.int (rF p2 p4)), .val (.ref b134), .unset] [(.int (1 : Int32))])) _
                  refine XS.istore X142.here hx rfl (hb hby at_297) rfl (l' := #[.val (.int p1), .val (.int p2), .val (.int p3), .val (.int p4), .val (.int p5), .val (.int p6), .val (.int (rF p1 p3)), .val (.int (rF p2 p4)), .val (.ref b12), .val (.int (p5 &&& (7 : Int32))), .val (.int p1), .val (.int p2), .val (.int (sF p1 p6)), .val (.int (rF p2 p4)), .val (.ref b134), .val (.int (1 : Int32))]) rfl ?_
                  show Steps p.tables e below (T142.setTop (mkF m 299 #[.val (.int p1), .val (.int p2), .val (.int p3), .val (.int p4), .val (.int p5), .val (.int p6), .val (.int (rF p1 p3)), .val (.int (rF p2 p4)), .val (.ref b12), .val (.int (p5 &&& (7 : Int32))), .val (.int p1), .val (.int p2), .val (.int (sF p1 p6)), .val (.int (rF p2 p4)), .val (.ref b134), .val (.int (1 : Int32))] [])) _
                  refine XS.aload X142.here hx rfl (hb hby at_299) rfl rfl ?_
                  show Steps p.tables e below (T142.setTop (mkF m 301 #[.val (.int p1), .val (.int p2), .val (.int p3), .val (.int p4), .val (.int p5), .val (.int p6), .val (.int (rF p1 p3)), .val (.int (rF p2 p4)), .val (.ref b12), .val (.int (p5 &&& (7 : Int32))), .val (.int p1), .val (.int p2), .val (.int (sF p1 p6)), .val (.int (rF p2 p4)), .val (.ref b134), .val (.int (1 : Int32))] [(.ref b12)])) _
                  refine XS.aload X142.here hx rfl (hb hby at_301) rfl rfl ?_
                  exact k)
                obtain ⟨cq152, kq152, q152a, q152b, q152c⟩ := isOf hZ rfl f143
                obtain ⟨_, _, ⟨T152, L152, k152, n152⟩, -, X152, ⟨Lc152, hQ152, l152, y152, z152⟩, st152⟩ := X142.virtualBack hx (y := (⟨"com/example/blynds/blynds/engine/Rect", "equals", "(Ljava/lang/Object;)Z"⟩ : MethodName)) (z := (⟨"com/example/blynds/blynds/engine/Rect", "equals", "(Ljava/lang/Object;)Z"⟩ : MethodName)) hown (mvT hZ (hw _ (List.mem_of_getElem? (i := 24) rfl))) (mvT hZ (hw _ (List.mem_of_getElem? (i := 25) rfl))) (notFace_of_selects (args := #[]) (mvT hZ (hw _ (List.mem_of_getElem? (i := 27) rfl)))) (mvT hZ (hw _ (List.mem_of_getElem? (i := 27) rfl))) (mvT hZ (hw _ (List.mem_of_getElem? (i := 26) rfl))) (by decide) (backOf (W := 0) (rm_eqobj l Z a0 hw [] b12 b134 p1 p2 (rF p1 p3) (rF p2 p4) p1 p2 (sF p1 p6) (rF p2 p4) T142.heap n0 Z142 O142 r142_0 f144 f145 f146 f147 r142_1 r142_2 r142_3 r142_4 neb12_b134) hZ (hw _ (List.mem_of_getElem? (i := 28) rfl)) (hw _ (List.mem_of_getElem? (i := 8) rfl)) (by decide) (by decide)) q152a q152c (g := (mkF m 303 #[.val (.int p1), .val (.int p2), .val (.int p3), .val (.int p4), .val (.int p5), .val (.int p6), .val (.int (rF p1 p3)), .val (.int (rF p2 p4)), .val (.ref b12), .val (.int (p5 &&& (7 : Int32))), .val (.int p1), .val (.int p2), .val (.int (sF p1 p6)), .val (.int (rF p2 p4)), .val (.ref b134), .val (.int (1 : Int32))] [(.ref b134), (.ref b12)])) rfl (by rw [hml]; rfl) (Steps.refl _) (argsL := [(.ref b134)]) (rest := []) (lenOf pd_4 rfl) rfl (by show 2 * 0 + _ ≤ _; exact Nat.le_of_eq rfl) (hb hby at_303) (fun _ _ => ⟨rfl, rfl, (by decide : 2 + 0 ≤ _), (by decide : 8 + 0 ≤ _)⟩)
                dsimp only [Pt.U, Pt.locs, Pt.cells, Pt.slots] at X152 l152 y152 z152 st152 hQ152
                subst l152 y152 z152
                obtain ⟨hv152, N152q, e152⟩ := hQ152
                rw [(show (eqNF p1 p2 (rF p1 p3) (rF p2 p4) p1 p2 (sF p1 p6) (rF p2 p4)) = (1 : Int32) from (own_eq_yes rfl rfl hc282_150 rfl))] at hv152
                subst hv152
                have N152 := Fr.app N142 N152q
                have pre153 : ∀ t, Steps p.tables e below (T152.setTop (mkF m 306 #[.val (.int p1), .val (.int p2), .val (.int p3), .val (.int p4), .val (.int p5), .val (.int p6), .val (.int (rF p1 p3)), .val (.int (rF p2 p4)), .val (.ref b12), .val (.int (p5 &&& (7 : Int32))), .val (.int p1), .val (.int p2), .val (.int (sF p1 p6)), .val (.int (rF p2 p4)), .val (.ref b134), .val (.int (1 : Int32))] [(.int (1 : Int32))])) t → Steps p.tables e below (s₁.setTop (entryFrame m #[(.int p1), (.int p2), (.int p3), (.int p4), (.int p5), (.int p6)] maxLocals)) t := fun t k => pre151 t (st152.trans k)
                have pre154 : ∀ t, Steps p.tables e below (T152.setTop (mkF m 315 #[.val (.int p1), .val (.int p2), .val (.int p3), .val (.int p4), .val (.int p5), .val (.int p6), .val (.int (rF p1 p3)), .val (.int (rF p2 p4)), .val (.ref b12), .val (.int (p5 &&& (7 : Int32))), .val (.int p1), .val (.int p2), .val (.int (sF p1 p6)), .val (.int (rF p2 p4)), .val (.ref b134), .val (.int (1 : Int32))] [(.ref b12), (.ref b134)])) t → Steps p.tables e below (s₁.setTop (entryFrame m #[(.int p1), (.int p2), (.int p3), (.int p4), (.int p5), (.int p6)] maxLocals)) t := fun t k => pre153 t (by
                  show Steps p.tables e below (T152.setTop (mkF m 306 #[.val (.int p1), .val (.int p2), .val (.int p3), .val (.int p4), .val (.int p5), .val (.int p6), .val (.int (rF p1 p3)), .val (.int (rF p2 p4)), .val (.ref b12), .val (.int (p5 &&& (7 : Int32))), .val (.int p1), .val (.int p2), .val (.int (sF p1 p6)), .val (.int (rF p2 p4)), .val (.ref b134), .val (.int (1 : Int32))] [(.int (1 : Int32))])) _
                  refine XS.iload X152.here hx rfl (hb hby at_306) rfl ?_
                  show Steps p.tables e below (T152.setTop (mkF m 308 #[.val (.int p1), .val (.int p2), .val (.int p3), .val (.int p4), .val (.int p5), .val (.int p6), .val (.int (rF p1 p3)), .val (.int (rF p2 p4)), .val (.ref b12), .val (.int (p5 &&& (7 : Int32))), .val (.int p1), .val (.int p2), .val (.int (sF p1 p6)), .val (.int (rF p2 p4)), .val (.ref b134), .val (.int (1 : Int32))] [(.int (1 : Int32)), (.int (1 : Int32))])) _
                  refine XS.icmpNo X152.here hx rfl (hb hby at_308) rfl (teq (by decide : (1 : Int32) = (1 : Int32))).2 ?_
                  show Steps p.tables e below (T152.setTop (mkF m 311 #[.val (.int p1), .val (.int p2), .val (.int p3), .val (.int p4), .val (.int p5), .val (.int p6), .val (.int (rF p1 p3)), .val (.int (rF p2 p4)), .val (.ref b12), .val (.int (p5 &&& (7 : Int32))), .val (.int p1), .val (.int p2), .val (.int (sF p1 p6)), .val (.int (rF p2 p4)), .val (.ref b134), .val (.int (1 : Int32))] [])) _
                  refine XS.aload X152.here hx rfl (hb hby at_311) rfl rfl ?_
                  show Steps p.tables e below (T152.setTop (mkF m 313 #[.val (.int p1), .val (.int p2), .val (.int p3), .val (.int p4), .val (.int p5), .val (.int p6), .val (.int (rF p1 p3)), .val (.int (rF p2 p4)), .val (.ref b12), .val (.int (p5 &&& (7 : Int32))), .val (.int p1), .val (.int p2), .val (.int (sF p1 p6)), .val (.int (rF p2 p4)), .val (.ref b134), .val (.int (1 : Int32))] [(.ref b134)])) _
                  refine XS.aload X152.here hx rfl (hb hby at_313) rfl rfl ?_
                  exact k)
                obtain ⟨cq155, kq155, q155a, q155b, q155c⟩ := isOf hZ e152 r142_0
                obtain ⟨_, _, ⟨T155, L155, k155, n155⟩, -, X155, ⟨Lc155, hQ155, l155, y155, z155⟩, st155⟩ := X152.virtualBack hx (y := (⟨"com/example/blynds/blynds/engine/Rect", "equals", "(Ljava/lang/Object;)Z"⟩ : MethodName)) (z := (⟨"com/example/blynds/blynds/engine/Rect", "equals", "(Ljava/lang/Object;)Z"⟩ : MethodName)) hown (mvT hZ (hw _ (List.mem_of_getElem? (i := 24) rfl))) (mvT hZ (hw _ (List.mem_of_getElem? (i := 25) rfl))) (notFace_of_selects (args := #[]) (mvT hZ (hw _ (List.mem_of_getElem? (i := 27) rfl)))) (mvT hZ (hw _ (List.mem_of_getElem? (i := 27) rfl))) (mvT hZ (hw _ (List.mem_of_getElem? (i := 26) rfl))) (by decide) (backOf (W := 0) (rm_eqobj l Z a0 hw [] b134 b12 p1 p2 (sF p1 p6) (rF p2 p4) p1 p2 (rF p1 p3) (rF p2 p4) T142.heap n0 Z142 O142 f143 r142_1 r142_2 r142_3 r142_4 f144 f145 f146 f147 (Ne.symm neb12_b134)) hZ (hw _ (List.mem_of_getElem? (i := 28) rfl)) (hw _ (List.mem_of_getElem? (i := 8) rfl)) (by decide) (by decide)) q155a q155c (g := (mkF m 315 #[.val (.int p1), .val (.int p2), .val (.int p3), .val (.int p4), .val (.int p5), .val (.int p6), .val (.int (rF p1 p3)), .val (.int (rF p2 p4)), .val (.ref b12), .val (.int (p5 &&& (7 : Int32))), .val (.int p1), .val (.int p2), .val (.int (sF p1 p6)), .val (.int (rF p2 p4)), .val (.ref b134), .val (.int (1 : Int32))] [(.ref b12), (.ref b134)])) rfl (by rw [hml]; rfl) (Steps.refl _) (argsL := [(.ref b12)]) (rest := []) (lenOf pd_4 rfl) rfl (by show 2 * 0 + _ ≤ _; exact Nat.le_of_eq rfl) (hb hby at_315) (fun _ _ => ⟨rfl, e152, (by decide : 2 + 0 ≤ _), (by decide : 8 + 0 ≤ _)⟩)
                dsimp only [Pt.U, Pt.locs, Pt.cells, Pt.slots] at X155 l155 y155 z155 st155 hQ155
                subst l155 y155 z155
                obtain ⟨hv155, N155q, e155⟩ := hQ155
                rw [(show (eqNF p1 p2 (sF p1 p6) (rF p2 p4) p1 p2 (rF p1 p3) (rF p2 p4)) = (1 : Int32) from (own_eq_yes rfl rfl (hc282_150).symm rfl))] at hv155
                subst hv155
                have N155 := Fr.app N152 N155q
                have pre156 : ∀ t, Steps p.tables e below (T155.setTop (mkF m 318 #[.val (.int p1), .val (.int p2), .val (.int p3), .val (.int p4), .val (.int p5), .val (.int p6), .val (.int (rF p1 p3)), .val (.int (rF p2 p4)), .val (.ref b12), .val (.int (p5 &&& (7 : Int32))), .val (.int p1), .val (.int p2), .val (.int (sF p1 p6)), .val (.int (rF p2 p4)), .val (.ref b134), .val (.int (1 : Int32))] [(.int (1 : Int32))])) t → Steps p.tables e below (s₁.setTop (entryFrame m #[(.int p1), (.int p2), (.int p3), (.int p4), (.int p5), (.int p6)] maxLocals)) t := fun t k => pre154 t (st155.trans k)
                have pre157 : ∀ t, Steps p.tables e below (T155.setTop (mkF m 328 #[.val (.int p1), .val (.int p2), .val (.int p3), .val (.int p4), .val (.int p5), .val (.int p6), .val (.int (rF p1 p3)), .val (.int (rF p2 p4)), .val (.ref b12), .val (.int (p5 &&& (7 : Int32))), .val (.int p1), .val (.int p2), .val (.int (sF p1 p6)), .val (.int (rF p2 p4)), .val (.ref b134), .val (.int (1 : Int32))] [(.int (1 : Int32))])) t → Steps p.tables e below (s₁.setTop (entryFrame m #[(.int p1), (.int p2), (.int p3), (.int p4), (.int p5), (.int p6)] maxLocals)) t := fun t k => pre156 t (by
                  show Steps p.tables e below (T155.setTop (mkF m 318 #[.val (.int p1), .val (.int p2), .val (.int p3), .val (.int p4), .val (.int p5), .val (.int p6), .val (.int (rF p1 p3)), .val (.int (rF p2 p4)), .val (.ref b12), .val (.int (p5 &&& (7 : Int32))), .val (.int p1), .val (.int p2), .val (.int (sF p1 p6)), .val (.int (rF p2 p4)), .val (.ref b134), .val (.int (1 : Int32))] [(.int (1 : Int32))])) _
                  refine XS.iload X155.here hx rfl (hb hby at_318) rfl ?_
                  show Steps p.tables e below (T155.setTop (mkF m 320 #[.val (.int p1), .val (.int p2), .val (.int p3), .val (.int p4), .val (.int p5), .val (.int p6), .val (.int (rF p1 p3)), .val (.int (rF p2 p4)), .val (.ref b12), .val (.int (p5 &&& (7 : Int32))), .val (.int p1), .val (.int p2), .val (.int (sF p1 p6)), .val (.int (rF p2 p4)), .val (.ref b134), .val (.int (1 : Int32))] [(.int (1 : Int32)), (.int (1 : Int32))])) _
                  refine XS.icmpNo X155.here hx rfl (hb hby at_320) rfl (teq (by decide : (1 : Int32) = (1 : Int32))).2 ?_
                  show Steps p.tables e below (T155.setTop (mkF m 323 #[.val (.int p1), .val (.int p2), .val (.int p3), .val (.int p4), .val (.int p5), .val (.int p6), .val (.int (rF p1 p3)), .val (.int (rF p2 p4)), .val (.ref b12), .val (.int (p5 &&& (7 : Int32))), .val (.int p1), .val (.int p2), .val (.int (sF p1 p6)), .val (.int (rF p2 p4)), .val (.ref b134), .val (.int (1 : Int32))] [])) _
                  refine XS.iconst X155.here hx rfl (hb hby at_323) ?_
                  show Steps p.tables e below (T155.setTop (mkF m 324 #[.val (.int p1), .val (.int p2), .val (.int p3), .val (.int p4), .val (.int p5), .val (.int p6), .val (.int (rF p1 p3)), .val (.int (rF p2 p4)), .val (.ref b12), .val (.int (p5 &&& (7 : Int32))), .val (.int p1), .val (.int p2), .val (.int (sF p1 p6)), .val (.int (rF p2 p4)), .val (.ref b134), .val (.int (1 : Int32))] [(.int (1 : Int32))])) _
                  refine XS.goto X155.here hx rfl (pc0 := 324) (pc' := 328) rfl (hb hby at_324) (by decide) (by decide) ?_
                  exact k)
                obtain ⟨fs, hr, hrun, hended, hW, hsame⟩ := X155.leave (v := some (.int (1 : Int32))) (fun h => by rw [Bd.returns] at h; cases h)
                refine ⟨_, _, pre157 _ ?_, hrun, hended, _, _, rfl, ?_, ⟨_, rfl⟩, hW, hsame.mono (by decide) (by decide)⟩
                · exact retN X155 hx (t := .boolean) Bd.returns (by simp) (hb hby at_328) hr
                · show Q_rm_law Z p1 p2 p3 p4 p5 p6 cA cl h0 n0 _ T155.heap _
                  rw [e155]
                  exact ⟨rfl, N155⟩
              · have pre158 : ∀ t, Steps p.tables e below (T142.setTop (mkF m 303 #[.val (.int p1), .val (.int p2), .val (.int p3), .val (.int p4), .val (.int p5), .val (.int p6), .val (.int (rF p1 p3)), .val (.int (rF p2 p4)), .val (.ref b12), .val (.int (p5 &&& (7 : Int32))), .val (.int p1), .val (.int p2), .val (.int (sF p1 p6)), .val (.int (rF p2 p4)), .val (.ref b134), .val (.int (0 : Int32))] [(.ref b134), (.ref b12)])) t → Steps p.tables e below (s₁.setTop (entryFrame m #[(.int p1), (.int p2), (.int p3), (.int p4), (.int p5), (.int p6)] maxLocals)) t := fun t k => pre149 t (by
                  show Steps p.tables e below (T142.setTop (mkF m 282 #[.val (.int p1), .val (.int p2), .val (.int p3), .val (.int p4), .val (.int p5), .val (.int p6), .val (.int (rF p1 p3)), .val (.int (rF p2 p4)), .val (.ref b12), .val (.int (p5 &&& (7 : Int32))), .val (.int p1), .val (.int p2), .val (.int (sF p1 p6)), .val (.int (rF p2 p4)), .val (.ref b134), .unset] [(.int (sF p1 p6)), (.int (rF p1 p3))])) _
                  refine XS.icmpYes X142.here hx rfl (pc0 := 282) (pc' := 296) rfl (hb hby at_282) rfl (feq hc282_150).2 (by decide) (by decide) ?_
                  show Steps p.tables e below (T142.setTop (mkF m 296 #[.val (.int p1), .val (.int p2), .val (.int p3), .val (.int p4), .val (.int p5), .val (.int p6), .val (.int (rF p1 p3)), .val (.int (rF p2 p4)), .val (.ref b12), .val (.int (p5 &&& (7 : Int32))), .val (.int p1), .val (.int p2), .val (.int (sF p1 p6)), .val (.int (rF p2 p4)), .val (.ref b134), .unset] [])) _
                  refine XS.iconst X142.here hx rfl (hb hby at_296) ?_
                  show Steps p.tables e below (T142.setTop (mkF m 297 #[.val (.int p1), .val (.int p2), .val (.int p3), .val (.int p4), .val (.int p5), .val (.int p6), .val (.int (rF p1 p3)), .val (.int (rF p2 p4)), .val (.ref b12), .val (.int (p5 &&& (7 : Int32))), .val (.int p1), .val (.int p2), .val (.int (sF p1 p6)), .val (.int (rF p2 p4)), .val (.ref b134), .unset] [(.int (0 : Int32))])) _
                  refine XS.istore X142.here hx rfl (hb hby at_297) rfl (l' := #[.val (.int p1), .val (.int p2), .val (.int p3), .val (.int p4), .val (.int p5), .val (.int p6), .val (.int (rF p1 p3)), .val (.int (rF p2 p4)), .val (.ref b12), .val (.int (p5 &&& (7 : Int32))), .val (.int p1), .val (.int p2), .val (.int (sF p1 p6)), .val (.int (rF p2 p4)), .val (.ref b134), .val (.int (0 : Int32))]) rfl ?_
                  show Steps p.tables e below (T142.setTop (mkF m 299 #[.val (.int p1), .val (.int p2), .val (.int p3), .val (.int p4), .val (.int p5), .val (.int p6), .val (.int (rF p1 p3)), .val (.int (rF p2 p4)), .val (.ref b12), .val (.int (p5 &&& (7 : Int32))), .val (.int p1), .val (.int p2), .val (.int (sF p1 p6)), .val (.int (rF p2 p4)), .val (.ref b134), .val (.int (0 : Int32))] [])) _
                  refine XS.aload X142.here hx rfl (hb hby at_299) rfl rfl ?_
                  show Steps p.tables e below (T142.setTop (mkF m 301 #[.val (.int p1), .val (.int p2), .val (.int p3), .val (.int p4), .val (.int p5), .val (.int p6), .val (.int (rF p1 p3)), .val (.int (rF p2 p4)), .val (.ref b12), .val (.int (p5 &&& (7 : Int32))), .val (.int p1), .val (.int p2), .val (.int (sF p1 p6)), .val (.int (rF p2 p4)), .val (.ref b134), .val (.int (0 : Int32))] [(.ref b12)])) _
                  refine XS.aload X142.here hx rfl (hb hby at_301) rfl rfl ?_
                  exact k)
                obtain ⟨cq159, kq159, q159a, q159b, q159c⟩ := isOf hZ rfl f143
                obtain ⟨_, _, ⟨T159, L159, k159, n159⟩, -, X159, ⟨Lc159, hQ159, l159, y159, z159⟩, st159⟩ := X142.virtualBack hx (y := (⟨"com/example/blynds/blynds/engine/Rect", "equals", "(Ljava/lang/Object;)Z"⟩ : MethodName)) (z := (⟨"com/example/blynds/blynds/engine/Rect", "equals", "(Ljava/lang/Object;)Z"⟩ : MethodName)) hown (mvT hZ (hw _ (List.mem_of_getElem? (i := 24) rfl))) (mvT hZ (hw _ (List.mem_of_getElem? (i := 25) rfl))) (notFace_of_selects (args := #[]) (mvT hZ (hw _ (List.mem_of_getElem? (i := 27) rfl)))) (mvT hZ (hw _ (List.mem_of_getElem? (i := 27) rfl))) (mvT hZ (hw _ (List.mem_of_getElem? (i := 26) rfl))) (by decide) (backOf (W := 0) (rm_eqobj l Z a0 hw [] b12 b134 p1 p2 (rF p1 p3) (rF p2 p4) p1 p2 (sF p1 p6) (rF p2 p4) T142.heap n0 Z142 O142 r142_0 f144 f145 f146 f147 r142_1 r142_2 r142_3 r142_4 neb12_b134) hZ (hw _ (List.mem_of_getElem? (i := 28) rfl)) (hw _ (List.mem_of_getElem? (i := 8) rfl)) (by decide) (by decide)) q159a q159c (g := (mkF m 303 #[.val (.int p1), .val (.int p2), .val (.int p3), .val (.int p4), .val (.int p5), .val (.int p6), .val (.int (rF p1 p3)), .val (.int (rF p2 p4)), .val (.ref b12), .val (.int (p5 &&& (7 : Int32))), .val (.int p1), .val (.int p2), .val (.int (sF p1 p6)), .val (.int (rF p2 p4)), .val (.ref b134), .val (.int (0 : Int32))] [(.ref b134), (.ref b12)])) rfl (by rw [hml]; rfl) (Steps.refl _) (argsL := [(.ref b134)]) (rest := []) (lenOf pd_4 rfl) rfl (by show 2 * 0 + _ ≤ _; exact Nat.le_of_eq rfl) (hb hby at_303) (fun _ _ => ⟨rfl, rfl, (by decide : 2 + 0 ≤ _), (by decide : 8 + 0 ≤ _)⟩)
                dsimp only [Pt.U, Pt.locs, Pt.cells, Pt.slots] at X159 l159 y159 z159 st159 hQ159
                subst l159 y159 z159
                obtain ⟨hv159, N159q, e159⟩ := hQ159
                rw [(show (eqNF p1 p2 (rF p1 p3) (rF p2 p4) p1 p2 (sF p1 p6) (rF p2 p4)) = (0 : Int32) from (own_eq_no (fun q => hc282_150 (q.2.2.1))))] at hv159
                subst hv159
                have N159 := Fr.app N142 N159q
                have pre160 : ∀ t, Steps p.tables e below (T159.setTop (mkF m 306 #[.val (.int p1), .val (.int p2), .val (.int p3), .val (.int p4), .val (.int p5), .val (.int p6), .val (.int (rF p1 p3)), .val (.int (rF p2 p4)), .val (.ref b12), .val (.int (p5 &&& (7 : Int32))), .val (.int p1), .val (.int p2), .val (.int (sF p1 p6)), .val (.int (rF p2 p4)), .val (.ref b134), .val (.int (0 : Int32))] [(.int (0 : Int32))])) t → Steps p.tables e below (s₁.setTop (entryFrame m #[(.int p1), (.int p2), (.int p3), (.int p4), (.int p5), (.int p6)] maxLocals)) t := fun t k => pre158 t (st159.trans k)
                have pre161 : ∀ t, Steps p.tables e below (T159.setTop (mkF m 315 #[.val (.int p1), .val (.int p2), .val (.int p3), .val (.int p4), .val (.int p5), .val (.int p6), .val (.int (rF p1 p3)), .val (.int (rF p2 p4)), .val (.ref b12), .val (.int (p5 &&& (7 : Int32))), .val (.int p1), .val (.int p2), .val (.int (sF p1 p6)), .val (.int (rF p2 p4)), .val (.ref b134), .val (.int (0 : Int32))] [(.ref b12), (.ref b134)])) t → Steps p.tables e below (s₁.setTop (entryFrame m #[(.int p1), (.int p2), (.int p3), (.int p4), (.int p5), (.int p6)] maxLocals)) t := fun t k => pre160 t (by
                  show Steps p.tables e below (T159.setTop (mkF m 306 #[.val (.int p1), .val (.int p2), .val (.int p3), .val (.int p4), .val (.int p5), .val (.int p6), .val (.int (rF p1 p3)), .val (.int (rF p2 p4)), .val (.ref b12), .val (.int (p5 &&& (7 : Int32))), .val (.int p1), .val (.int p2), .val (.int (sF p1 p6)), .val (.int (rF p2 p4)), .val (.ref b134), .val (.int (0 : Int32))] [(.int (0 : Int32))])) _
                  refine XS.iload X159.here hx rfl (hb hby at_306) rfl ?_
                  show Steps p.tables e below (T159.setTop (mkF m 308 #[.val (.int p1), .val (.int p2), .val (.int p3), .val (.int p4), .val (.int p5), .val (.int p6), .val (.int (rF p1 p3)), .val (.int (rF p2 p4)), .val (.ref b12), .val (.int (p5 &&& (7 : Int32))), .val (.int p1), .val (.int p2), .val (.int (sF p1 p6)), .val (.int (rF p2 p4)), .val (.ref b134), .val (.int (0 : Int32))] [(.int (0 : Int32)), (.int (0 : Int32))])) _
                  refine XS.icmpNo X159.here hx rfl (hb hby at_308) rfl (teq (by decide : (0 : Int32) = (0 : Int32))).2 ?_
                  show Steps p.tables e below (T159.setTop (mkF m 311 #[.val (.int p1), .val (.int p2), .val (.int p3), .val (.int p4), .val (.int p5), .val (.int p6), .val (.int (rF p1 p3)), .val (.int (rF p2 p4)), .val (.ref b12), .val (.int (p5 &&& (7 : Int32))), .val (.int p1), .val (.int p2), .val (.int (sF p1 p6)), .val (.int (rF p2 p4)), .val (.ref b134), .val (.int (0 : Int32))] [])) _
                  refine XS.aload X159.here hx rfl (hb hby at_311) rfl rfl ?_
                  show Steps p.tables e below (T159.setTop (mkF m 313 #[.val (.int p1), .val (.int p2), .val (.int p3), .val (.int p4), .val (.int p5), .val (.int p6), .val (.int (rF p1 p3)), .val (.int (rF p2 p4)), .val (.ref b12), .val (.int (p5 &&& (7 : Int32))), .val (.int p1), .val (.int p2), .val (.int (sF p1 p6)), .val (.int (rF p2 p4)), .val (.ref b134), .val (.int (0 : Int32))] [(.ref b134)])) _
                  refine XS.aload X159.here hx rfl (hb hby at_313) rfl rfl ?_
                  exact k)
                obtain ⟨cq162, kq162, q162a, q162b, q162c⟩ := isOf hZ e159 r142_0
                obtain ⟨_, _, ⟨T162, L162, k162, n162⟩, -, X162, ⟨Lc162, hQ162, l162, y162, z162⟩, st162⟩ := X159.virtualBack hx (y := (⟨"com/example/blynds/blynds/engine/Rect", "equals", "(Ljava/lang/Object;)Z"⟩ : MethodName)) (z := (⟨"com/example/blynds/blynds/engine/Rect", "equals", "(Ljava/lang/Object;)Z"⟩ : MethodName)) hown (mvT hZ (hw _ (List.mem_of_getElem? (i := 24) rfl))) (mvT hZ (hw _ (List.mem_of_getElem? (i := 25) rfl))) (notFace_of_selects (args := #[]) (mvT hZ (hw _ (List.mem_of_getElem? (i := 27) rfl)))) (mvT hZ (hw _ (List.mem_of_getElem? (i := 27) rfl))) (mvT hZ (hw _ (List.mem_of_getElem? (i := 26) rfl))) (by decide) (backOf (W := 0) (rm_eqobj l Z a0 hw [] b134 b12 p1 p2 (sF p1 p6) (rF p2 p4) p1 p2 (rF p1 p3) (rF p2 p4) T142.heap n0 Z142 O142 f143 r142_1 r142_2 r142_3 r142_4 f144 f145 f146 f147 (Ne.symm neb12_b134)) hZ (hw _ (List.mem_of_getElem? (i := 28) rfl)) (hw _ (List.mem_of_getElem? (i := 8) rfl)) (by decide) (by decide)) q162a q162c (g := (mkF m 315 #[.val (.int p1), .val (.int p2), .val (.int p3), .val (.int p4), .val (.int p5), .val (.int p6), .val (.int (rF p1 p3)), .val (.int (rF p2 p4)), .val (.ref b12), .val (.int (p5 &&& (7 : Int32))), .val (.int p1), .val (.int p2), .val (.int (sF p1 p6)), .val (.int (rF p2 p4)), .val (.ref b134), .val (.int (0 : Int32))] [(.ref b12), (.ref b134)])) rfl (by rw [hml]; rfl) (Steps.refl _) (argsL := [(.ref b12)]) (rest := []) (lenOf pd_4 rfl) rfl (by show 2 * 0 + _ ≤ _; exact Nat.le_of_eq rfl) (hb hby at_315) (fun _ _ => ⟨rfl, e159, (by decide : 2 + 0 ≤ _), (by decide : 8 + 0 ≤ _)⟩)
                dsimp only [Pt.U, Pt.locs, Pt.cells, Pt.slots] at X162 l162 y162 z162 st162 hQ162
                subst l162 y162 z162
                obtain ⟨hv162, N162q, e162⟩ := hQ162
                rw [(show (eqNF p1 p2 (sF p1 p6) (rF p2 p4) p1 p2 (rF p1 p3) (rF p2 p4)) = (0 : Int32) from (own_eq_no (fun q => hc282_150 (q.2.2.1).symm)))] at hv162
                subst hv162
                have N162 := Fr.app N159 N162q
                have pre163 : ∀ t, Steps p.tables e below (T162.setTop (mkF m 318 #[.val (.int p1), .val (.int p2), .val (.int p3), .val (.int p4), .val (.int p5), .val (.int p6), .val (.int (rF p1 p3)), .val (.int (rF p2 p4)), .val (.ref b12), .val (.int (p5 &&& (7 : Int32))), .val (.int p1), .val (.int p2), .val (.int (sF p1 p6)), .val (.int (rF p2 p4)), .val (.ref b134), .val (.int (0 : Int32))] [(.int (0 : Int32))])) t → Steps p.tables e below (s₁.setTop (entryFrame m #[(.int p1), (.int p2), (.int p3), (.int p4), (.int p5), (.int p6)] maxLocals)) t := fun t k => pre161 t (st162.trans k)
                have pre164 : ∀ t, Steps p.tables e below (T162.setTop (mkF m 328 #[.val (.int p1), .val (.int p2), .val (.int p3), .val (.int p4), .val (.int p5), .val (.int p6), .val (.int (rF p1 p3)), .val (.int (rF p2 p4)), .val (.ref b12), .val (.int (p5 &&& (7 : Int32))), .val (.int p1), .val (.int p2), .val (.int (sF p1 p6)), .val (.int (rF p2 p4)), .val (.ref b134), .val (.int (0 : Int32))] [(.int (1 : Int32))])) t → Steps p.tables e below (s₁.setTop (entryFrame m #[(.int p1), (.int p2), (.int p3), (.int p4), (.int p5), (.int p6)] maxLocals)) t := fun t k => pre163 t (by
                  show Steps p.tables e below (T162.setTop (mkF m 318 #[.val (.int p1), .val (.int p2), .val (.int p3), .val (.int p4), .val (.int p5), .val (.int p6), .val (.int (rF p1 p3)), .val (.int (rF p2 p4)), .val (.ref b12), .val (.int (p5 &&& (7 : Int32))), .val (.int p1), .val (.int p2), .val (.int (sF p1 p6)), .val (.int (rF p2 p4)), .val (.ref b134), .val (.int (0 : Int32))] [(.int (0 : Int32))])) _
                  refine XS.iload X162.here hx rfl (hb hby at_318) rfl ?_
                  show Steps p.tables e below (T162.setTop (mkF m 320 #[.val (.int p1), .val (.int p2), .val (.int p3), .val (.int p4), .val (.int p5), .val (.int p6), .val (.int (rF p1 p3)), .val (.int (rF p2 p4)), .val (.ref b12), .val (.int (p5 &&& (7 : Int32))), .val (.int p1), .val (.int p2), .val (.int (sF p1 p6)), .val (.int (rF p2 p4)), .val (.ref b134), .val (.int (0 : Int32))] [(.int (0 : Int32)), (.int (0 : Int32))])) _
                  refine XS.icmpNo X162.here hx rfl (hb hby at_320) rfl (teq (by decide : (0 : Int32) = (0 : Int32))).2 ?_
                  show Steps p.tables e below (T162.setTop (mkF m 323 #[.val (.int p1), .val (.int p2), .val (.int p3), .val (.int p4), .val (.int p5), .val (.int p6), .val (.int (rF p1 p3)), .val (.int (rF p2 p4)), .val (.ref b12), .val (.int (p5 &&& (7 : Int32))), .val (.int p1), .val (.int p2), .val (.int (sF p1 p6)), .val (.int (rF p2 p4)), .val (.ref b134), .val (.int (0 : Int32))] [])) _
                  refine XS.iconst X162.here hx rfl (hb hby at_323) ?_
                  show Steps p.tables e below (T162.setTop (mkF m 324 #[.val (.int p1), .val (.int p2), .val (.int p3), .val (.int p4), .val (.int p5), .val (.int p6), .val (.int (rF p1 p3)), .val (.int (rF p2 p4)), .val (.ref b12), .val (.int (p5 &&& (7 : Int32))), .val (.int p1), .val (.int p2), .val (.int (sF p1 p6)), .val (.int (rF p2 p4)), .val (.ref b134), .val (.int (0 : Int32))] [(.int (1 : Int32))])) _
                  refine XS.goto X162.here hx rfl (pc0 := 324) (pc' := 328) rfl (hb hby at_324) (by decide) (by decide) ?_
                  exact k)
                obtain ⟨fs, hr, hrun, hended, hW, hsame⟩ := X162.leave (v := some (.int (1 : Int32))) (fun h => by rw [Bd.returns] at h; cases h)
                refine ⟨_, _, pre164 _ ?_, hrun, hended, _, _, rfl, ?_, ⟨_, rfl⟩, hW, hsame.mono (by decide) (by decide)⟩
                · exact retN X162 hx (t := .boolean) Bd.returns (by simp) (hb hby at_328) hr
                · show Q_rm_law Z p1 p2 p3 p4 p5 p6 cA cl h0 n0 _ T162.heap _
                  rw [e162]
                  exact ⟨rfl, N162⟩
            · have pre165 : ∀ t, Steps p.tables e below (T15.setTop (mkF m 226 #[.val (.int p1), .val (.int p2), .val (.int p3), .val (.int p4), .val (.int p5), .val (.int p6), .val (.int (rF p1 p3)), .val (.int (rF p2 p4)), .val (.ref b12), .val (.int (p5 &&& (7 : Int32))), .val (.int p1), .val (.int p2), .val (.int (rF p1 p3)), .val (.int (rF p2 p4)), .unset, .unset] [(.int (4 : Int32)), (.int (p5 &&& (7 : Int32)))])) t → Steps p.tables e below (s₁.setTop (entryFrame m #[(.int p1), (.int p2), (.int p3), (.int p4), (.int p5), (.int p6)] maxLocals)) t := fun t k => pre123 t (by
                show Steps p.tables e below (T15.setTop (mkF m 197 #[.val (.int p1), .val (.int p2), .val (.int p3), .val (.int p4), .val (.int p5), .val (.int p6), .val (.int (rF p1 p3)), .val (.int (rF p2 p4)), .val (.ref b12), .val (.int (p5 &&& (7 : Int32))), .val (.int p1), .val (.int p2), .val (.int (rF p1 p3)), .val (.int (rF p2 p4)), .unset, .unset] [(.int (3 : Int32)), (.int (p5 &&& (7 : Int32)))])) _
                refine XS.icmpYes X15.here hx rfl (pc0 := 197) (pc' := 223) rfl (hb hby at_197) rfl (feq hc197_124).2 (by decide) (by decide) ?_
                show Steps p.tables e below (T15.setTop (mkF m 223 #[.val (.int p1), .val (.int p2), .val (.int p3), .val (.int p4), .val (.int p5), .val (.int p6), .val (.int (rF p1 p3)), .val (.int (rF p2 p4)), .val (.ref b12), .val (.int (p5 &&& (7 : Int32))), .val (.int p1), .val (.int p2), .val (.int (rF p1 p3)), .val (.int (rF p2 p4)), .unset, .unset] [])) _
                refine XS.iload X15.here hx rfl (hb hby at_223) rfl ?_
                show Steps p.tables e below (T15.setTop (mkF m 225 #[.val (.int p1), .val (.int p2), .val (.int p3), .val (.int p4), .val (.int p5), .val (.int p6), .val (.int (rF p1 p3)), .val (.int (rF p2 p4)), .val (.ref b12), .val (.int (p5 &&& (7 : Int32))), .val (.int p1), .val (.int p2), .val (.int (rF p1 p3)), .val (.int (rF p2 p4)), .unset, .unset] [(.int (p5 &&& (7 : Int32)))])) _
                refine XS.iconst X15.here hx rfl (hb hby at_225) ?_
                exact k)
              by_cases hc226_166 : (p5 &&& (7 : Int32)) = (4 : Int32)
              · have pre167 : ∀ t, Steps p.tables e below (T15.setTop (mkF m 234 #[.val (.int p1), .val (.int p2), .val (.int p3), .val (.int p4), .val (.int p5), .val (.int p6), .val (.int (rF p1 p3)), .val (.int (rF p2 p4)), .val (.ref b12), .val (.int (p5 &&& (7 : Int32))), .val (.int p1), .val (.int p2), .val (.int (rF p1 p3)), .val (.int (rF p2 p4)), .unset, .unset] [(.long (p2.toInt64)), (.long (p6.toInt64))])) t → Steps p.tables e below (s₁.setTop (entryFrame m #[(.int p1), (.int p2), (.int p3), (.int p4), (.int p5), (.int p6)] maxLocals)) t := fun t k => pre165 t (by
                  show Steps p.tables e below (T15.setTop (mkF m 226 #[.val (.int p1), .val (.int p2), .val (.int p3), .val (.int p4), .val (.int p5), .val (.int p6), .val (.int (rF p1 p3)), .val (.int (rF p2 p4)), .val (.ref b12), .val (.int (p5 &&& (7 : Int32))), .val (.int p1), .val (.int p2), .val (.int (rF p1 p3)), .val (.int (rF p2 p4)), .unset, .unset] [(.int (4 : Int32)), (.int (p5 &&& (7 : Int32)))])) _
                  refine XS.icmpNo X15.here hx rfl (hb hby at_226) rfl (teq hc226_166).2 ?_
                  show Steps p.tables e below (T15.setTop (mkF m 229 #[.val (.int p1), .val (.int p2), .val (.int p3), .val (.int p4), .val (.int p5), .val (.int p6), .val (.int (rF p1 p3)), .val (.int (rF p2 p4)), .val (.ref b12), .val (.int (p5 &&& (7 : Int32))), .val (.int p1), .val (.int p2), .val (.int (rF p1 p3)), .val (.int (rF p2 p4)), .unset, .unset] [])) _
                  refine XS.iload X15.here hx rfl (hb hby at_229) rfl ?_
                  show Steps p.tables e below (T15.setTop (mkF m 231 #[.val (.int p1), .val (.int p2), .val (.int p3), .val (.int p4), .val (.int p5), .val (.int p6), .val (.int (rF p1 p3)), .val (.int (rF p2 p4)), .val (.ref b12), .val (.int (p5 &&& (7 : Int32))), .val (.int p1), .val (.int p2), .val (.int (rF p1 p3)), .val (.int (rF p2 p4)), .unset, .unset] [(.int p6)])) _
                  refine XS.i2l X15.here hx rfl (hb hby at_231) rfl ?_
                  show Steps p.tables e below (T15.setTop (mkF m 232 #[.val (.int p1), .val (.int p2), .val (.int p3), .val (.int p4), .val (.int p5), .val (.int p6), .val (.int (rF p1 p3)), .val (.int (rF p2 p4)), .val (.ref b12), .val (.int (p5 &&& (7 : Int32))), .val (.int p1), .val (.int p2), .val (.int (rF p1 p3)), .val (.int (rF p2 p4)), .unset, .unset] [(.long (p6.toInt64))])) _
                  refine XS.iloadN X15.here hx rfl (hb hby at_232) rfl ?_
                  show Steps p.tables e below (T15.setTop (mkF m 233 #[.val (.int p1), .val (.int p2), .val (.int p3), .val (.int p4), .val (.int p5), .val (.int p6), .val (.int (rF p1 p3)), .val (.int (rF p2 p4)), .val (.ref b12), .val (.int (p5 &&& (7 : Int32))), .val (.int p1), .val (.int p2), .val (.int (rF p1 p3)), .val (.int (rF p2 p4)), .unset, .unset] [(.int p2), (.long (p6.toInt64))])) _
                  refine XS.i2l X15.here hx rfl (hb hby at_233) rfl ?_
                  exact k)
                obtain ⟨_, _, ⟨T168, L168, k168, n168⟩, -, X168, ⟨Lc168, hQ168, l168, y168, z168⟩, st168⟩ := Jvm.LawKit.callS X15 hx (y := (⟨"java/lang/Math", "max", "(JJ)J"⟩ : MethodName)) hown (mvT hZ (hw _ (List.mem_of_getElem? (i := 31) rfl))) (mvT hZ (hw _ (List.mem_of_getElem? (i := 32) rfl))) (mvT hZ (hw _ (List.mem_of_getElem? (i := 4) rfl))) (mvT hZ (hw _ (List.mem_of_getElem? (i := 33) rfl))) (by decide) (backOf (W := 0) (rm_max l Z a0 hw [] (p6.toInt64) (p2.toInt64) T15.heap n0 Z15 O15) hZ (hw _ (List.mem_of_getElem? (i := 33) rfl)) (hw _ (List.mem_of_getElem? (i := 4) rfl)) (by decide) (by decide)) (g := (mkF m 234 #[.val (.int p1), .val (.int p2), .val (.int p3), .val (.int p4), .val (.int p5), .val (.int p6), .val (.int (rF p1 p3)), .val (.int (rF p2 p4)), .val (.ref b12), .val (.int (p5 &&& (7 : Int32))), .val (.int p1), .val (.int p2), .val (.int (rF p1 p3)), .val (.int (rF p2 p4)), .unset, .unset] [(.long (p2.toInt64)), (.long (p6.toInt64))])) rfl (by rw [hml]; rfl) (argsL := [(.long (p6.toInt64)), (.long (p2.toInt64))]) (rest := []) (lenOf pd_2 rfl) rfl (by show 2 * 0 + _ ≤ _; exact Nat.le_of_eq rfl) (hb hby at_234) (fun _ _ => ⟨rfl, rfl, (by decide : 1 + 0 ≤ _), (by decide : 4 + 0 ≤ _)⟩)
                dsimp only [Pt.U, Pt.locs, Pt.cells, Pt.slots] at X168 l168 y168 z168 st168 hQ168
                subst l168 y168 z168
                obtain ⟨rfl, N168q, e168⟩ := hQ168
                have N168 := Fr.app N15 N168q
                have pre169 : ∀ t, Steps p.tables e below (T168.setTop (mkF m 237 #[.val (.int p1), .val (.int p2), .val (.int p3), .val (.int p4), .val (.int p5), .val (.int p6), .val (.int (rF p1 p3)), .val (.int (rF p2 p4)), .val (.ref b12), .val (.int (p5 &&& (7 : Int32))), .val (.int p1), .val (.int p2), .val (.int (rF p1 p3)), .val (.int (rF p2 p4)), .unset, .unset] [(.long (maxJ (p6.toInt64) (p2.toInt64)))])) t → Steps p.tables e below (s₁.setTop (entryFrame m #[(.int p1), (.int p2), (.int p3), (.int p4), (.int p5), (.int p6)] maxLocals)) t := fun t k => pre167 t (st168 t k)
                have pre170 : ∀ t, Steps p.tables e below (T168.setTop (mkF m 243 #[.val (.int p1), .val (.int p2), .val (.int p3), .val (.int p4), .val (.int p5), .val (.int p6), .val (.int (rF p1 p3)), .val (.int (rF p2 p4)), .val (.ref b12), .val (.int (p5 &&& (7 : Int32))), .val (.int p1), .val (.int p2), .val (.int (rF p1 p3)), .val (.int (rF p2 p4)), .unset, .unset] [(.long ((p2.toInt64) + (2147483647 : Int64))), (.long (maxJ (p6.toInt64) (p2.toInt64)))])) t → Steps p.tables e below (s₁.setTop (entryFrame m #[(.int p1), (.int p2), (.int p3), (.int p4), (.int p5), (.int p6)] maxLocals)) t := fun t k => pre169 t (by
                  show Steps p.tables e below (T168.setTop (mkF m 237 #[.val (.int p1), .val (.int p2), .val (.int p3), .val (.int p4), .val (.int p5), .val (.int p6), .val (.int (rF p1 p3)), .val (.int (rF p2 p4)), .val (.ref b12), .val (.int (p5 &&& (7 : Int32))), .val (.int p1), .val (.int p2), .val (.int (rF p1 p3)), .val (.int (rF p2 p4)), .unset, .unset] [(.long (maxJ (p6.toInt64) (p2.toInt64)))])) _
                  refine XS.iloadN X168.here hx rfl (hb hby at_237) rfl ?_
                  show Steps p.tables e below (T168.setTop (mkF m 238 #[.val (.int p1), .val (.int p2), .val (.int p3), .val (.int p4), .val (.int p5), .val (.int p6), .val (.int (rF p1 p3)), .val (.int (rF p2 p4)), .val (.ref b12), .val (.int (p5 &&& (7 : Int32))), .val (.int p1), .val (.int p2), .val (.int (rF p1 p3)), .val (.int (rF p2 p4)), .unset, .unset] [(.int p2), (.long (maxJ (p6.toInt64) (p2.toInt64)))])) _
                  refine XS.i2l X168.here hx rfl (hb hby at_238) rfl ?_
                  show Steps p.tables e below (T168.setTop (mkF m 239 #[.val (.int p1), .val (.int p2), .val (.int p3), .val (.int p4), .val (.int p5), .val (.int p6), .val (.int (rF p1 p3)), .val (.int (rF p2 p4)), .val (.ref b12), .val (.int (p5 &&& (7 : Int32))), .val (.int p1), .val (.int p2), .val (.int (rF p1 p3)), .val (.int (rF p2 p4)), .unset, .unset] [(.long (p2.toInt64)), (.long (maxJ (p6.toInt64) (p2.toInt64)))])) _
                  refine X168.ldc2Long hx hown (mvT hZ (hw _ (List.mem_of_getElem? (i := 1) rfl))) (g := (mkF m 239 #[.val (.int p1), .val (.int p2), .val (.int p3), .val (.int p4), .val (.int p5), .val (.int p6), .val (.int (rF p1 p3)), .val (.int (rF p2 p4)), .val (.ref b12), .val (.int (p5 &&& (7 : Int32))), .val (.int p1), .val (.int p2), .val (.int (rF p1 p3)), .val (.int (rF p2 p4)), .unset, .unset] [(.long (p2.toInt64)), (.long (maxJ (p6.toInt64) (p2.toInt64)))])) rfl (hb hby at_239) _ ?_
                  show Steps p.tables e below (T168.setTop (mkF m 242 #[.val (.int p1), .val (.int p2), .val (.int p3), .val (.int p4), .val (.int p5), .val (.int p6), .val (.int (rF p1 p3)), .val (.int (rF p2 p4)), .val (.ref b12), .val (.int (p5 &&& (7 : Int32))), .val (.int p1), .val (.int p2), .val (.int (rF p1 p3)), .val (.int (rF p2 p4)), .unset, .unset] [(.long (2147483647 : Int64)), (.long (p2.toInt64)), (.long (maxJ (p6.toInt64) (p2.toInt64)))])) _
                  refine XS.ladd X168.here hx rfl (hb hby at_242) rfl ?_
                  exact k)
                obtain ⟨_, _, ⟨T171, L171, k171, n171⟩, -, X171, ⟨Lc171, hQ171, l171, y171, z171⟩, st171⟩ := Jvm.LawKit.callS X168 hx (y := (⟨"java/lang/Math", "min", "(JJ)J"⟩ : MethodName)) hown (mvT hZ (hw _ (List.mem_of_getElem? (i := 2) rfl))) (mvT hZ (hw _ (List.mem_of_getElem? (i := 3) rfl))) (mvT hZ (hw _ (List.mem_of_getElem? (i := 4) rfl))) (mvT hZ (hw _ (List.mem_of_getElem? (i := 5) rfl))) (by decide) (backOf (W := 0) (rm_min l Z a0 hw [] (maxJ (p6.toInt64) (p2.toInt64)) ((p2.toInt64) + (2147483647 : Int64)) T15.heap n0 Z15 O15) hZ (hw _ (List.mem_of_getElem? (i := 5) rfl)) (hw _ (List.mem_of_getElem? (i := 4) rfl)) (by decide) (by decide)) (g := (mkF m 243 #[.val (.int p1), .val (.int p2), .val (.int p3), .val (.int p4), .val (.int p5), .val (.int p6), .val (.int (rF p1 p3)), .val (.int (rF p2 p4)), .val (.ref b12), .val (.int (p5 &&& (7 : Int32))), .val (.int p1), .val (.int p2), .val (.int (rF p1 p3)), .val (.int (rF p2 p4)), .unset, .unset] [(.long ((p2.toInt64) + (2147483647 : Int64))), (.long (maxJ (p6.toInt64) (p2.toInt64)))])) rfl (by rw [hml]; rfl) (argsL := [(.long (maxJ (p6.toInt64) (p2.toInt64))), (.long ((p2.toInt64) + (2147483647 : Int64)))]) (rest := []) (lenOf pd_2 rfl) rfl (by show 2 * 0 + _ ≤ _; exact Nat.le_of_eq rfl) (hb hby at_243) (fun _ _ => ⟨rfl, e168, (by decide : 1 + 0 ≤ _), (by decide : 4 + 0 ≤ _)⟩)
                dsimp only [Pt.U, Pt.locs, Pt.cells, Pt.slots] at X171 l171 y171 z171 st171 hQ171
                subst l171 y171 z171
                obtain ⟨rfl, N171q, e171⟩ := hQ171
                have N171 := Fr.app N168 N171q
                have pre172 : ∀ t, Steps p.tables e below (T171.setTop (mkF m 246 #[.val (.int p1), .val (.int p2), .val (.int p3), .val (.int p4), .val (.int p5), .val (.int p6), .val (.int (rF p1 p3)), .val (.int (rF p2 p4)), .val (.ref b12), .val (.int (p5 &&& (7 : Int32))), .val (.int p1), .val (.int p2), .val (.int (rF p1 p3)), .val (.int (rF p2 p4)), .unset, .unset] [(.long (minJ (maxJ (p6.toInt64) (p2.toInt64)) ((p2.toInt64) + (2147483647 : Int64))))])) t → Steps p.tables e below (s₁.setTop (entryFrame m #[(.int p1), (.int p2), (.int p3), (.int p4), (.int p5), (.int p6)] maxLocals)) t := fun t k => pre170 t (st171 t k)
                have pre173 : ∀ t, Steps p.tables e below (T171.setTop (mkF m 247 #[.val (.int p1), .val (.int p2), .val (.int p3), .val (.int p4), .val (.int p5), .val (.int p6), .val (.int (rF p1 p3)), .val (.int (rF p2 p4)), .val (.ref b12), .val (.int (p5 &&& (7 : Int32))), .val (.int p1), .val (.int p2), .val (.int (rF p1 p3)), .val (.int (rF p2 p4)), .unset, .unset] [(.int ((minJ (maxJ (p6.toInt64) (p2.toInt64)) ((p2.toInt64) + (2147483647 : Int64))).toInt32))])) t → Steps p.tables e below (s₁.setTop (entryFrame m #[(.int p1), (.int p2), (.int p3), (.int p4), (.int p5), (.int p6)] maxLocals)) t := fun t k => pre172 t (by
                  show Steps p.tables e below (T171.setTop (mkF m 246 #[.val (.int p1), .val (.int p2), .val (.int p3), .val (.int p4), .val (.int p5), .val (.int p6), .val (.int (rF p1 p3)), .val (.int (rF p2 p4)), .val (.ref b12), .val (.int (p5 &&& (7 : Int32))), .val (.int p1), .val (.int p2), .val (.int (rF p1 p3)), .val (.int (rF p2 p4)), .unset, .unset] [(.long (minJ (maxJ (p6.toInt64) (p2.toInt64)) ((p2.toInt64) + (2147483647 : Int64))))])) _
                  refine XS.l2i X171.here hx rfl (hb hby at_246) rfl ?_
                  exact k)
                have pre174 : ∀ t, Steps p.tables e below (T171.setTop (mkF m 247 #[.val (.int p1), .val (.int p2), .val (.int p3), .val (.int p4), .val (.int p5), .val (.int p6), .val (.int (rF p1 p3)), .val (.int (rF p2 p4)), .val (.ref b12), .val (.int (p5 &&& (7 : Int32))), .val (.int p1), .val (.int p2), .val (.int (rF p1 p3)), .val (.int (rF p2 p4)), .unset, .unset] [(.int (sF p2 p6))])) t → Steps p.tables e below (s₁.setTop (entryFrame m #[(.int p1), (.int p2), (.int p3), (.int p4), (.int p5), (.int p6)] maxLocals)) t := pre173
                have pre175 : ∀ t, Steps p.tables e below (T171.setTop (mkF m 249 #[.val (.int p1), .val (.int p2), .val (.int p3), .val (.int p4), .val (.int p5), .val (.int p6), .val (.int (rF p1 p3)), .val (.int (rF p2 p4)), .val (.ref b12), .val (.int (p5 &&& (7 : Int32))), .val (.int p1), .val (.int p2), .val (.int (rF p1 p3)), .val (.int (sF p2 p6)), .unset, .unset] [])) t → Steps p.tables e below (s₁.setTop (entryFrame m #[(.int p1), (.int p2), (.int p3), (.int p4), (.int p5), (.int p6)] maxLocals)) t := fun t k => pre174 t (by
                  show Steps p.tables e below (T171.setTop (mkF m 247 #[.val (.int p1), .val (.int p2), .val (.int p3), .val (.int p4), .val (.int p5), .val (.int p6), .val (.int (rF p1 p3)), .val (.int (rF p2 p4)), .val (.ref b12), .val (.int (p5 &&& (7 : Int32))), .val (.int p1), .val (.int p2), .val (.int (rF p1 p3)), .val (.int (rF p2 p4)), .unset, .unset] [(.int (sF p2 p6))])) _
                  refine XS.istore X171.here hx rfl (hb hby at_247) rfl (l' := #[.val (.int p1), .val (.int p2), .val (.int p3), .val (.int p4), .val (.int p5), .val (.int p6), .val (.int (rF p1 p3)), .val (.int (rF p2 p4)), .val (.ref b12), .val (.int (p5 &&& (7 : Int32))), .val (.int p1), .val (.int p2), .val (.int (rF p1 p3)), .val (.int (sF p2 p6)), .unset, .unset]) rfl ?_
                  exact k)
                obtain ⟨T176, h176, X176, e176, E176, A176, D176, -, st176⟩ := newO X171 hx hZ hown (hw _ (List.mem_of_getElem? (i := 6) rfl)) (hw _ (List.mem_of_getElem? (i := 7) rfl)) (hw _ (List.mem_of_getElem? (i := 8) rfl)) e171 (g := (mkF m 249 #[.val (.int p1), .val (.int p2), .val (.int p3), .val (.int p4), .val (.int p5), .val (.int p6), .val (.int (rF p1 p3)), .val (.int (rF p2 p4)), .val (.ref b12), .val (.int (p5 &&& (7 : Int32))), .val (.int p1), .val (.int p2), .val (.int (rF p1 p3)), .val (.int (sF p2 p6)), .unset, .unset] [])) rfl (hb hby at_249) (by decide) (by decide)
                obtain ⟨b176, g176⟩ : ∃ z, z = T15.heap.size := ⟨_, rfl⟩
                rw [← g176] at A176 D176 st176
                have neb12_b176 : b12 ≠ b176 := Nat.ne_of_lt (Nat.lt_of_lt_of_le r15_0.lt (Nat.le_of_eq g176.symm))
                have f177 := (r15_0.ext E176)
                have f178 := (r15_1.ext E176)
                have f179 := (r15_2.ext E176)
                have f180 := (r15_3.ext E176)
                have f181 := (r15_4.ext E176)
                have F_left_b176 : Fld Z h176 b176 "com/example/blynds/blynds/engine/Rect" "left" "I" (.int (0 : Int32)) := D176 (Or.inr (hw _ (List.mem_of_getElem? (i := 17) rfl))) (ty := .int) (by decide)
                have F_top_b176 : Fld Z h176 b176 "com/example/blynds/blynds/engine/Rect" "top" "I" (.int (0 : Int32)) := D176 (Or.inr (hw _ (List.mem_of_getElem? (i := 19) rfl))) (ty := .int) (by decide)
                have F_right_b176 : Fld Z h176 b176 "com/example/blynds/blynds/engine/Rect" "right" "I" (.int (0 : Int32)) := D176 (Or.inr (hw _ (List.mem_of_getElem? (i := 21) rfl))) (ty := .int) (by decide)
                have F_bottom_b176 : Fld Z h176 b176 "com/example/blynds/blynds/engine/Rect" "bottom" "I" (.int (0 : Int32)) := D176 (Or.inr (hw _ (List.mem_of_getElem? (i := 23) rfl))) (ty := .int) (by decide)
                have g_b176 : n0 ≤ b176 := Nat.le_trans Z15 (Nat.le_of_eq g176.symm)
                have z_b176 : Z.heap.size ≤ b176 := Nat.le_trans O15.1 (Nat.le_of_eq g176.symm)
                have sz_b176 : h0.size ≤ b176 := Nat.le_trans K15.1 (Nat.le_of_eq g176.symm)
                have K176 := K15.ext E176
                have O176 : Ext Z.heap h176 := own_ext_trans O15 E176
                have Z176 : n0 ≤ h176.size := Nat.le_trans Z15 E176.1
                have pre182 : ∀ t, Steps p.tables e below (T176.setTop (mkF m 252 #[.val (.int p1), .val (.int p2), .val (.int p3), .val (.int p4), .val (.int p5), .val (.int p6), .val (.int (rF p1 p3)), .val (.int (rF p2 p4)), .val (.ref b12), .val (.int (p5 &&& (7 : Int32))), .val (.int p1), .val (.int p2), .val (.int (rF p1 p3)), .val (.int (sF p2 p6)), .unset, .unset] [(.ref b176)])) t → Steps p.tables e below (s₁.setTop (entryFrame m #[(.int p1), (.int p2), (.int p3), (.int p4), (.int p5), (.int p6)] maxLocals)) t := fun t k => pre175 t (st176 t k)
                have pre183 : ∀ t, Steps p.tables e below (T176.setTop (mkF m 261 #[.val (.int p1), .val (.int p2), .val (.int p3), .val (.int p4), .val (.int p5), .val (.int p6), .val (.int (rF p1 p3)), .val (.int (rF p2 p4)), .val (.ref b12), .val (.int (p5 &&& (7 : Int32))), .val (.int p1), .val (.int p2), .val (.int (rF p1 p3)), .val (.int (sF p2 p6)), .unset, .unset] [(.int (sF p2 p6)), (.int (rF p1 p3)), (.int p2), (.int p1), (.ref b176), (.ref b176)])) t → Steps p.tables e below (s₁.setTop (entryFrame m #[(.int p1), (.int p2), (.int p3), (.int p4), (.int p5), (.int p6)] maxLocals)) t := fun t k => pre182 t (by
                  show Steps p.tables e below (T176.setTop (mkF m 252 #[.val (.int p1), .val (.int p2), .val (.int p3), .val (.int p4), .val (.int p5), .val (.int p6), .val (.int (rF p1 p3)), .val (.int (rF p2 p4)), .val (.ref b12), .val (.int (p5 &&& (7 : Int32))), .val (.int p1), .val (.int p2), .val (.int (rF p1 p3)), .val (.int (sF p2 p6)), .unset, .unset] [(.ref b176)])) _
                  refine XS.dup X176.here hx rfl (hb hby at_252) rfl rfl ?_
                  show Steps p.tables e below (T176.setTop (mkF m 253 #[.val (.int p1), .val (.int p2), .val (.int p3), .val (.int p4), .val (.int p5), .val (.int p6), .val (.int (rF p1 p3)), .val (.int (rF p2 p4)), .val (.ref b12), .val (.int (p5 &&& (7 : Int32))), .val (.int p1), .val (.int p2), .val (.int (rF p1 p3)), .val (.int (sF p2 p6)), .unset, .unset] [(.ref b176), (.ref b176)])) _
                  refine XS.iload X176.here hx rfl (hb hby at_253) rfl ?_
                  show Steps p.tables e below (T176.setTop (mkF m 255 #[.val (.int p1), .val (.int p2), .val (.int p3), .val (.int p4), .val (.int p5), .val (.int p6), .val (.int (rF p1 p3)), .val (.int (rF p2 p4)), .val (.ref b12), .val (.int (p5 &&& (7 : Int32))), .val (.int p1), .val (.int p2), .val (.int (rF p1 p3)), .val (.int (sF p2 p6)), .unset, .unset] [(.int p1), (.ref b176), (.ref b176)])) _
                  refine XS.iload X176.here hx rfl (hb hby at_255) rfl ?_
                  show Steps p.tables e below (T176.setTop (mkF m 257 #[.val (.int p1), .val (.int p2), .val (.int p3), .val (.int p4), .val (.int p5), .val (.int p6), .val (.int (rF p1 p3)), .val (.int (rF p2 p4)), .val (.ref b12), .val (.int (p5 &&& (7 : Int32))), .val (.int p1), .val (.int p2), .val (.int (rF p1 p3)), .val (.int (sF p2 p6)), .unset, .unset] [(.int p2), (.int p1), (.ref b176), (.ref b176)])) _
                  refine XS.iload X176.here hx rfl (hb hby at_257) rfl ?_
                  show Steps p.tables e below (T176.setTop (mkF m 259 #[.val (.int p1), .val (.int p2), .val (.int p3), .val (.int p4), .val (.int p5), .val (.int p6), .val (.int (rF p1 p3)), .val (.int (rF p2 p4)), .val (.ref b12), .val (.int (p5 &&& (7 : Int32))), .val (.int p1), .val (.int p2), .val (.int (rF p1 p3)), .val (.int (sF p2 p6)), .unset, .unset] [(.int (rF p1 p3)), (.int p2), (.int p1), (.ref b176), (.ref b176)])) _
                  refine XS.iload X176.here hx rfl (hb hby at_259) rfl ?_
                  exact k)
                obtain ⟨_, _, ⟨T184, L184, k184, n184⟩, -, X184, ⟨Lc184, hQ184, l184, y184, z184⟩, st184⟩ := X176.specialBack hx (y := (⟨"com/example/blynds/blynds/engine/Rect", "<init>", "(IIII)V"⟩ : MethodName)) rfl hown (mvT hZ (hw _ (List.mem_of_getElem? (i := 9) rfl))) (mvT hZ (hw _ (List.mem_of_getElem? (i := 10) rfl))) (mvT hZ (hw _ (List.mem_of_getElem? (i := 11) rfl))) (by decide) (backOf (W := 1) (rm_rc l Z a0 hw [] b176 p1 p2 (rF p1 p3) (sF p2 p6) h176 n0 Z176 O176 A176 F_left_b176 F_top_b176 F_right_b176 F_bottom_b176 g_b176 z_b176 (own_rF _ _) (own_sF _ _)) hZ (hw _ (List.mem_of_getElem? (i := 11) rfl)) (hw _ (List.mem_of_getElem? (i := 8) rfl)) (by decide) (by decide)) (g := (mkF m 261 #[.val (.int p1), .val (.int p2), .val (.int p3), .val (.int p4), .val (.int p5), .val (.int p6), .val (.int (rF p1 p3)), .val (.int (rF p2 p4)), .val (.ref b12), .val (.int (p5 &&& (7 : Int32))), .val (.int p1), .val (.int p2), .val (.int (rF p1 p3)), .val (.int (sF p2 p6)), .unset, .unset] [(.int (sF p2 p6)), (.int (rF p1 p3)), (.int p2), (.int p1), (.ref b176), (.ref b176)])) rfl (by rw [hml]; rfl) (Steps.refl _) (a := b176) (argsL := [(.int p1), (.int p2), (.int (rF p1 p3)), (.int (sF p2 p6))]) (rest := [(.ref b176)]) (lenOf pd_3 rfl) rfl (by show 2 * 0 + _ ≤ _; exact Nat.le_of_eq rfl) (hb hby at_261) (fun _ _ => ⟨rfl, e176, (by decide : 2 + 0 ≤ _), (by decide : 8 + 0 ≤ _)⟩)
                dsimp only [Pt.U, Pt.locs, Pt.cells, Pt.slots] at X184 l184 y184 z184 st184 hQ184
                subst l184 y184 z184
                obtain ⟨rfl, N184q, Kq184, r184_0, r184_1, r184_2, r184_3, r184_4⟩ := hQ184
                have f185 := (f177.keep Kq184)
                have f186 := (f178.keep Kq184 (ninS neb12_b176 nin0))
                have f187 := (f179.keep Kq184 (ninS neb12_b176 nin0))
                have f188 := (f180.keep Kq184 (ninS neb12_b176 nin0))
                have f189 := (f181.keep Kq184 (ninS neb12_b176 nin0))
                have O184 : Ext Z.heap T184.heap := own_ext_keep O176 Kq184 (allS z_b176 all0)
                have K184 := K176.trans Kq184 (allS (Or.inr sz_b176) all0)
                have Z184 : n0 ≤ T184.heap.size := Nat.le_trans Z176 Kq184.1
                have N184 := Fr.app N171 N184q
                have pre190 : ∀ t, Steps p.tables e below (T184.setTop (mkF m 264 #[.val (.int p1), .val (.int p2), .val (.int p3), .val (.int p4), .val (.int p5), .val (.int p6), .val (.int (rF p1 p3)), .val (.int (rF p2 p4)), .val (.ref b12), .val (.int (p5 &&& (7 : Int32))), .val (.int p1), .val (.int p2), .val (.int (rF p1 p3)), .val (.int (sF p2 p6)), .unset, .unset] [(.ref b176)])) t → Steps p.tables e below (s₁.setTop (entryFrame m #[(.int p1), (.int p2), (.int p3), (.int p4), (.int p5), (.int p6)] maxLocals)) t := fun t k => pre183 t (st184.trans k)
                have pre191 : ∀ t, Steps p.tables e below (T184.setTop (mkF m 289 #[.val (.int p1), .val (.int p2), .val (.int p3), .val (.int p4), .val (.int p5), .val (.int p6), .val (.int (rF p1 p3)), .val (.int (rF p2 p4)), .val (.ref b12), .val (.int (p5 &&& (7 : Int32))), .val (.int p1), .val (.int p2), .val (.int (rF p1 p3)), .val (.int (sF p2 p6)), .val (.ref b176), .unset] [(.int (sF p2 p6)), (.int (rF p2 p4))])) t → Steps p.tables e below (s₁.setTop (entryFrame m #[(.int p1), (.int p2), (.int p3), (.int p4), (.int p5), (.int p6)] maxLocals)) t := fun t k => pre190 t (by
                  show Steps p.tables e below (T184.setTop (mkF m 264 #[.val (.int p1), .val (.int p2), .val (.int p3), .val (.int p4), .val (.int p5), .val (.int p6), .val (.int (rF p1 p3)), .val (.int (rF p2 p4)), .val (.ref b12), .val (.int (p5 &&& (7 : Int32))), .val (.int p1), .val (.int p2), .val (.int (rF p1 p3)), .val (.int (sF p2 p6)), .unset, .unset] [(.ref b176)])) _
                  refine XS.astore X184.here hx rfl (hb hby at_264) rfl rfl (l' := #[.val (.int p1), .val (.int p2), .val (.int p3), .val (.int p4), .val (.int p5), .val (.int p6), .val (.int (rF p1 p3)), .val (.int (rF p2 p4)), .val (.ref b12), .val (.int (p5 &&& (7 : Int32))), .val (.int p1), .val (.int p2), .val (.int (rF p1 p3)), .val (.int (sF p2 p6)), .val (.ref b176), .unset]) rfl ?_
                  show Steps p.tables e below (T184.setTop (mkF m 266 #[.val (.int p1), .val (.int p2), .val (.int p3), .val (.int p4), .val (.int p5), .val (.int p6), .val (.int (rF p1 p3)), .val (.int (rF p2 p4)), .val (.ref b12), .val (.int (p5 &&& (7 : Int32))), .val (.int p1), .val (.int p2), .val (.int (rF p1 p3)), .val (.int (sF p2 p6)), .val (.ref b176), .unset] [])) _
                  refine XS.iloadN X184.here hx rfl (hb hby at_266) rfl ?_
                  show Steps p.tables e below (T184.setTop (mkF m 267 #[.val (.int p1), .val (.int p2), .val (.int p3), .val (.int p4), .val (.int p5), .val (.int p6), .val (.int (rF p1 p3)), .val (.int (rF p2 p4)), .val (.ref b12), .val (.int (p5 &&& (7 : Int32))), .val (.int p1), .val (.int p2), .val (.int (rF p1 p3)), .val (.int (sF p2 p6)), .val (.ref b176), .unset] [(.int p1)])) _
                  refine XS.iload X184.here hx rfl (hb hby at_267) rfl ?_
                  show Steps p.tables e below (T184.setTop (mkF m 269 #[.val (.int p1), .val (.int p2), .val (.int p3), .val (.int p4), .val (.int p5), .val (.int p6), .val (.int (rF p1 p3)), .val (.int (rF p2 p4)), .val (.ref b12), .val (.int (p5 &&& (7 : Int32))), .val (.int p1), .val (.int p2), .val (.int (rF p1 p3)), .val (.int (sF p2 p6)), .val (.ref b176), .unset] [(.int p1), (.int p1)])) _
                  refine XS.icmpNo X184.here hx rfl (hb hby at_269) rfl (teq (rfl : p1 = p1)).2 ?_
                  show Steps p.tables e below (T184.setTop (mkF m 272 #[.val (.int p1), .val (.int p2), .val (.int p3), .val (.int p4), .val (.int p5), .val (.int p6), .val (.int (rF p1 p3)), .val (.int (rF p2 p4)), .val (.ref b12), .val (.int (p5 &&& (7 : Int32))), .val (.int p1), .val (.int p2), .val (.int (rF p1 p3)), .val (.int (sF p2 p6)), .val (.ref b176), .unset] [])) _
                  refine XS.iloadN X184.here hx rfl (hb hby at_272) rfl ?_
                  show Steps p.tables e below (T184.setTop (mkF m 273 #[.val (.int p1), .val (.int p2), .val (.int p3), .val (.int p4), .val (.int p5), .val (.int p6), .val (.int (rF p1 p3)), .val (.int (rF p2 p4)), .val (.ref b12), .val (.int (p5 &&& (7 : Int32))), .val (.int p1), .val (.int p2), .val (.int (rF p1 p3)), .val (.int (sF p2 p6)), .val (.ref b176), .unset] [(.int p2)])) _
                  refine XS.iload X184.here hx rfl (hb hby at_273) rfl ?_
                  show Steps p.tables e below (T184.setTop (mkF m 275 #[.val (.int p1), .val (.int p2), .val (.int p3), .val (.int p4), .val (.int p5), .val (.int p6), .val (.int (rF p1 p3)), .val (.int (rF p2 p4)), .val (.ref b12), .val (.int (p5 &&& (7 : Int32))), .val (.int p1), .val (.int p2), .val (.int (rF p1 p3)), .val (.int (sF p2 p6)), .val (.ref b176), .unset] [(.int p2), (.int p2)])) _
                  refine XS.icmpNo X184.here hx rfl (hb hby at_275) rfl (teq (rfl : p2 = p2)).2 ?_
                  show Steps p.tables e below (T184.setTop (mkF m 278 #[.val (.int p1), .val (.int p2), .val (.int p3), .val (.int p4), .val (.int p5), .val (.int p6), .val (.int (rF p1 p3)), .val (.int (rF p2 p4)), .val (.ref b12), .val (.int (p5 &&& (7 : Int32))), .val (.int p1), .val (.int p2), .val (.int (rF p1 p3)), .val (.int (sF p2 p6)), .val (.ref b176), .unset] [])) _
                  refine XS.iload X184.here hx rfl (hb hby at_278) rfl ?_
                  show Steps p.tables e below (T184.setTop (mkF m 280 #[.val (.int p1), .val (.int p2), .val (.int p3), .val (.int p4), .val (.int p5), .val (.int p6), .val (.int (rF p1 p3)), .val (.int (rF p2 p4)), .val (.ref b12), .val (.int (p5 &&& (7 : Int32))), .val (.int p1), .val (.int p2), .val (.int (rF p1 p3)), .val (.int (sF p2 p6)), .val (.ref b176), .unset] [(.int (rF p1 p3))])) _
                  refine XS.iload X184.here hx rfl (hb hby at_280) rfl ?_
                  show Steps p.tables e below (T184.setTop (mkF m 282 #[.val (.int p1), .val (.int p2), .val (.int p3), .val (.int p4), .val (.int p5), .val (.int p6), .val (.int (rF p1 p3)), .val (.int (rF p2 p4)), .val (.ref b12), .val (.int (p5 &&& (7 : Int32))), .val (.int p1), .val (.int p2), .val (.int (rF p1 p3)), .val (.int (sF p2 p6)), .val (.ref b176), .unset] [(.int (rF p1 p3)), (.int (rF p1 p3))])) _
                  refine XS.icmpNo X184.here hx rfl (hb hby at_282) rfl (teq (rfl : (rF p1 p3) = (rF p1 p3))).2 ?_
                  show Steps p.tables e below (T184.setTop (mkF m 285 #[.val (.int p1), .val (.int p2), .val (.int p3), .val (.int p4), .val (.int p5), .val (.int p6), .val (.int (rF p1 p3)), .val (.int (rF p2 p4)), .val (.ref b12), .val (.int (p5 &&& (7 : Int32))), .val (.int p1), .val (.int p2), .val (.int (rF p1 p3)), .val (.int (sF p2 p6)), .val (.ref b176), .unset] [])) _
                  refine XS.iload X184.here hx rfl (hb hby at_285) rfl ?_
                  show Steps p.tables e below (T184.setTop (mkF m 287 #[.val (.int p1), .val (.int p2), .val (.int p3), .val (.int p4), .val (.int p5), .val (.int p6), .val (.int (rF p1 p3)), .val (.int (rF p2 p4)), .val (.ref b12), .val (.int (p5 &&& (7 : Int32))), .val (.int p1), .val (.int p2), .val (.int (rF p1 p3)), .val (.int (sF p2 p6)), .val (.ref b176), .unset] [(.int (rF p2 p4))])) _
                  refine XS.iload X184.here hx rfl (hb hby at_287) rfl ?_
                  exact k)
                by_cases hc289_192 : (rF p2 p4) = (sF p2 p6)
                · have pre193 : ∀ t, Steps p.tables e below (T184.setTop (mkF m 303 #[.val (.int p1), .val (.int p2), .val (.int p3), .val (.int p4), .val (.int p5), .val (.int p6), .val (.int (rF p1 p3)), .val (.int (rF p2 p4)), .val (.ref b12), .val (.int (p5 &&& (7 : Int32))), .val (.int p1), .val (.int p2), .val (.int (rF p1 p3)), .val (.int (sF p2 p6)), .val (.ref b176), .val (.int (1 : Int32))] [(.ref b176), (.ref b12)])) t → Steps p.tables e below (s₁.setTop (entryFrame m #[(.int p1), (.int p2), (.int p3), (.int p4), (.int p5), (.int p6)] maxLocals)) t := fun t k => pre191 t (by
                    show Steps p.tables e below (T184.setTop (mkF m 289 #[.val (.int p1), .val (.int p2), .val (.int p3), .val (.int p4), .val (.int p5), .val (.int p6), .val (.int (rF p1 p3)), .val (.int (rF p2 p4)), .val (.ref b12), .val (.int (p5 &&& (7 : Int32))), .val (.int p1), .val (.int p2), .val (.int (rF p1 p3)), .val (.int (sF p2 p6)), .val (.ref b176), .unset] [(.int (sF p2 p6)), (.int (rF p2 p4))])) _
                    refine XS.icmpNo X184.here hx rfl (hb hby at_289) rfl (teq hc289_192).2 ?_
                    show Steps p.tables e below (T184.setTop (mkF m 292 #[.val (.int p1), .val (.int p2), .val (.int p3), .val (.int p4), .val (.int p5), .val (.int p6), .val (.int (rF p1 p3)), .val (.int (rF p2 p4)), .val (.ref b12), .val (.int (p5 &&& (7 : Int32))), .val (.int p1), .val (.int p2), .val (.int (rF p1 p3)), .val (.int (sF p2 p6)), .val (.ref b176), .unset] [])) _
                    refine XS.iconst X184.here hx rfl (hb hby at_292) ?_
                    show Steps p.tables e below (T184.setTop (mkF m 293 #[.val (.int p1), .val (.int p2), .val (.int p3), .val (.int p4), .val (.int p5), .val (.int p6), .val (.int (rF p1 p3)), .val (.int (rF p2 p4)), .val (.ref b12), .val (.int (p5 &&& (7 : Int32))), .val (.int p1), .val (.int p2), .val (.int (rF p1 p3)), .val (.int (sF p2 p6)), .val (.ref b176), .unset] [(.int (1 : Int32))])) _
                    refine XS.goto X184.here hx rfl (pc0 := 293) (pc' := 297) rfl (hb hby at_293) (by decide) (by decide) ?_
                    show Steps p.tables e below (T184.setTop (mkF m 297 #[.val (.int p1), .val (.int p2), .val (.int p3), .val (.int p4), .val (.int p5), .val (.int p6), .val (.int (rF p1 p3)), .val (.int (rF p2 p4)), .val (.ref b12), .val (.int (p5 &&& (7 : Int32))), .val (.int p1), .val (.int p2), .val (.int (rF p1 p3)), .val (.int (sF p2 p6)), .val (.ref b176), .unset] [(.int (1 : Int32))])) _
                    refine XS.istore X184.here hx rfl (hb hby at_297) rfl (l' := #[.val (.int p1), .val (.int p2), .val (.int p3), .val (.int p4), .val (.int p5), .val (.int p6), .val (.int (rF p1 p3)), .val (.int (rF p2 p4)), .val (.ref b12), .val (.int (p5 &&& (7 : Int32))), .val (.int p1), .val (.int p2), .val (.int (rF p1 p3)), .val (.int (sF p2 p6)), .val (.ref b176), .val (.int (1 : Int32))]) rfl ?_
                    show Steps p.tables e below (T184.setTop (mkF m 299 #[.val (.int p1), .val (.int p2), .val (.int p3), .val (.int p4), .val (.int p5), .val (.int p6), .val (.int (rF p1 p3)), .val (.int (rF p2 p4)), .val (.ref b12), .val (.int (p5 &&& (7 : Int32))), .val (.int p1), .val (.int p2), .val (.int (rF p1 p3)), .val (.int (sF p2 p6)), .val (.ref b176), .val (.int (1 : Int32))] [])) _
                    refine XS.aload X184.here hx rfl (hb hby at_299) rfl rfl ?_
                    show Steps p.tables e below (T184.setTop (mkF m 301 #[.val (.int p1), .val (.int p2), .val (.int p3), .val (.int p4), .val (.int p5), .val (.int p6), .val (.int (rF p1 p3)), .val (.int (rF p2 p4)), .val (.ref b12), .val (.int (p5 &&& (7 : Int32))), .val (.int p1), .val (.int p2), .val (.int (rF p1 p3)), .val (.int (sF p2 p6)), .val (.ref b176), .val (.int (1 : Int32))] [(.ref b12)])) _
                    refine XS.aload X184.here hx rfl (hb hby at_301) rfl rfl ?_
                    exact k)
                  obtain ⟨cq194, kq194, q194a, q194b, q194c⟩ := isOf hZ rfl f185
                  obtain ⟨_, _, ⟨T194, L194, k194, n194⟩, -, X194, ⟨Lc194, hQ194, l194, y194, z194⟩, st194⟩ := X184.virtualBack hx (y := (⟨"com/example/blynds/blynds/engine/Rect", "equals", "(Ljava/lang/Object;)Z"⟩ : MethodName)) (z := (⟨"com/example/blynds/blynds/engine/Rect", "equals", "(Ljava/lang/Object;)Z"⟩ : MethodName)) hown (mvT hZ (hw _ (List.mem_of_getElem? (i := 24) rfl))) (mvT hZ (hw _ (List.mem_of_getElem? (i := 25) rfl))) (notFace_of_selects (args := #[]) (mvT hZ (hw _ (List.mem_of_getElem? (i := 27) rfl)))) (mvT hZ (hw _ (List.mem_of_getElem? (i := 27) rfl))) (mvT hZ (hw _ (List.mem_of_getElem? (i := 26) rfl))) (by decide) (backOf (W := 0) (rm_eqobj l Z a0 hw [] b12 b176 p1 p2 (rF p1 p3) (rF p2 p4) p1 p2 (rF p1 p3) (sF p2 p6) T184.heap n0 Z184 O184 r184_0 f186 f187 f188 f189 r184_1 r184_2 r184_3 r184_4 neb12_b176) hZ (hw _ (List.mem_of_getElem? (i := 28) rfl)) (hw _ (List.mem_of_getElem? (i := 8) rfl)) (by decide) (by decide)) q194a q194c (g := (mkF m 303 #[.val (.int p1), .val (.int p2), .val (.int p3), .val (.int p4), .val (.int p5), .val (.int p6), .val (.int (rF p1 p3)), .val (.int (rF p2 p4)), .val (.ref b12), .val (.int (p5 &&& (7 : Int32))), .val (.int p1), .val (.int p2), .val (.int (rF p1 p3)), .val (.int (sF p2 p6)), .val (.ref b176), .val (.int (1 : Int32))] [(.ref b176), (.ref b12)])) rfl (by rw [hml]; rfl) (Steps.refl _) (argsL := [(.ref b176)]) (rest := []) (lenOf pd_4 rfl) rfl (by show 2 * 0 + _ ≤ _; exact Nat.le_of_eq rfl) (hb hby at_303) (fun _ _ => ⟨rfl, rfl, (by decide : 2 + 0 ≤ _), (by decide : 8 + 0 ≤ _)⟩)
                  dsimp only [Pt.U, Pt.locs, Pt.cells, Pt.slots] at X194 l194 y194 z194 st194 hQ194
                  subst l194 y194 z194
                  obtain ⟨hv194, N194q, e194⟩ := hQ194
                  rw [(show (eqNF p1 p2 (rF p1 p3) (rF p2 p4) p1 p2 (rF p1 p3) (sF p2 p6)) = (1 : Int32) from (own_eq_yes rfl rfl rfl hc289_192))] at hv194
                  subst hv194
                  have N194 := Fr.app N184 N194q
                  have pre195 : ∀ t, Steps p.tables e below (T194.setTop (mkF m 306 #[.val (.int p1), .val (.int p2), .val (.int p3), .val (.int p4), .val (.int p5), .val (.int p6), .val (.int (rF p1 p3)), .val (.int (rF p2 p4)), .val (.ref b12), .val (.int (p5 &&& (7 : Int32))), .val (.int p1), .val (.int p2), .val (.int (rF p1 p3)), .val (.int (sF p2 p6)), .val (.ref b176), .val (.int (1 : Int32))] [(.int (1 : Int32))])) t → Steps p.tables e below (s₁.setTop (entryFrame m #[(.int p1), (.int p2), (.int p3), (.int p4), (.int p5), (.int p6)] maxLocals)) t := fun t k => pre193 t (st194.trans k)
                  have pre196 : ∀ t, Steps p.tables e below (T194.setTop (mkF m 315 #[.val (.int p1), .val (.int p2), .val (.int p3), .val (.int p4), .val (.int p5), .val (.int p6), .val (.int (rF p1 p3)), .val (.int (rF p2 p4)), .val (.ref b12), .val (.int (p5 &&& (7 : Int32))), .val (.int p1), .val (.int p2), .val (.int (rF p1 p3)), .val (.int (sF p2 p6)), .val (.ref b176), .val (.int (1 : Int32))] [(.ref b12), (.ref b176)])) t → Steps p.tables e below (s₁.setTop (entryFrame m #[(.int p1), (.int p2), (.int p3), (.int p4), (.int p5), (.int p6)] maxLocals)) t := fun t k => pre195 t (by
                    show Steps p.tables e below (T194.setTop (mkF m 306 #[.val (.int p1), .val (.int p2), .val (.int p3), .val (.int p4), .val (.int p5), .val (.int p6), .val (.int (rF p1 p3)), .val (.int (rF p2 p4)), .val (.ref b12), .val (.int (p5 &&& (7 : Int32))), .val (.int p1), .val (.int p2), .val (.int (rF p1 p3)), .val (.int (sF p2 p6)), .val (.ref b176), .val (.int (1 : Int32))] [(.int (1 : Int32))])) _
                    refine XS.iload X194.here hx rfl (hb hby at_306) rfl ?_
                    show Steps p.tables e below (T194.setTop (mkF m 308 #[.val (.int p1), .val (.int p2), .val (.int p3), .val (.int p4), .val (.int p5), .val (.int p6), .val (.int (rF p1 p3)), .val (.int (rF p2 p4)), .val (.ref b12), .val (.int (p5 &&& (7 : Int32))), .val (.int p1), .val (.int p2), .val (.int (rF p1 p3)), .val (.int (sF p2 p6)), .val (.ref b176), .val (.int (1 : Int32))] [(.int (1 : Int32)), (.int (1 : Int32))])) _
                    refine XS.icmpNo X194.here hx rfl (hb hby at_308) rfl (teq (by decide : (1 : Int32) = (1 : Int32))).2 ?_
                    show Steps p.tables e below (T194.setTop (mkF m 311 #[.val (.int p1), .val (.int p2), .val (.int p3), .val (.int p4), .val (.int p5), .val (.int p6), .val (.int (rF p1 p3)), .val (.int (rF p2 p4)), .val (.ref b12), .val (.int (p5 &&& (7 : Int32))), .val (.int p1), .val (.int p2), .val (.int (rF p1 p3)), .val (.int (sF p2 p6)), .val (.ref b176), .val (.int (1 : Int32))] [])) _
                    refine XS.aload X194.here hx rfl (hb hby at_311) rfl rfl ?_
                    show Steps p.tables e below (T194.setTop (mkF m 313 #[.val (.int p1), .val (.int p2), .val (.int p3), .val (.int p4), .val (.int p5), .val (.int p6), .val (.int (rF p1 p3)), .val (.int (rF p2 p4)), .val (.ref b12), .val (.int (p5 &&& (7 : Int32))), .val (.int p1), .val (.int p2), .val (.int (rF p1 p3)), .val (.int (sF p2 p6)), .val (.ref b176), .val (.int (1 : Int32))] [(.ref b176)])) _
                    refine XS.aload X194.here hx rfl (hb hby at_313) rfl rfl ?_
                    exact k)
                  obtain ⟨cq197, kq197, q197a, q197b, q197c⟩ := isOf hZ e194 r184_0
                  obtain ⟨_, _, ⟨T197, L197, k197, n197⟩, -, X197, ⟨Lc197, hQ197, l197, y197, z197⟩, st197⟩ := X194.virtualBack hx (y := (⟨"com/example/blynds/blynds/engine/Rect", "equals", "(Ljava/lang/Object;)Z"⟩ : MethodName)) (z := (⟨"com/example/blynds/blynds/engine/Rect", "equals", "(Ljava/lang/Object;)Z"⟩ : MethodName)) hown (mvT hZ (hw _ (List.mem_of_getElem? (i := 24) rfl))) (mvT hZ (hw _ (List.mem_of_getElem? (i := 25) rfl))) (notFace_of_selects (args := #[]) (mvT hZ (hw _ (List.mem_of_getElem? (i := 27) rfl)))) (mvT hZ (hw _ (List.mem_of_getElem? (i := 27) rfl))) (mvT hZ (hw _ (List.mem_of_getElem? (i := 26) rfl))) (by decide) (backOf (W := 0) (rm_eqobj l Z a0 hw [] b176 b12 p1 p2 (rF p1 p3) (sF p2 p6) p1 p2 (rF p1 p3) (rF p2 p4) T184.heap n0 Z184 O184 f185 r184_1 r184_2 r184_3 r184_4 f186 f187 f188 f189 (Ne.symm neb12_b176)) hZ (hw _ (List.mem_of_getElem? (i := 28) rfl)) (hw _ (List.mem_of_getElem? (i := 8) rfl)) (by decide) (by decide)) q197a q197c (g := (mkF m 315 #[.val (.int p1), .val (.int p2), .val (.int p3), .val (.int p4), .val (.int p5), .val (.int p6), .val (.int (rF p1 p3)), .val (.int (rF p2 p4)), .val (.ref b12), .val (.int (p5 &&& (7 : Int32))), .val (.int p1), .val (.int p2), .val (.int (rF p1 p3)), .val (.int (sF p2 p6)), .val (.ref b176), .val (.int (1 : Int32))] [(.ref b12), (.ref b176)])) rfl (by rw [hml]; rfl) (Steps.refl _) (argsL := [(.ref b12)]) (rest := []) (lenOf pd_4 rfl) rfl (by show 2 * 0 + _ ≤ _; exact Nat.le_of_eq rfl) (hb hby at_315) (fun _ _ => ⟨rfl, e194, (by decide : 2 + 0 ≤ _), (by decide : 8 + 0 ≤ _)⟩)
                  dsimp only [Pt.U, Pt.locs, Pt.cells, Pt.slots] at X197 l197 y197 z197 st197 hQ197
                  subst l197 y197 z197
                  obtain ⟨hv197, N197q, e197⟩ := hQ197
                  rw [(show (eqNF p1 p2 (rF p1 p3) (sF p2 p6) p1 p2 (rF p1 p3) (rF p2 p4)) = (1 : Int32) from (own_eq_yes rfl rfl rfl (hc289_192).symm))] at hv197
                  subst hv197
                  have N197 := Fr.app N194 N197q
                  have pre198 : ∀ t, Steps p.tables e below (T197.setTop (mkF m 318 #[.val (.int p1), .val (.int p2), .val (.int p3), .val (.int p4), .val (.int p5), .val (.int p6), .val (.int (rF p1 p3)), .val (.int (rF p2 p4)), .val (.ref b12), .val (.int (p5 &&& (7 : Int32))), .val (.int p1), .val (.int p2), .val (.int (rF p1 p3)), .val (.int (sF p2 p6)), .val (.ref b176), .val (.int (1 : Int32))] [(.int (1 : Int32))])) t → Steps p.tables e below (s₁.setTop (entryFrame m #[(.int p1), (.int p2), (.int p3), (.int p4), (.int p5), (.int p6)] maxLocals)) t := fun t k => pre196 t (st197.trans k)
                  have pre199 : ∀ t, Steps p.tables e below (T197.setTop (mkF m 328 #[.val (.int p1), .val (.int p2), .val (.int p3), .val (.int p4), .val (.int p5), .val (.int p6), .val (.int (rF p1 p3)), .val (.int (rF p2 p4)), .val (.ref b12), .val (.int (p5 &&& (7 : Int32))), .val (.int p1), .val (.int p2), .val (.int (rF p1 p3)), .val (.int (sF p2 p6)), .val (.ref b176), .val (.int (1 : Int32))] [(.int (1 : Int32))])) t → Steps p.tables e below (s₁.setTop (entryFrame m #[(.int p1), (.int p2), (.int p3), (.int p4), (.int p5), (.int p6)] maxLocals)) t := fun t k => pre198 t (by
                    show Steps p.tables e below (T197.setTop (mkF m 318 #[.val (.int p1), .val (.int p2), .val (.int p3), .val (.int p4), .val (.int p5), .val (.int p6), .val (.int (rF p1 p3)), .val (.int (rF p2 p4)), .val (.ref b12), .val (.int (p5 &&& (7 : Int32))), .val (.int p1), .val (.int p2), .val (.int (rF p1 p3)), .val (.int (sF p2 p6)), .val (.ref b176), .val (.int (1 : Int32))] [(.int (1 : Int32))])) _
                    refine XS.iload X197.here hx rfl (hb hby at_318) rfl ?_
                    show Steps p.tables e below (T197.setTop (mkF m 320 #[.val (.int p1), .val (.int p2), .val (.int p3), .val (.int p4), .val (.int p5), .val (.int p6), .val (.int (rF p1 p3)), .val (.int (rF p2 p4)), .val (.ref b12), .val (.int (p5 &&& (7 : Int32))), .val (.int p1), .val (.int p2), .val (.int (rF p1 p3)), .val (.int (sF p2 p6)), .val (.ref b176), .val (.int (1 : Int32))] [(.int (1 : Int32)), (.int (1 : Int32))])) _
                    refine XS.icmpNo X197.here hx rfl (hb hby at_320) rfl (teq (by decide : (1 : Int32) = (1 : Int32))).2 ?_
                    show Steps p.tables e below (T197.setTop (mkF m 323 #[.val (.int p1), .val (.int p2), .val (.int p3), .val (.int p4), .val (.int p5), .val (.int p6), .val (.int (rF p1 p3)), .val (.int (rF p2 p4)), .val (.ref b12), .val (.int (p5 &&& (7 : Int32))), .val (.int p1), .val (.int p2), .val (.int (rF p1 p3)), .val (.int (sF p2 p6)), .val (.ref b176), .val (.int (1 : Int32))] [])) _
                    refine XS.iconst X197.here hx rfl (hb hby at_323) ?_
                    show Steps p.tables e below (T197.setTop (mkF m 324 #[.val (.int p1), .val (.int p2), .val (.int p3), .val (.int p4), .val (.int p5), .val (.int p6), .val (.int (rF p1 p3)), .val (.int (rF p2 p4)), .val (.ref b12), .val (.int (p5 &&& (7 : Int32))), .val (.int p1), .val (.int p2), .val (.int (rF p1 p3)), .val (.int (sF p2 p6)), .val (.ref b176), .val (.int (1 : Int32))] [(.int (1 : Int32))])) _
                    refine XS.goto X197.here hx rfl (pc0 := 324) (pc' := 328) rfl (hb hby at_324) (by decide) (by decide) ?_
                    exact k)
                  obtain ⟨fs, hr, hrun, hended, hW, hsame⟩ := X197.leave (v := some (.int (1 : Int32))) (fun h => by rw [Bd.returns] at h; cases h)
                  refine ⟨_, _, pre199 _ ?_, hrun, hended, _, _, rfl, ?_, ⟨_, rfl⟩, hW, hsame.mono (by decide) (by decide)⟩
                  · exact retN X197 hx (t := .boolean) Bd.returns (by simp) (hb hby at_328) hr
                  · show Q_rm_law Z p1 p2 p3 p4 p5 p6 cA cl h0 n0 _ T197.heap _
                    rw [e197]
                    exact ⟨rfl, N197⟩
                · have pre200 : ∀ t, Steps p.tables e below (T184.setTop (mkF m 303 #[.val (.int p1), .val (.int p2), .val (.int p3), .val (.int p4), .val (.int p5), .val (.int p6), .val (.int (rF p1 p3)), .val (.int (rF p2 p4)), .val (.ref b12), .val (.int (p5 &&& (7 : Int32))), .val (.int p1), .val (.int p2), .val (.int (rF p1 p3)), .val (.int (sF p2 p6)), .val (.ref b176), .val (.int (0 : Int32))] [(.ref b176), (.ref b12)])) t → Steps p.tables e below (s₁.setTop (entryFrame m #[(.int p1), (.int p2), (.int p3), (.int p4), (.int p5), (.int p6)] maxLocals)) t := fun t k => pre191 t (by
                    show Steps p.tables e below (T184.setTop (mkF m 289 #[.val (.int p1), .val (.int p2), .val (.int p3), .val (.int p4), .val (.int p5), .val (.int p6), .val (.int (rF p1 p3)), .val (.int (rF p2 p4)), .val (.ref b12), .val (.int (p5 &&& (7 : Int32))), .val (.int p1), .val (.int p2), .val (.int (rF p1 p3)), .val (.int (sF p2 p6)), .val (.ref b176), .unset] [(.int (sF p2 p6)), (.int (rF p2 p4))])) _
                    refine XS.icmpYes X184.here hx rfl (pc0 := 289) (pc' := 296) rfl (hb hby at_289) rfl (feq hc289_192).2 (by decide) (by decide) ?_
                    show Steps p.tables e below (T184.setTop (mkF m 296 #[.val (.int p1), .val (.int p2), .val (.int p3), .val (.int p4), .val (.int p5), .val (.int p6), .val (.int (rF p1 p3)), .val (.int (rF p2 p4)), .val (.ref b12), .val (.int (p5 &&& (7 : Int32))), .val (.int p1), .val (.int p2), .val (.int (rF p1 p3)), .val (.int (sF p2 p6)), .val (.ref b176), .unset] [])) _
                    refine XS.iconst X184.here hx rfl (hb hby at_296) ?_
                    show Steps p.tables e below (T184.setTop (mkF m 297 #[.val (.int p1), .val (.int p2), .val (.int p3), .val (.int p4), .val (.int p5), .val (.int p6), .val (.int (rF p1 p3)), .val (.int (rF p2 p4)), .val (.ref b12), .val (.int (p5 &&& (7 : Int32))), .val (.int p1), .val (.int p2), .val (.int (rF p1 p3)), .val (.int (sF p2 p6)), .val (.ref b176), .unset] [(.int (0 : Int32))])) _
                    refine XS.istore X184.here hx rfl (hb hby at_297) rfl (l' := #[.val (.int p1), .val (.int p2), .val (.int p3), .val (.int p4), .val (.int p5), .val (.int p6), .val (.int (rF p1 p3)), .val (.int (rF p2 p4)), .val (.ref b12), .val (.int (p5 &&& (7 : Int32))), .val (.int p1), .val (.int p2), .val (.int (rF p1 p3)), .val (.int (sF p2 p6)), .val (.ref b176), .val (.int (0 : Int32))]) rfl ?_
                    show Steps p.tables e below (T184.setTop (mkF m 299 #[.val (.int p1), .val (.int p2), .val (.int p3), .val (.int p4), .val (.int p5), .val (.int p6), .val (.int (rF p1 p3)), .val (.int (rF p2 p4)), .val (.ref b12), .val (.int (p5 &&& (7 : Int32))), .val (.int p1), .val (.int p2), .val (.int (rF p1 p3)), .val (.int (sF p2 p6)), .val (.ref b176), .val (.int (0 : Int32))] [])) _
                    refine XS.aload X184.here hx rfl (hb hby at_299) rfl rfl ?_
                    show Steps p.tables e below (T184.setTop (mkF m 301 #[.val (.int p1), .val (.int p2), .val (.int p3), .val (.int p4), .val (.int p5), .val (.int p6), .val (.int (rF p1 p3)), .val (.int (rF p2 p4)), .val (.ref b12), .val (.int (p5 &&& (7 : Int32))), .val (.int p1), .val (.int p2), .val (.int (rF p1 p3)), .val (.int (sF p2 p6)), .val (.ref b176), .val (.int (0 : Int32))] [(.ref b12)])) _
                    refine XS.aload X184.here hx rfl (hb hby at_301) rfl rfl ?_
                    exact k)
                  obtain ⟨cq201, kq201, q201a, q201b, q201c⟩ := isOf hZ rfl f185
                  obtain ⟨_, _, ⟨T201, L201, k201, n201⟩, -, X201, ⟨Lc201, hQ201, l201, y201, z201⟩, st201⟩ := X184.virtualBack hx (y := (⟨"com/example/blynds/blynds/engine/Rect", "equals", "(Ljava/lang/Object;)Z"⟩ : MethodName)) (z := (⟨"com/example/blynds/blynds/engine/Rect", "equals", "(Ljava/lang/Object;)Z"⟩ : MethodName)) hown (mvT hZ (hw _ (List.mem_of_getElem? (i := 24) rfl))) (mvT hZ (hw _ (List.mem_of_getElem? (i := 25) rfl))) (notFace_of_selects (args := #[]) (mvT hZ (hw _ (List.mem_of_getElem? (i := 27) rfl)))) (mvT hZ (hw _ (List.mem_of_getElem? (i := 27) rfl))) (mvT hZ (hw _ (List.mem_of_getElem? (i := 26) rfl))) (by decide) (backOf (W := 0) (rm_eqobj l Z a0 hw [] b12 b176 p1 p2 (rF p1 p3) (rF p2 p4) p1 p2 (rF p1 p3) (sF p2 p6) T184.heap n0 Z184 O184 r184_0 f186 f187 f188 f189 r184_1 r184_2 r184_3 r184_4 neb12_b176) hZ (hw _ (List.mem_of_getElem? (i := 28) rfl)) (hw _ (List.mem_of_getElem? (i := 8) rfl)) (by decide) (by decide)) q201a q201c (g := (mkF m 303 #[.val (.int p1), .val (.int p2), .val (.int p3), .val (.int p4), .val (.int p5), .val (.int p6), .val (.int (rF p1 p3)), .val (.int (rF p2 p4)), .val (.ref b12), .val (.int (p5 &&& (7 : Int32))), .val (.int p1), .val (.int p2), .val (.int (rF p1 p3)), .val (.int (sF p2 p6)), .val (.ref b176), .val (.int (0 : Int32))] [(.ref b176), (.ref b12)])) rfl (by rw [hml]; rfl) (Steps.refl _) (argsL := [(.ref b176)]) (rest := []) (lenOf pd_4 rfl) rfl (by show 2 * 0 + _ ≤ _; exact Nat.le_of_eq rfl) (hb hby at_303) (fun _ _ => ⟨rfl, rfl, (by decide : 2 + 0 ≤ _), (by decide : 8 + 0 ≤ _)⟩)
                  dsimp only [Pt.U, Pt.locs, Pt.cells, Pt.slots] at X201 l201 y201 z201 st201 hQ201
                  subst l201 y201 z201
                  obtain ⟨hv201, N201q, e201⟩ := hQ201
                  rw [(show (eqNF p1 p2 (rF p1 p3) (rF p2 p4) p1 p2 (rF p1 p3) (sF p2 p6)) = (0 : Int32) from (own_eq_no (fun q => hc289_192 (q.2.2.2))))] at hv201
                  subst hv201
                  have N201 := Fr.app N184 N201q
                  have pre202 : ∀ t, Steps p.tables e below (T201.setTop (mkF m 306 #[.val (.int p1), .val (.int p2), .val (.int p3), .val (.int p4), .val (.int p5), .val (.int p6), .val (.int (rF p1 p3)), .val (.int (rF p2 p4)), .val (.ref b12), .val (.int (p5 &&& (7 : Int32))), .val (.int p1), .val (.int p2), .val (.int (rF p1 p3)), .val (.int (sF p2 p6)), .val (.ref b176), .val (.int (0 : Int32))] [(.int (0 : Int32))])) t → Steps p.tables e below (s₁.setTop (entryFrame m #[(.int p1), (.int p2), (.int p3), (.int p4), (.int p5), (.int p6)] maxLocals)) t := fun t k => pre200 t (st201.trans k)
                  have pre203 : ∀ t, Steps p.tables e below (T201.setTop (mkF m 315 #[.val (.int p1), .val (.int p2), .val (.int p3), .val (.int p4), .val (.int p5), .val (.int p6), .val (.int (rF p1 p3)), .val (.int (rF p2 p4)), .val (.ref b12), .val (.int (p5 &&& (7 : Int32))), .val (.int p1), .val (.int p2), .val (.int (rF p1 p3)), .val (.int (sF p2 p6)), .val (.ref b176), .val (.int (0 : Int32))] [(.ref b12), (.ref b176)])) t → Steps p.tables e below (s₁.setTop (entryFrame m #[(.int p1), (.int p2), (.int p3), (.int p4), (.int p5), (.int p6)] maxLocals)) t := fun t k => pre202 t (by
                    show Steps p.tables e below (T201.setTop (mkF m 306 #[.val (.int p1), .val (.int p2), .val (.int p3), .val (.int p4), .val (.int p5), .val (.int p6), .val (.int (rF p1 p3)), .val (.int (rF p2 p4)), .val (.ref b12), .val (.int (p5 &&& (7 : Int32))), .val (.int p1), .val (.int p2), .val (.int (rF p1 p3)), .val (.int (sF p2 p6)), .val (.ref b176), .val (.int (0 : Int32))] [(.int (0 : Int32))])) _
                    refine XS.iload X201.here hx rfl (hb hby at_306) rfl ?_
                    show Steps p.tables e below (T201.setTop (mkF m 308 #[.val (.int p1), .val (.int p2), .val (.int p3), .val (.int p4), .val (.int p5), .val (.int p6), .val (.int (rF p1 p3)), .val (.int (rF p2 p4)), .val (.ref b12), .val (.int (p5 &&& (7 : Int32))), .val (.int p1), .val (.int p2), .val (.int (rF p1 p3)), .val (.int (sF p2 p6)), .val (.ref b176), .val (.int (0 : Int32))] [(.int (0 : Int32)), (.int (0 : Int32))])) _
                    refine XS.icmpNo X201.here hx rfl (hb hby at_308) rfl (teq (by decide : (0 : Int32) = (0 : Int32))).2 ?_
                    show Steps p.tables e below (T201.setTop (mkF m 311 #[.val (.int p1), .val (.int p2), .val (.int p3), .val (.int p4), .val (.int p5), .val (.int p6), .val (.int (rF p1 p3)), .val (.int (rF p2 p4)), .val (.ref b12), .val (.int (p5 &&& (7 : Int32))), .val (.int p1), .val (.int p2), .val (.int (rF p1 p3)), .val (.int (sF p2 p6)), .val (.ref b176), .val (.int (0 : Int32))] [])) _
                    refine XS.aload X201.here hx rfl (hb hby at_311) rfl rfl ?_
                    show Steps p.tables e below (T201.setTop (mkF m 313 #[.val (.int p1), .val (.int p2), .val (.int p3), .val (.int p4), .val (.int p5), .val (.int p6), .val (.int (rF p1 p3)), .val (.int (rF p2 p4)), .val (.ref b12), .val (.int (p5 &&& (7 : Int32))), .val (.int p1), .val (.int p2), .val (.int (rF p1 p3)), .val (.int (sF p2 p6)), .val (.ref b176), .val (.int (0 : Int32))] [(.ref b176)])) _
                    refine XS.aload X201.here hx rfl (hb hby at_313) rfl rfl ?_
                    exact k)
                  obtain ⟨cq204, kq204, q204a, q204b, q204c⟩ := isOf hZ e201 r184_0
                  obtain ⟨_, _, ⟨T204, L204, k204, n204⟩, -, X204, ⟨Lc204, hQ204, l204, y204, z204⟩, st204⟩ := X201.virtualBack hx (y := (⟨"com/example/blynds/blynds/engine/Rect", "equals", "(Ljava/lang/Object;)Z"⟩ : MethodName)) (z := (⟨"com/example/blynds/blynds/engine/Rect", "equals", "(Ljava/lang/Object;)Z"⟩ : MethodName)) hown (mvT hZ (hw _ (List.mem_of_getElem? (i := 24) rfl))) (mvT hZ (hw _ (List.mem_of_getElem? (i := 25) rfl))) (notFace_of_selects (args := #[]) (mvT hZ (hw _ (List.mem_of_getElem? (i := 27) rfl)))) (mvT hZ (hw _ (List.mem_of_getElem? (i := 27) rfl))) (mvT hZ (hw _ (List.mem_of_getElem? (i := 26) rfl))) (by decide) (backOf (W := 0) (rm_eqobj l Z a0 hw [] b176 b12 p1 p2 (rF p1 p3) (sF p2 p6) p1 p2 (rF p1 p3) (rF p2 p4) T184.heap n0 Z184 O184 f185 r184_1 r184_2 r184_3 r184_4 f186 f187 f188 f189 (Ne.symm neb12_b176)) hZ (hw _ (List.mem_of_getElem? (i := 28) rfl)) (hw _ (List.mem_of_getElem? (i := 8) rfl)) (by decide) (by decide)) q204a q204c (g := (mkF m 315 #[.val (.int p1), .val (.int p2), .val (.int p3), .val (.int p4), .val (.int p5), .val (.int p6), .val (.int (rF p1 p3)), .val (.int (rF p2 p4)), .val (.ref b12), .val (.int (p5 &&& (7 : Int32))), .val (.int p1), .val (.int p2), .val (.int (rF p1 p3)), .val (.int (sF p2 p6)), .val (.ref b176), .val (.int (0 : Int32))] [(.ref b12), (.ref b176)])) rfl (by rw [hml]; rfl) (Steps.refl _) (argsL := [(.ref b12)]) (rest := []) (lenOf pd_4 rfl) rfl (by show 2 * 0 + _ ≤ _; exact Nat.le_of_eq rfl) (hb hby at_315) (fun _ _ => ⟨rfl, e201, (by decide : 2 + 0 ≤ _), (by decide : 8 + 0 ≤ _)⟩)
                  dsimp only [Pt.U, Pt.locs, Pt.cells, Pt.slots] at X204 l204 y204 z204 st204 hQ204
                  subst l204 y204 z204
                  obtain ⟨hv204, N204q, e204⟩ := hQ204
                  rw [(show (eqNF p1 p2 (rF p1 p3) (sF p2 p6) p1 p2 (rF p1 p3) (rF p2 p4)) = (0 : Int32) from (own_eq_no (fun q => hc289_192 (q.2.2.2).symm)))] at hv204
                  subst hv204
                  have N204 := Fr.app N201 N204q
                  have pre205 : ∀ t, Steps p.tables e below (T204.setTop (mkF m 318 #[.val (.int p1), .val (.int p2), .val (.int p3), .val (.int p4), .val (.int p5), .val (.int p6), .val (.int (rF p1 p3)), .val (.int (rF p2 p4)), .val (.ref b12), .val (.int (p5 &&& (7 : Int32))), .val (.int p1), .val (.int p2), .val (.int (rF p1 p3)), .val (.int (sF p2 p6)), .val (.ref b176), .val (.int (0 : Int32))] [(.int (0 : Int32))])) t → Steps p.tables e below (s₁.setTop (entryFrame m #[(.int p1), (.int p2), (.int p3), (.int p4), (.int p5), (.int p6)] maxLocals)) t := fun t k => pre203 t (st204.trans k)
                  have pre206 : ∀ t, Steps p.tables e below (T204.setTop (mkF m 328 #[.val (.int p1), .val (.int p2), .val (.int p3), .val (.int p4), .val (.int p5), .val (.int p6), .val (.int (rF p1 p3)), .val (.int (rF p2 p4)), .val (.ref b12), .val (.int (p5 &&& (7 : Int32))), .val (.int p1), .val (.int p2), .val (.int (rF p1 p3)), .val (.int (sF p2 p6)), .val (.ref b176), .val (.int (0 : Int32))] [(.int (1 : Int32))])) t → Steps p.tables e below (s₁.setTop (entryFrame m #[(.int p1), (.int p2), (.int p3), (.int p4), (.int p5), (.int p6)] maxLocals)) t := fun t k => pre205 t (by
                    show Steps p.tables e below (T204.setTop (mkF m 318 #[.val (.int p1), .val (.int p2), .val (.int p3), .val (.int p4), .val (.int p5), .val (.int p6), .val (.int (rF p1 p3)), .val (.int (rF p2 p4)), .val (.ref b12), .val (.int (p5 &&& (7 : Int32))), .val (.int p1), .val (.int p2), .val (.int (rF p1 p3)), .val (.int (sF p2 p6)), .val (.ref b176), .val (.int (0 : Int32))] [(.int (0 : Int32))])) _
                    refine XS.iload X204.here hx rfl (hb hby at_318) rfl ?_
                    show Steps p.tables e below (T204.setTop (mkF m 320 #[.val (.int p1), .val (.int p2), .val (.int p3), .val (.int p4), .val (.int p5), .val (.int p6), .val (.int (rF p1 p3)), .val (.int (rF p2 p4)), .val (.ref b12), .val (.int (p5 &&& (7 : Int32))), .val (.int p1), .val (.int p2), .val (.int (rF p1 p3)), .val (.int (sF p2 p6)), .val (.ref b176), .val (.int (0 : Int32))] [(.int (0 : Int32)), (.int (0 : Int32))])) _
                    refine XS.icmpNo X204.here hx rfl (hb hby at_320) rfl (teq (by decide : (0 : Int32) = (0 : Int32))).2 ?_
                    show Steps p.tables e below (T204.setTop (mkF m 323 #[.val (.int p1), .val (.int p2), .val (.int p3), .val (.int p4), .val (.int p5), .val (.int p6), .val (.int (rF p1 p3)), .val (.int (rF p2 p4)), .val (.ref b12), .val (.int (p5 &&& (7 : Int32))), .val (.int p1), .val (.int p2), .val (.int (rF p1 p3)), .val (.int (sF p2 p6)), .val (.ref b176), .val (.int (0 : Int32))] [])) _
                    refine XS.iconst X204.here hx rfl (hb hby at_323) ?_
                    show Steps p.tables e below (T204.setTop (mkF m 324 #[.val (.int p1), .val (.int p2), .val (.int p3), .val (.int p4), .val (.int p5), .val (.int p6), .val (.int (rF p1 p3)), .val (.int (rF p2 p4)), .val (.ref b12), .val (.int (p5 &&& (7 : Int32))), .val (.int p1), .val (.int p2), .val (.int (rF p1 p3)), .val (.int (sF p2 p6)), .val (.ref b176), .val (.int (0 : Int32))] [(.int (1 : Int32))])) _
                    refine XS.goto X204.here hx rfl (pc0 := 324) (pc' := 328) rfl (hb hby at_324) (by decide) (by decide) ?_
                    exact k)
                  obtain ⟨fs, hr, hrun, hended, hW, hsame⟩ := X204.leave (v := some (.int (1 : Int32))) (fun h => by rw [Bd.returns] at h; cases h)
                  refine ⟨_, _, pre206 _ ?_, hrun, hended, _, _, rfl, ?_, ⟨_, rfl⟩, hW, hsame.mono (by decide) (by decide)⟩
                  · exact retN X204 hx (t := .boolean) Bd.returns (by simp) (hb hby at_328) hr
                  · show Q_rm_law Z p1 p2 p3 p4 p5 p6 cA cl h0 n0 _ T204.heap _
                    rw [e204]
                    exact ⟨rfl, N204⟩
              · have pre207 : ∀ t, Steps p.tables e below (T15.setTop (mkF m 249 #[.val (.int p1), .val (.int p2), .val (.int p3), .val (.int p4), .val (.int p5), .val (.int p6), .val (.int (rF p1 p3)), .val (.int (rF p2 p4)), .val (.ref b12), .val (.int (p5 &&& (7 : Int32))), .val (.int p1), .val (.int p2), .val (.int (rF p1 p3)), .val (.int (rF p2 p4)), .unset, .unset] [])) t → Steps p.tables e below (s₁.setTop (entryFrame m #[(.int p1), (.int p2), (.int p3), (.int p4), (.int p5), (.int p6)] maxLocals)) t := fun t k => pre165 t (by
                  show Steps p.tables e below (T15.setTop (mkF m 226 #[.val (.int p1), .val (.int p2), .val (.int p3), .val (.int p4), .val (.int p5), .val (.int p6), .val (.int (rF p1 p3)), .val (.int (rF p2 p4)), .val (.ref b12), .val (.int (p5 &&& (7 : Int32))), .val (.int p1), .val (.int p2), .val (.int (rF p1 p3)), .val (.int (rF p2 p4)), .unset, .unset] [(.int (4 : Int32)), (.int (p5 &&& (7 : Int32)))])) _
                  refine XS.icmpYes X15.here hx rfl (pc0 := 226) (pc' := 249) rfl (hb hby at_226) rfl (feq hc226_166).2 (by decide) (by decide) ?_
                  exact k)
                obtain ⟨T208, h208, X208, e208, E208, A208, D208, -, st208⟩ := newO X15 hx hZ hown (hw _ (List.mem_of_getElem? (i := 6) rfl)) (hw _ (List.mem_of_getElem? (i := 7) rfl)) (hw _ (List.mem_of_getElem? (i := 8) rfl)) rfl (g := (mkF m 249 #[.val (.int p1), .val (.int p2), .val (.int p3), .val (.int p4), .val (.int p5), .val (.int p6), .val (.int (rF p1 p3)), .val (.int (rF p2 p4)), .val (.ref b12), .val (.int (p5 &&& (7 : Int32))), .val (.int p1), .val (.int p2), .val (.int (rF p1 p3)), .val (.int (rF p2 p4)), .unset, .unset] [])) rfl (hb hby at_249) (by decide) (by decide)
                obtain ⟨b208, g208⟩ : ∃ z, z = T15.heap.size := ⟨_, rfl⟩
                rw [← g208] at A208 D208 st208
                have neb12_b208 : b12 ≠ b208 := Nat.ne_of_lt (Nat.lt_of_lt_of_le r15_0.lt (Nat.le_of_eq g208.symm))
                have f209 := (r15_0.ext E208)
                have f210 := (r15_1.ext E208)
                have f211 := (r15_2.ext E208)
                have f212 := (r15_3.ext E208)
                have f213 := (r15_4.ext E208)
                have F_left_b208 : Fld Z h208 b208 "com/example/blynds/blynds/engine/Rect" "left" "I" (.int (0 : Int32)) := D208 (Or.inr (hw _ (List.mem_of_getElem? (i := 17) rfl))) (ty := .int) (by decide)
                have F_top_b208 : Fld Z h208 b208 "com/example/blynds/blynds/engine/Rect" "top" "I" (.int (0 : Int32)) := D208 (Or.inr (hw _ (List.mem_of_getElem? (i := 19) rfl))) (ty := .int) (by decide)
                have F_right_b208 : Fld Z h208 b208 "com/example/blynds/blynds/engine/Rect" "right" "I" (.int (0 : Int32)) := D208 (Or.inr (hw _ (List.mem_of_getElem? (i := 21) rfl))) (ty := .int) (by decide)
                have F_bottom_b208 : Fld Z h208 b208 "com/example/blynds/blynds/engine/Rect" "bottom" "I" (.int (0 : Int32)) := D208 (Or.inr (hw _ (List.mem_of_getElem? (i := 23) rfl))) (ty := .int) (by decide)
                have g_b208 : n0 ≤ b208 := Nat.le_trans Z15 (Nat.le_of_eq g208.symm)
                have z_b208 : Z.heap.size ≤ b208 := Nat.le_trans O15.1 (Nat.le_of_eq g208.symm)
                have sz_b208 : h0.size ≤ b208 := Nat.le_trans K15.1 (Nat.le_of_eq g208.symm)
                have K208 := K15.ext E208
                have O208 : Ext Z.heap h208 := own_ext_trans O15 E208
                have Z208 : n0 ≤ h208.size := Nat.le_trans Z15 E208.1
                have pre214 : ∀ t, Steps p.tables e below (T208.setTop (mkF m 252 #[.val (.int p1), .val (.int p2), .val (.int p3), .val (.int p4), .val (.int p5), .val (.int p6), .val (.int (rF p1 p3)), .val (.int (rF p2 p4)), .val (.ref b12), .val (.int (p5 &&& (7 : Int32))), .val (.int p1), .val (.int p2), .val (.int (rF p1 p3)), .val (.int (rF p2 p4)), .unset, .unset] [(.ref b208)])) t → Steps p.tables e below (s₁.setTop (entryFrame m #[(.int p1), (.int p2), (.int p3), (.int p4), (.int p5), (.int p6)] maxLocals)) t := fun t k => pre207 t (st208 t k)
                have pre215 : ∀ t, Steps p.tables e below (T208.setTop (mkF m 261 #[.val (.int p1), .val (.int p2), .val (.int p3), .val (.int p4), .val (.int p5), .val (.int p6), .val (.int (rF p1 p3)), .val (.int (rF p2 p4)), .val (.ref b12), .val (.int (p5 &&& (7 : Int32))), .val (.int p1), .val (.int p2), .val (.int (rF p1 p3)), .val (.int (rF p2 p4)), .unset, .unset] [(.int (rF p2 p4)), (.int (rF p1 p3)), (.int p2), (.int p1), (.ref b208), (.ref b208)])) t → Steps p.tables e below (s₁.setTop (entryFrame m #[(.int p1), (.int p2), (.int p3), (.int p4), (.int p5), (.int p6)] maxLocals)) t := fun t k => pre214 t (by
                  show Steps p.tables e below (T208.setTop (mkF m 252 #[.val (.int p1), .val (.int p2), .val (.int p3), .val (.int p4), .val (.int p5), .val (.int p6), .val (.int (rF p1 p3)), .val (.int (rF p2 p4)), .val (.ref b12), .val (.int (p5 &&& (7 : Int32))), .val (.int p1), .val (.int p2), .val (.int (rF p1 p3)), .val (.int (rF p2 p4)), .unset, .unset] [(.ref b208)])) _
                  refine XS.dup X208.here hx rfl (hb hby at_252) rfl rfl ?_
                  show Steps p.tables e below (T208.setTop (mkF m 253 #[.val (.int p1), .val (.int p2), .val (.int p3), .val (.int p4), .val (.int p5), .val (.int p6), .val (.int (rF p1 p3)), .val (.int (rF p2 p4)), .val (.ref b12), .val (.int (p5 &&& (7 : Int32))), .val (.int p1), .val (.int p2), .val (.int (rF p1 p3)), .val (.int (rF p2 p4)), .unset, .unset] [(.ref b208), (.ref b208)])) _
                  refine XS.iload X208.here hx rfl (hb hby at_253) rfl ?_
                  show Steps p.tables e below (T208.setTop (mkF m 255 #[.val (.int p1), .val (.int p2), .val (.int p3), .val (.int p4), .val (.int p5), .val (.int p6), .val (.int (rF p1 p3)), .val (.int (rF p2 p4)), .val (.ref b12), .val (.int (p5 &&& (7 : Int32))), .val (.int p1), .val (.int p2), .val (.int (rF p1 p3)), .val (.int (rF p2 p4)), .unset, .unset] [(.int p1), (.ref b208), (.ref b208)])) _
                  refine XS.iload X208.here hx rfl (hb hby at_255) rfl ?_
                  show Steps p.tables e below (T208.setTop (mkF m 257 #[.val (.int p1), .val (.int p2), .val (.int p3), .val (.int p4), .val (.int p5), .val (.int p6), .val (.int (rF p1 p3)), .val (.int (rF p2 p4)), .val (.ref b12), .val (.int (p5 &&& (7 : Int32))), .val (.int p1), .val (.int p2), .val (.int (rF p1 p3)), .val (.int (rF p2 p4)), .unset, .unset] [(.int p2), (.int p1), (.ref b208), (.ref b208)])) _
                  refine XS.iload X208.here hx rfl (hb hby at_257) rfl ?_
                  show Steps p.tables e below (T208.setTop (mkF m 259 #[.val (.int p1), .val (.int p2), .val (.int p3), .val (.int p4), .val (.int p5), .val (.int p6), .val (.int (rF p1 p3)), .val (.int (rF p2 p4)), .val (.ref b12), .val (.int (p5 &&& (7 : Int32))), .val (.int p1), .val (.int p2), .val (.int (rF p1 p3)), .val (.int (rF p2 p4)), .unset, .unset] [(.int (rF p1 p3)), (.int p2), (.int p1), (.ref b208), (.ref b208)])) _
                  refine XS.iload X208.here hx rfl (hb hby at_259) rfl ?_
                  exact k)
                obtain ⟨_, _, ⟨T216, L216, k216, n216⟩, -, X216, ⟨Lc216, hQ216, l216, y216, z216⟩, st216⟩ := X208.specialBack hx (y := (⟨"com/example/blynds/blynds/engine/Rect", "<init>", "(IIII)V"⟩ : MethodName)) rfl hown (mvT hZ (hw _ (List.mem_of_getElem? (i := 9) rfl))) (mvT hZ (hw _ (List.mem_of_getElem? (i := 10) rfl))) (mvT hZ (hw _ (List.mem_of_getElem? (i := 11) rfl))) (by decide) (backOf (W := 1) (rm_rc l Z a0 hw [] b208 p1 p2 (rF p1 p3) (rF p2 p4) h208 n0 Z208 O208 A208 F_left_b208 F_top_b208 F_right_b208 F_bottom_b208 g_b208 z_b208 (own_rF _ _) (own_rF _ _)) hZ (hw _ (List.mem_of_getElem? (i := 11) rfl)) (hw _ (List.mem_of_getElem? (i := 8) rfl)) (by decide) (by decide)) (g := (mkF m 261 #[.val (.int p1), .val (.int p2), .val (.int p3), .val (.int p4), .val (.int p5), .val (.int p6), .val (.int (rF p1 p3)), .val (.int (rF p2 p4)), .val (.ref b12), .val (.int (p5 &&& (7 : Int32))), .val (.int p1), .val (.int p2), .val (.int (rF p1 p3)), .val (.int (rF p2 p4)), .unset, .unset] [(.int (rF p2 p4)), (.int (rF p1 p3)), (.int p2), (.int p1), (.ref b208), (.ref b208)])) rfl (by rw [hml]; rfl) (Steps.refl _) (a := b208) (argsL := [(.int p1), (.int p2), (.int (rF p1 p3)), (.int (rF p2 p4))]) (rest := [(.ref b208)]) (lenOf pd_3 rfl) rfl (by show 2 * 0 + _ ≤ _; exact Nat.le_of_eq rfl) (hb hby at_261) (fun _ _ => ⟨rfl, e208, (by decide : 2 + 0 ≤ _), (by decide : 8 + 0 ≤ _)⟩)
                dsimp only [Pt.U, Pt.locs, Pt.cells, Pt.slots] at X216 l216 y216 z216 st216 hQ216
                subst l216 y216 z216
                obtain ⟨rfl, N216q, Kq216, r216_0, r216_1, r216_2, r216_3, r216_4⟩ := hQ216
                have f217 := (f209.keep Kq216)
                have f218 := (f210.keep Kq216 (ninS neb12_b208 nin0))
                have f219 := (f211.keep Kq216 (ninS neb12_b208 nin0))
                have f220 := (f212.keep Kq216 (ninS neb12_b208 nin0))
                have f221 := (f213.keep Kq216 (ninS neb12_b208 nin0))
                have O216 : Ext Z.heap T216.heap := own_ext_keep O208 Kq216 (allS z_b208 all0)
                have K216 := K208.trans Kq216 (allS (Or.inr sz_b208) all0)
                have Z216 : n0 ≤ T216.heap.size := Nat.le_trans Z208 Kq216.1
                have N216 := Fr.app N15 N216q
                have pre222 : ∀ t, Steps p.tables e below (T216.setTop (mkF m 264 #[.val (.int p1), .val (.int p2), .val (.int p3), .val (.int p4), .val (.int p5), .val (.int p6), .val (.int (rF p1 p3)), .val (.int (rF p2 p4)), .val (.ref b12), .val (.int (p5 &&& (7 : Int32))), .val (.int p1), .val (.int p2), .val (.int (rF p1 p3)), .val (.int (rF p2 p4)), .unset, .unset] [(.ref b208)])) t → Steps p.tables e below (s₁.setTop (entryFrame m #[(.int p1), (.int p2), (.int p3), (.int p4), (.int p5), (.int p6)] maxLocals)) t := fun t k => pre215 t (st216.trans k)
                have pre223 : ∀ t, Steps p.tables e below (T216.setTop (mkF m 303 #[.val (.int p1), .val (.int p2), .val (.int p3), .val (.int p4), .val (.int p5), .val (.int p6), .val (.int (rF p1 p3)), .val (.int (rF p2 p4)), .val (.ref b12), .val (.int (p5 &&& (7 : Int32))), .val (.int p1), .val (.int p2), .val (.int (rF p1 p3)), .val (.int (rF p2 p4)), .val (.ref b208), .val (.int (1 : Int32))] [(.ref b208), (.ref b12)])) t → Steps p.tables e below (s₁.setTop (entryFrame m #[(.int p1), (.int p2), (.int p3), (.int p4), (.int p5), (.int p6)] maxLocals)) t := fun t k => pre222 t (by
                  show Steps p.tables e below (T216.setTop (mkF m 264 #[.val (.int p1), .val (.int p2), .val (.int p3), .val (.int p4), .val (.int p5), .val (.int p6), .val (.int (rF p1 p3)), .val (.int (rF p2 p4)), .val (.ref b12), .val (.int (p5 &&& (7 : Int32))), .val (.int p1), .val (.int p2), .val (.int (rF p1 p3)), .val (.int (rF p2 p4)), .unset, .unset] [(.ref b208)])) _
                  refine XS.astore X216.here hx rfl (hb hby at_264) rfl rfl (l' := #[.val (.int p1), .val (.int p2), .val (.int p3), .val (.int p4), .val (.int p5), .val (.int p6), .val (.int (rF p1 p3)), .val (.int (rF p2 p4)), .val (.ref b12), .val (.int (p5 &&& (7 : Int32))), .val (.int p1), .val (.int p2), .val (.int (rF p1 p3)), .val (.int (rF p2 p4)), .val (.ref b208), .unset]) rfl ?_
                  show Steps p.tables e below (T216.setTop (mkF m 266 #[.val (.int p1), .val (.int p2), .val (.int p3), .val (.int p4), .val (.int p5), .val (.int p6), .val (.int (rF p1 p3)), .val (.int (rF p2 p4)), .val (.ref b12), .val (.int (p5 &&& (7 : Int32))), .val (.int p1), .val (.int p2), .val (.int (rF p1 p3)), .val (.int (rF p2 p4)), .val (.ref b208), .unset] [])) _
                  refine XS.iloadN X216.here hx rfl (hb hby at_266) rfl ?_
                  show Steps p.tables e below (T216.setTop (mkF m 267 #[.val (.int p1), .val (.int p2), .val (.int p3), .val (.int p4), .val (.int p5), .val (.int p6), .val (.int (rF p1 p3)), .val (.int (rF p2 p4)), .val (.ref b12), .val (.int (p5 &&& (7 : Int32))), .val (.int p1), .val (.int p2), .val (.int (rF p1 p3)), .val (.int (rF p2 p4)), .val (.ref b208), .unset] [(.int p1)])) _
                  refine XS.iload X216.here hx rfl (hb hby at_267) rfl ?_
                  show Steps p.tables e below (T216.setTop (mkF m 269 #[.val (.int p1), .val (.int p2), .val (.int p3), .val (.int p4), .val (.int p5), .val (.int p6), .val (.int (rF p1 p3)), .val (.int (rF p2 p4)), .val (.ref b12), .val (.int (p5 &&& (7 : Int32))), .val (.int p1), .val (.int p2), .val (.int (rF p1 p3)), .val (.int (rF p2 p4)), .val (.ref b208), .unset] [(.int p1), (.int p1)])) _
                  refine XS.icmpNo X216.here hx rfl (hb hby at_269) rfl (teq (rfl : p1 = p1)).2 ?_
                  show Steps p.tables e below (T216.setTop (mkF m 272 #[.val (.int p1), .val (.int p2), .val (.int p3), .val (.int p4), .val (.int p5), .val (.int p6), .val (.int (rF p1 p3)), .val (.int (rF p2 p4)), .val (.ref b12), .val (.int (p5 &&& (7 : Int32))), .val (.int p1), .val (.int p2), .val (.int (rF p1 p3)), .val (.int (rF p2 p4)), .val (.ref b208), .unset] [])) _
                  refine XS.iloadN X216.here hx rfl (hb hby at_272) rfl ?_
                  show Steps p.tables e below (T216.setTop (mkF m 273 #[.val (.int p1), .val (.int p2), .val (.int p3), .val (.int p4), .val (.int p5), .val (.int p6), .val (.int (rF p1 p3)), .val (.int (rF p2 p4)), .val (.ref b12), .val (.int (p5 &&& (7 : Int32))), .val (.int p1), .val (.int p2), .val (.int (rF p1 p3)), .val (.int (rF p2 p4)), .val (.ref b208), .unset] [(.int p2)])) _
                  refine XS.iload X216.here hx rfl (hb hby at_273) rfl ?_
                  show Steps p.tables e below (T216.setTop (mkF m 275 #[.val (.int p1), .val (.int p2), .val (.int p3), .val (.int p4), .val (.int p5), .val (.int p6), .val (.int (rF p1 p3)), .val (.int (rF p2 p4)), .val (.ref b12), .val (.int (p5 &&& (7 : Int32))), .val (.int p1), .val (.int p2), .val (.int (rF p1 p3)), .val (.int (rF p2 p4)), .val (.ref b208), .unset] [(.int p2), (.int p2)])) _
                  refine XS.icmpNo X216.here hx rfl (hb hby at_275) rfl (teq (rfl : p2 = p2)).2 ?_
                  show Steps p.tables e below (T216.setTop (mkF m 278 #[.val (.int p1), .val (.int p2), .val (.int p3), .val (.int p4), .val (.int p5), .val (.int p6), .val (.int (rF p1 p3)), .val (.int (rF p2 p4)), .val (.ref b12), .val (.int (p5 &&& (7 : Int32))), .val (.int p1), .val (.int p2), .val (.int (rF p1 p3)), .val (.int (rF p2 p4)), .val (.ref b208), .unset] [])) _
                  refine XS.iload X216.here hx rfl (hb hby at_278) rfl ?_
                  show Steps p.tables e below (T216.setTop (mkF m 280 #[.val (.int p1), .val (.int p2), .val (.int p3), .val (.int p4), .val (.int p5), .val (.int p6), .val (.int (rF p1 p3)), .val (.int (rF p2 p4)), .val (.ref b12), .val (.int (p5 &&& (7 : Int32))), .val (.int p1), .val (.int p2), .val (.int (rF p1 p3)), .val (.int (rF p2 p4)), .val (.ref b208), .unset] [(.int (rF p1 p3))])) _
                  refine XS.iload X216.here hx rfl (hb hby at_280) rfl ?_
                  show Steps p.tables e below (T216.setTop (mkF m 282 #[.val (.int p1), .val (.int p2), .val (.int p3), .val (.int p4), .val (.int p5), .val (.int p6), .val (.int (rF p1 p3)), .val (.int (rF p2 p4)), .val (.ref b12), .val (.int (p5 &&& (7 : Int32))), .val (.int p1), .val (.int p2), .val (.int (rF p1 p3)), .val (.int (rF p2 p4)), .val (.ref b208), .unset] [(.int (rF p1 p3)), (.int (rF p1 p3))])) _
                  refine XS.icmpNo X216.here hx rfl (hb hby at_282) rfl (teq (rfl : (rF p1 p3) = (rF p1 p3))).2 ?_
                  show Steps p.tables e below (T216.setTop (mkF m 285 #[.val (.int p1), .val (.int p2), .val (.int p3), .val (.int p4), .val (.int p5), .val (.int p6), .val (.int (rF p1 p3)), .val (.int (rF p2 p4)), .val (.ref b12), .val (.int (p5 &&& (7 : Int32))), .val (.int p1), .val (.int p2), .val (.int (rF p1 p3)), .val (.int (rF p2 p4)), .val (.ref b208), .unset] [])) _
                  refine XS.iload X216.here hx rfl (hb hby at_285) rfl ?_
                  show Steps p.tables e below (T216.setTop (mkF m 287 #[.val (.int p1), .val (.int p2), .val (.int p3), .val (.int p4), .val (.int p5), .val (.int p6), .val (.int (rF p1 p3)), .val (.int (rF p2 p4)), .val (.ref b12), .val (.int (p5 &&& (7 : Int32))), .val (.int p1), .val (.int p2), .val (.int (rF p1 p3)), .val (.int (rF p2 p4)), .val (.ref b208), .unset] [(.int (rF p2 p4))])) _
                  refine XS.iload X216.here hx rfl (hb hby at_287) rfl ?_
                  show Steps p.tables e below (T216.setTop (mkF m 289 #[.val (.int p1), .val (.int p2), .val (.int p3), .val (.int p4), .val (.int p5), .val (.int p6), .val (.int (rF p1 p3)), .val (.int (rF p2 p4)), .val (.ref b12), .val (.int (p5 &&& (7 : Int32))), .val (.int p1), .val (.int p2), .val (.int (rF p1 p3)), .val (.int (rF p2 p4)), .val (.ref b208), .unset] [(.int (rF p2 p4)), (.int (rF p2 p4))])) _
                  refine XS.icmpNo X216.here hx rfl (hb hby at_289) rfl (teq (rfl : (rF p2 p4) = (rF p2 p4))).2 ?_
                  show Steps p.tables e below (T216.setTop (mkF m 292 #[.val (.int p1), .val (.int p2), .val (.int p3), .val (.int p4), .val (.int p5), .val (.int p6), .val (.int (rF p1 p3)), .val (.int (rF p2 p4)), .val (.ref b12), .val (.int (p5 &&& (7 : Int32))), .val (.int p1), .val (.int p2), .val (.int (rF p1 p3)), .val (.int (rF p2 p4)), .val (.ref b208), .unset] [])) _
                  refine XS.iconst X216.here hx rfl (hb hby at_292) ?_
                  show Steps p.tables e below (T216.setTop (mkF m 293 #[.val (.int p1), .val (.int p2), .val (.int p3), .val (.int p4), .val (.int p5), .val (.int p6), .val (.int (rF p1 p3)), .val (.int (rF p2 p4)), .val (.ref b12), .val (.int (p5 &&& (7 : Int32))), .val (.int p1), .val (.int p2), .val (.int (rF p1 p3)), .val (.int (rF p2 p4)), .val (.ref b208), .unset] [(.int (1 : Int32))])) _
                  refine XS.goto X216.here hx rfl (pc0 := 293) (pc' := 297) rfl (hb hby at_293) (by decide) (by decide) ?_
                  show Steps p.tables e below (T216.setTop (mkF m 297 #[.val (.int p1), .val (.int p2), .val (.int p3), .val (.int p4), .val (.int p5), .val (.int p6), .val (.int (rF p1 p3)), .val (.int (rF p2 p4)), .val (.ref b12), .val (.int (p5 &&& (7 : Int32))), .val (.int p1), .val (.int p2), .val (.int (rF p1 p3)), .val (.int (rF p2 p4)), .val (.ref b208), .unset] [(.int (1 : Int32))])) _
                  refine XS.istore X216.here hx rfl (hb hby at_297) rfl (l' := #[.val (.int p1), .val (.int p2), .val (.int p3), .val (.int p4), .val (.int p5), .val (.int p6), .val (.int (rF p1 p3)), .val (.int (rF p2 p4)), .val (.ref b12), .val (.int (p5 &&& (7 : Int32))), .val (.int p1), .val (.int p2), .val (.int (rF p1 p3)), .val (.int (rF p2 p4)), .val (.ref b208), .val (.int (1 : Int32))]) rfl ?_
                  show Steps p.tables e below (T216.setTop (mkF m 299 #[.val (.int p1), .val (.int p2), .val (.int p3), .val (.int p4), .val (.int p5), .val (.int p6), .val (.int (rF p1 p3)), .val (.int (rF p2 p4)), .val (.ref b12), .val (.int (p5 &&& (7 : Int32))), .val (.int p1), .val (.int p2), .val (.int (rF p1 p3)), .val (.int (rF p2 p4)), .val (.ref b208), .val (.int (1 : Int32))] [])) _
                  refine XS.aload X216.here hx rfl (hb hby at_299) rfl rfl ?_
                  show Steps p.tables e below (T216.setTop (mkF m 301 #[.val (.int p1), .val (.int p2), .val (.int p3), .val (.int p4), .val (.int p5), .val (.int p6), .val (.int (rF p1 p3)), .val (.int (rF p2 p4)), .val (.ref b12), .val (.int (p5 &&& (7 : Int32))), .val (.int p1), .val (.int p2), .val (.int (rF p1 p3)), .val (.int (rF p2 p4)), .val (.ref b208), .val (.int (1 : Int32))] [(.ref b12)])) _
                  refine XS.aload X216.here hx rfl (hb hby at_301) rfl rfl ?_
                  exact k)
                obtain ⟨cq224, kq224, q224a, q224b, q224c⟩ := isOf hZ rfl f217
                obtain ⟨_, _, ⟨T224, L224, k224, n224⟩, -, X224, ⟨Lc224, hQ224, l224, y224, z224⟩, st224⟩ := X216.virtualBack hx (y := (⟨"com/example/blynds/blynds/engine/Rect", "equals", "(Ljava/lang/Object;)Z"⟩ : MethodName)) (z := (⟨"com/example/blynds/blynds/engine/Rect", "equals", "(Ljava/lang/Object;)Z"⟩ : MethodName)) hown (mvT hZ (hw _ (List.mem_of_getElem? (i := 24) rfl))) (mvT hZ (hw _ (List.mem_of_getElem? (i := 25) rfl))) (notFace_of_selects (args := #[]) (mvT hZ (hw _ (List.mem_of_getElem? (i := 27) rfl)))) (mvT hZ (hw _ (List.mem_of_getElem? (i := 27) rfl))) (mvT hZ (hw _ (List.mem_of_getElem? (i := 26) rfl))) (by decide) (backOf (W := 0) (rm_eqobj l Z a0 hw [] b12 b208 p1 p2 (rF p1 p3) (rF p2 p4) p1 p2 (rF p1 p3) (rF p2 p4) T216.heap n0 Z216 O216 r216_0 f218 f219 f220 f221 r216_1 r216_2 r216_3 r216_4 neb12_b208) hZ (hw _ (List.mem_of_getElem? (i := 28) rfl)) (hw _ (List.mem_of_getElem? (i := 8) rfl)) (by decide) (by decide)) q224a q224c (g := (mkF m 303 #[.val (.int p1), .val (.int p2), .val (.int p3), .val (.int p4), .val (.int p5), .val (.int p6), .val (.int (rF p1 p3)), .val (.int (rF p2 p4)), .val (.ref b12), .val (.int (p5 &&& (7 : Int32))), .val (.int p1), .val (.int p2), .val (.int (rF p1 p3)), .val (.int (rF p2 p4)), .val (.ref b208), .val (.int (1 : Int32))] [(.ref b208), (.ref b12)])) rfl (by rw [hml]; rfl) (Steps.refl _) (argsL := [(.ref b208)]) (rest := []) (lenOf pd_4 rfl) rfl (by show 2 * 0 + _ ≤ _; exact Nat.le_of_eq rfl) (hb hby at_303) (fun _ _ => ⟨rfl, rfl, (by decide : 2 + 0 ≤ _), (by decide : 8 + 0 ≤ _)⟩)
                dsimp only [Pt.U, Pt.locs, Pt.cells, Pt.slots] at X224 l224 y224 z224 st224 hQ224
                subst l224 y224 z224
                obtain ⟨hv224, N224q, e224⟩ := hQ224
                rw [(show (eqNF p1 p2 (rF p1 p3) (rF p2 p4) p1 p2 (rF p1 p3) (rF p2 p4)) = (1 : Int32) from (own_eq_yes rfl rfl rfl rfl))] at hv224
                subst hv224
                have N224 := Fr.app N216 N224q
                have pre225 : ∀ t, Steps p.tables e below (T224.setTop (mkF m 306 #[.val (.int p1), .val (.int p2), .val (.int p3), .val (.int p4), .val (.int p5), .val (.int p6), .val (.int (rF p1 p3)), .val (.int (rF p2 p4)), .val (.ref b12), .val (.int (p5 &&& (7 : Int32))), .val (.int p1), .val (.int p2), .val (.int (rF p1 p3)), .val (.int (rF p2 p4)), .val (.ref b208), .val (.int (1 : Int32))] [(.int (1 : Int32))])) t → Steps p.tables e below (s₁.setTop (entryFrame m #[(.int p1), (.int p2), (.int p3), (.int p4), (.int p5), (.int p6)] maxLocals)) t := fun t k => pre223 t (st224.trans k)
                have pre226 : ∀ t, Steps p.tables e below (T224.setTop (mkF m 315 #[.val (.int p1), .val (.int p2), .val (.int p3), .val (.int p4), .val (.int p5), .val (.int p6), .val (.int (rF p1 p3)), .val (.int (rF p2 p4)), .val (.ref b12), .val (.int (p5 &&& (7 : Int32))), .val (.int p1), .val (.int p2), .val (.int (rF p1 p3)), .val (.int (rF p2 p4)), .val (.ref b208), .val (.int (1 : Int32))] [(.ref b12), (.ref b208)])) t → Steps p.tables e below (s₁.setTop (entryFrame m #[(.int p1), (.int p2), (.int p3), (.int p4), (.int p5), (.int p6)] maxLocals)) t := fun t k => pre225 t (by
                  show Steps p.tables e below (T224.setTop (mkF m 306 #[.val (.int p1), .val (.int p2), .val (.int p3), .val (.int p4), .val (.int p5), .val (.int p6), .val (.int (rF p1 p3)), .val (.int (rF p2 p4)), .val (.ref b12), .val (.int (p5 &&& (7 : Int32))), .val (.int p1), .val (.int p2), .val (.int (rF p1 p3)), .val (.int (rF p2 p4)), .val (.ref b208), .val (.int (1 : Int32))] [(.int (1 : Int32))])) _
                  refine XS.iload X224.here hx rfl (hb hby at_306) rfl ?_
                  show Steps p.tables e below (T224.setTop (mkF m 308 #[.val (.int p1), .val (.int p2), .val (.int p3), .val (.int p4), .val (.int p5), .val (.int p6), .val (.int (rF p1 p3)), .val (.int (rF p2 p4)), .val (.ref b12), .val (.int (p5 &&& (7 : Int32))), .val (.int p1), .val (.int p2), .val (.int (rF p1 p3)), .val (.int (rF p2 p4)), .val (.ref b208), .val (.int (1 : Int32))] [(.int (1 : Int32)), (.int (1 : Int32))])) _
                  refine XS.icmpNo X224.here hx rfl (hb hby at_308) rfl (teq (by decide : (1 : Int32) = (1 : Int32))).2 ?_
                  show Steps p.tables e below (T224.setTop (mkF m 311 #[.val (.int p1), .val (.int p2), .val (.int p3), .val (.int p4), .val (.int p5), .val (.int p6), .val (.int (rF p1 p3)), .val (.int (rF p2 p4)), .val (.ref b12), .val (.int (p5 &&& (7 : Int32))), .val (.int p1), .val (.int p2), .val (.int (rF p1 p3)), .val (.int (rF p2 p4)), .val (.ref b208), .val (.int (1 : Int32))] [])) _
                  refine XS.aload X224.here hx rfl (hb hby at_311) rfl rfl ?_
                  show Steps p.tables e below (T224.setTop (mkF m 313 #[.val (.int p1), .val (.int p2), .val (.int p3), .val (.int p4), .val (.int p5), .val (.int p6), .val (.int (rF p1 p3)), .val (.int (rF p2 p4)), .val (.ref b12), .val (.int (p5 &&& (7 : Int32))), .val (.int p1), .val (.int p2), .val (.int (rF p1 p3)), .val (.int (rF p2 p4)), .val (.ref b208), .val (.int (1 : Int32))] [(.ref b208)])) _
                  refine XS.aload X224.here hx rfl (hb hby at_313) rfl rfl ?_
                  exact k)
                obtain ⟨cq227, kq227, q227a, q227b, q227c⟩ := isOf hZ e224 r216_0
                obtain ⟨_, _, ⟨T227, L227, k227, n227⟩, -, X227, ⟨Lc227, hQ227, l227, y227, z227⟩, st227⟩ := X224.virtualBack hx (y := (⟨"com/example/blynds/blynds/engine/Rect", "equals", "(Ljava/lang/Object;)Z"⟩ : MethodName)) (z := (⟨"com/example/blynds/blynds/engine/Rect", "equals", "(Ljava/lang/Object;)Z"⟩ : MethodName)) hown (mvT hZ (hw _ (List.mem_of_getElem? (i := 24) rfl))) (mvT hZ (hw _ (List.mem_of_getElem? (i := 25) rfl))) (notFace_of_selects (args := #[]) (mvT hZ (hw _ (List.mem_of_getElem? (i := 27) rfl)))) (mvT hZ (hw _ (List.mem_of_getElem? (i := 27) rfl))) (mvT hZ (hw _ (List.mem_of_getElem? (i := 26) rfl))) (by decide) (backOf (W := 0) (rm_eqobj l Z a0 hw [] b208 b12 p1 p2 (rF p1 p3) (rF p2 p4) p1 p2 (rF p1 p3) (rF p2 p4) T216.heap n0 Z216 O216 f217 r216_1 r216_2 r216_3 r216_4 f218 f219 f220 f221 (Ne.symm neb12_b208)) hZ (hw _ (List.mem_of_getElem? (i := 28) rfl)) (hw _ (List.mem_of_getElem? (i := 8) rfl)) (by decide) (by decide)) q227a q227c (g := (mkF m 315 #[.val (.int p1), .val (.int p2), .val (.int p3), .val (.int p4), .val (.int p5), .val (.int p6), .val (.int (rF p1 p3)), .val (.int (rF p2 p4)), .val (.ref b12), .val (.int (p5 &&& (7 : Int32))), .val (.int p1), .val (.int p2), .val (.int (rF p1 p3)), .val (.int (rF p2 p4)), .val (.ref b208), .val (.int (1 : Int32))] [(.ref b12), (.ref b208)])) rfl (by rw [hml]; rfl) (Steps.refl _) (argsL := [(.ref b12)]) (rest := []) (lenOf pd_4 rfl) rfl (by show 2 * 0 + _ ≤ _; exact Nat.le_of_eq rfl) (hb hby at_315) (fun _ _ => ⟨rfl, e224, (by decide : 2 + 0 ≤ _), (by decide : 8 + 0 ≤ _)⟩)
                dsimp only [Pt.U, Pt.locs, Pt.cells, Pt.slots] at X227 l227 y227 z227 st227 hQ227
                subst l227 y227 z227
                obtain ⟨hv227, N227q, e227⟩ := hQ227
                rw [(show (eqNF p1 p2 (rF p1 p3) (rF p2 p4) p1 p2 (rF p1 p3) (rF p2 p4)) = (1 : Int32) from (own_eq_yes rfl rfl rfl rfl))] at hv227
                subst hv227
                have N227 := Fr.app N224 N227q
                have pre228 : ∀ t, Steps p.tables e below (T227.setTop (mkF m 318 #[.val (.int p1), .val (.int p2), .val (.int p3), .val (.int p4), .val (.int p5), .val (.int p6), .val (.int (rF p1 p3)), .val (.int (rF p2 p4)), .val (.ref b12), .val (.int (p5 &&& (7 : Int32))), .val (.int p1), .val (.int p2), .val (.int (rF p1 p3)), .val (.int (rF p2 p4)), .val (.ref b208), .val (.int (1 : Int32))] [(.int (1 : Int32))])) t → Steps p.tables e below (s₁.setTop (entryFrame m #[(.int p1), (.int p2), (.int p3), (.int p4), (.int p5), (.int p6)] maxLocals)) t := fun t k => pre226 t (st227.trans k)
                have pre229 : ∀ t, Steps p.tables e below (T227.setTop (mkF m 328 #[.val (.int p1), .val (.int p2), .val (.int p3), .val (.int p4), .val (.int p5), .val (.int p6), .val (.int (rF p1 p3)), .val (.int (rF p2 p4)), .val (.ref b12), .val (.int (p5 &&& (7 : Int32))), .val (.int p1), .val (.int p2), .val (.int (rF p1 p3)), .val (.int (rF p2 p4)), .val (.ref b208), .val (.int (1 : Int32))] [(.int (1 : Int32))])) t → Steps p.tables e below (s₁.setTop (entryFrame m #[(.int p1), (.int p2), (.int p3), (.int p4), (.int p5), (.int p6)] maxLocals)) t := fun t k => pre228 t (by
                  show Steps p.tables e below (T227.setTop (mkF m 318 #[.val (.int p1), .val (.int p2), .val (.int p3), .val (.int p4), .val (.int p5), .val (.int p6), .val (.int (rF p1 p3)), .val (.int (rF p2 p4)), .val (.ref b12), .val (.int (p5 &&& (7 : Int32))), .val (.int p1), .val (.int p2), .val (.int (rF p1 p3)), .val (.int (rF p2 p4)), .val (.ref b208), .val (.int (1 : Int32))] [(.int (1 : Int32))])) _
                  refine XS.iload X227.here hx rfl (hb hby at_318) rfl ?_
                  show Steps p.tables e below (T227.setTop (mkF m 320 #[.val (.int p1), .val (.int p2), .val (.int p3), .val (.int p4), .val (.int p5), .val (.int p6), .val (.int (rF p1 p3)), .val (.int (rF p2 p4)), .val (.ref b12), .val (.int (p5 &&& (7 : Int32))), .val (.int p1), .val (.int p2), .val (.int (rF p1 p3)), .val (.int (rF p2 p4)), .val (.ref b208), .val (.int (1 : Int32))] [(.int (1 : Int32)), (.int (1 : Int32))])) _
                  refine XS.icmpNo X227.here hx rfl (hb hby at_320) rfl (teq (by decide : (1 : Int32) = (1 : Int32))).2 ?_
                  show Steps p.tables e below (T227.setTop (mkF m 323 #[.val (.int p1), .val (.int p2), .val (.int p3), .val (.int p4), .val (.int p5), .val (.int p6), .val (.int (rF p1 p3)), .val (.int (rF p2 p4)), .val (.ref b12), .val (.int (p5 &&& (7 : Int32))), .val (.int p1), .val (.int p2), .val (.int (rF p1 p3)), .val (.int (rF p2 p4)), .val (.ref b208), .val (.int (1 : Int32))] [])) _
                  refine XS.iconst X227.here hx rfl (hb hby at_323) ?_
                  show Steps p.tables e below (T227.setTop (mkF m 324 #[.val (.int p1), .val (.int p2), .val (.int p3), .val (.int p4), .val (.int p5), .val (.int p6), .val (.int (rF p1 p3)), .val (.int (rF p2 p4)), .val (.ref b12), .val (.int (p5 &&& (7 : Int32))), .val (.int p1), .val (.int p2), .val (.int (rF p1 p3)), .val (.int (rF p2 p4)), .val (.ref b208), .val (.int (1 : Int32))] [(.int (1 : Int32))])) _
                  refine XS.goto X227.here hx rfl (pc0 := 324) (pc' := 328) rfl (hb hby at_324) (by decide) (by decide) ?_
                  exact k)
                obtain ⟨fs, hr, hrun, hended, hW, hsame⟩ := X227.leave (v := some (.int (1 : Int32))) (fun h => by rw [Bd.returns] at h; cases h)
                refine ⟨_, _, pre229 _ ?_, hrun, hended, _, _, rfl, ?_, ⟨_, rfl⟩, hW, hsame.mono (by decide) (by decide)⟩
                · exact retN X227 hx (t := .boolean) Bd.returns (by simp) (hb hby at_328) hr
                · show Q_rm_law Z p1 p2 p3 p4 p5 p6 cA cl h0 n0 _ T227.heap _
                  rw [e227]
                  exact ⟨rfl, N227⟩
set_option maxRecDepth 65536 in
set_option maxHeartbeats 40000000 in
theorem comes_1 {Post : Tables → Env → Array Value → State → Outcome → State → Prop} (hpost : ∀ tb e args s v u, (limb_1_1.after args s (.returned v) u = true ∧ limb_1_2.after args s (.returned v) u = true ∧ True) → FrameEnd s (.returned v) u (Jvm.fieldLocs frame_1_writes args s ++ Jvm.arrayLocs frame_1_arrays args s ++ Jvm.staticLocs frame_1_statics s) 16 128 → Post tb e args s (.returned v) u) :
    ArmFor flags0 classFile x code maxLocals ret World_1 tables_1 room_1 Calls_1 rest_1 Pre_1 Post := by
  intro l hfl _ _ p e ha hc hk s m args below hf hA hF happ hP0
  obtain ⟨hcalls, hrest, hpre⟩ := hP0
  obtain ⟨-, -, -, hnamed, -, -, -, hat⟩ := (Spec.applies_iff hf).mp happ
  obtain ⟨hg, hn⟩ := and_e (Cond.before_iff.mp (show (Jvm.Cond.and given_1 narrow_1).before args s = true from hpre))
  obtain ⟨g0a, g0b⟩ := and_e hg
  obtain ⟨g1a, g1b⟩ := and_e g0b
  obtain ⟨g2a, g2b⟩ := and_e g1b
  obtain ⟨g3a, g3b⟩ := and_e g2b
  obtain ⟨g4a, g4b⟩ := and_e g3b
  obtain ⟨g5a, g5b⟩ := and_e g4b
  obtain ⟨w0, w1, w2, w3, w4, w5, rfl⟩ : ∃ w0 w1 w2 w3 w4 w5 : Value, args = #[w0, w1, w2, w3, w4, w5] := by
    have hs : args.size = 6 := by simpa [Cond.value, given_1] using g0a
    obtain ⟨L⟩ := args
    match L, hs with
    | [w0, w1, w2, w3, w4, w5], _ => exact ⟨w0, w1, w2, w3, w4, w5, rfl⟩
  have hw := fun d (hd : d ∈ tables_1) => atoms_spec (ws := Jvm.Cond.code x code maxLocals ret :: tables_1) hat d (List.mem_cons_of_mem _ hd)
  have hfit : Fit s := fun {y c} hc i hi => by
    obtain ⟨ha, rfl⟩ := Array.getElem?_eq_some_iff.mp hc
    have q := List.all_eq_true.mp ((Array.all_eq_true_iff_forall_mem.mp hF) _ (Array.getElem_mem ha)) i (List.mem_range.mpr hi)
    simpa [Array.getElem?_eq_getElem hi] using q
  obtain ⟨hsets, hown0⟩ := atoms_of _ (rest_1_c_eq ▸ (show rest_1_c.before _ s = true from hrest))
  obtain ⟨i0, ei0⟩ := is_v g1a
  obtain rfl : w0 = (.int i0) := Option.some.inj ei0
  obtain ⟨i1, ei1⟩ := is_v g2a
  obtain rfl : w1 = (.int i1) := Option.some.inj ei1
  obtain ⟨i2, ei2⟩ := is_v g3a
  obtain rfl : w2 = (.int i2) := Option.some.inj ei2
  obtain ⟨i3, ei3⟩ := is_v g4a
  obtain rfl : w3 = (.int i3) := Option.some.inj ei3
  obtain ⟨i4, ei4⟩ := is_v g5a
  obtain rfl : w4 = (.int i4) := Option.some.inj ei4
  obtain ⟨i5, ei5⟩ := is_v g5b
  obtain rfl : w5 = (.int i5) := Option.some.inj ei5
  obtain ⟨cA, cl, hC⟩ := own_cache hsets (hw _ (List.mem_of_getElem? (i := 39) rfl))
  obtain ⟨n, o, h1, h2, h3, _, L, rfl, ⟨rfl, N⟩, hq⟩ := rm_law l s _ hw tables_1 i0 i1 i2 i3 i4 i5 cA cl s.heap s.heap.size (Nat.le_refl _) (own_ext_refl _) hC p e ha hc hk s m _ below hf ((Spec.applies_iff_loose hf).mp happ).1 ⟨rfl, State.Warmed39.refl s, rfl⟩ trivial
  refine ⟨n, _, h1, h2, h3, hpost _ _ _ _ _ _ ⟨Cond.after_iff.mpr rfl, Cond.after_iff.mpr (eq_i res_at (Term.int_eval (1)) rfl), trivial⟩ ⟨hq.1, hq.2.1, (hq.2.2.sift fun y hy => Or.inr (N y hy)).mono (by decide) (by decide)⟩⟩
theorem main_1_1 : Claimed_1_1 := comes_1 fun _ _ _ _ _ _ h hF => ⟨h.1, hF⟩
theorem main_1_2 : Claimed_1_2 := comes_1 fun _ _ _ _ _ _ h hF => ⟨h.2.1, hF⟩
end Jvm.Pilot.@@N@@
namespace Jvm.Pilot.@@N@@
open Jvm Jvm.ClassFile Sem Op Lib Jvm.Free Jvm.Stand Jvm.Pilot.@@N@@.Jvm.D
/-! MADE BY PROGRAM (witnessworld.py) out of the Statement's table words and the real class files: 17 classes; the members and pool entries that the words name. The judged class is class 1, her method 1. -/
namespace start1
open Jvm.ClassFile
def u (s : String) : CpInfo := .utf8 (stringToUtf16 s)
/-- a pool by its gaps: so many unusable entries, then the entry; so many at the end -/
def gap : Nat → List CpInfo → List CpInfo
  | 0, r => r
  | n + 1, r => .unusable :: gap n r
def poolList (es : List (Nat × CpInfo)) (last : Nat) : List CpInfo := es.foldr (fun e r => gap e.1 (e.2 :: r)) (gap last [])
def pool (es : List (Nat × CpInfo)) (last : Nat) : Array CpInfo := ⟨poolList es last⟩
def fileOf (pool : Array CpInfo) (this : Nat) (attrs : Array Attribute := #[]) (ms : Array MethodInfo := #[]) (fl : Nat := 33) (sup : Nat := 0) (ifs : Array Nat := #[]) (fds : Array FieldInfo := #[]) : ClassFile where
  minorVersion := 0
  majorVersion := 65
  constantPool := pool
  accessFlags := fl
  thisClass := this
  superClass := sup
  interfaces := ifs
  fields := fds
  methods := ms
  attributes := attrs
def plain (name : String) (sup : Option ClassId) : Class where
  name := name
  kind := .ordinary
  loader := none
  accessFlags := 33
  super := sup
  interfaces := #[]
  cf := none
  fields := #[]
  methods := #[]
  instanceTypes := #[]
  staticTypes := #[]
  resolved := #[]
  callSites := []
  init := .initialized
  statics := none
  mirror := none

def pool0 : Array CpInfo := pool [(5, u "<init>"), (0, u "()V"), (1, .class_ 10), (1, u "java/lang/Object")] 113

def k0c0 : Code := { maxStack := 0, maxLocals := 1, code := object_method_1_code, exceptionTable := #[], attributes := #[] }
def k0m0 : Method := { name := "<init>", desc := "()V", sig := { parameters := [], returnType := none }, accessFlags := 1, code := some k0c0 }
/-- java/lang/Object -/
def k0 : Class := { plain "java/lang/Object" none with
  accessFlags := 33
  interfaces := #[]
  cf := some (fileOf pool0 8 #[] #[{ accessFlags := 1, nameIndex := 5, descriptorIndex := 6, attributes := #[] }] 33 0 #[] #[])
  fields := #[]
  methods := #[k0m0]
  instanceTypes := #[]
  staticTypes := #[]
  resolved := Array.replicate 124 none
  statics := none }

def pool1 : Array CpInfo := pool [(2, .class_ 4), (1, u "java/lang/Object"), (0, u "<init>"), (0, u "()V"), (0, .integer 2147483647), (0, .long 2147483647), (1, .methodref 11 12), (0, .class_ 13), (0, .nameAndType 14 15), (0, u "java/lang/Math"), (0, u "min"), (0, u "(JJ)J"), (0, .class_ 17), (0, u "com/example/blynds/blynds/engine/Rect"), (0, .methodref 16 19), (0, .nameAndType 5 20), (0, u "(IIII)V"), (0, .methodref 16 22), (0, .nameAndType 23 24), (0, u "equals"), (0, u "(Ljava/lang/Object;)Z"), (0, .methodref 26 27), (0, .class_ 28), (0, .nameAndType 29 30), (0, u "java/lang/Integer"), (0, u "valueOf"), (0, u "(I)Ljava/lang/Integer;"), (0, .methodref 11 32), (0, .nameAndType 33 15), (0, u "max"), (0, .class_ 35), (0, u "com/example/blynds/blynds/engine/RectEqualsPinLaw"), (2, u "law"), (0, u "(IIIIII)Z")] 3

def k1m0 : Method := { name := "<init>", desc := "()V", sig := { parameters := [], returnType := none }, accessFlags := 1, code := none }
def k1c1 : Code := { maxStack := 6, maxLocals := 16, code := code, exceptionTable := #[], attributes := #[] }
def k1m1 : Method := { name := "law", desc := "(IIIIII)Z", sig := { parameters := [.int, .int, .int, .int, .int, .int], returnType := some .boolean }, accessFlags := 9, code := some k1c1 }
/-- com/example/blynds/blynds/engine/RectEqualsPinLaw -/
def k1 : Class := { plain "com/example/blynds/blynds/engine/RectEqualsPinLaw" (some 0) with
  accessFlags := 49
  interfaces := #[]
  cf := some (fileOf pool1 34 #[] #[{ accessFlags := 1, nameIndex := 5, descriptorIndex := 6, attributes := #[] }, { accessFlags := 9, nameIndex := 38, descriptorIndex := 39, attributes := #[] }] 49 2 #[] #[])
  fields := #[]
  methods := #[k1m0, k1m1]
  instanceTypes := #[]
  staticTypes := #[]
  resolved := Array.replicate 43 none
  statics := none }

def pool2 : Array CpInfo := pool [(1, .class_ 2), (0, u "java/lang/Math"), (1, .class_ 6), (1, u "java/lang/Object"), (0, u "<init>"), (0, u "()V"), (89, .class_ 100), (1, u "java/lang/Math$RandomNumberGeneratorHolder"), (20, u "(JJ)J"), (50, u "negativeZeroFloatBits"), (0, u "J"), (2, u "negativeZeroDoubleBits"), (21, u "max"), (2, u "min"), (43, u "$assertionsDisabled"), (0, u "Z"), (91, u "twoToTheDoubleScaleDown"), (0, u "D"), (4, u "twoToTheDoubleScaleUp"), (9, u "E"), (3, u "PI"), (2, u "TAU"), (2, u "DEGREES_TO_RADIANS"), (0, u "RADIANS_TO_DEGREES")] 94

def k2m0 : Method := { name := "<init>", desc := "()V", sig := { parameters := [], returnType := none }, accessFlags := 2, code := none }
def k2c1 : Code := { maxStack := 4, maxLocals := 4, code := jdk_29_method_66_code, exceptionTable := #[], attributes := #[] }
def k2m1 : Method := { name := "max", desc := "(JJ)J", sig := { parameters := [.long, .long], returnType := some .long }, accessFlags := 9, code := some k2c1 }
def k2c2 : Code := { maxStack := 4, maxLocals := 4, code := jdk_29_method_70_code, exceptionTable := #[], attributes := #[] }
def k2m2 : Method := { name := "min", desc := "(JJ)J", sig := { parameters := [.long, .long], returnType := some .long }, accessFlags := 9, code := some k2c2 }
/-- java/lang/Math -/
def k2 : Class := { plain "java/lang/Math" (some 0) with
  accessFlags := 49
  interfaces := #[]
  cf := some (fileOf pool2 1 #[.nestMembers #[98]] #[{ accessFlags := 2, nameIndex := 7, descriptorIndex := 8, attributes := #[] }, { accessFlags := 9, nameIndex := 198, descriptorIndex := 121, attributes := #[] }, { accessFlags := 9, nameIndex := 201, descriptorIndex := 121, attributes := #[] }] 49 4 #[] #[{ accessFlags := 25, nameIndex := 354, descriptorIndex := 339, attributes := #[] }, { accessFlags := 25, nameIndex := 358, descriptorIndex := 339, attributes := #[] }, { accessFlags := 25, nameIndex := 361, descriptorIndex := 339, attributes := #[] }, { accessFlags := 26, nameIndex := 364, descriptorIndex := 339, attributes := #[] }, { accessFlags := 26, nameIndex := 365, descriptorIndex := 339, attributes := #[] }, { accessFlags := 26, nameIndex := 172, descriptorIndex := 173, attributes := #[] }, { accessFlags := 26, nameIndex := 176, descriptorIndex := 173, attributes := #[] }, { accessFlags := 8, nameIndex := 344, descriptorIndex := 339, attributes := #[] }, { accessFlags := 8, nameIndex := 338, descriptorIndex := 339, attributes := #[] }, { accessFlags := 4120, nameIndex := 245, descriptorIndex := 246, attributes := #[] }])
  fields := #[{ name := "E", type := .double, accessFlags := 25, slot := 0, constantValue := 0 }, { name := "PI", type := .double, accessFlags := 25, slot := 1, constantValue := 0 }, { name := "TAU", type := .double, accessFlags := 25, slot := 2, constantValue := 0 }, { name := "DEGREES_TO_RADIANS", type := .double, accessFlags := 26, slot := 3, constantValue := 0 }, { name := "RADIANS_TO_DEGREES", type := .double, accessFlags := 26, slot := 4, constantValue := 0 }, { name := "negativeZeroFloatBits", type := .long, accessFlags := 26, slot := 5, constantValue := 0 }, { name := "negativeZeroDoubleBits", type := .long, accessFlags := 26, slot := 6, constantValue := 0 }, { name := "twoToTheDoubleScaleUp", type := .double, accessFlags := 8, slot := 7, constantValue := 0 }, { name := "twoToTheDoubleScaleDown", type := .double, accessFlags := 8, slot := 8, constantValue := 0 }, { name := "$assertionsDisabled", type := .boolean, accessFlags := 4120, slot := 9, constantValue := 0 }]
  methods := #[k2m0, k2m1, k2m2]
  instanceTypes := #[]
  staticTypes := #[.double, .double, .double, .double, .double, .long, .long, .double, .double, .boolean]
  resolved := Array.replicate 460 none
  statics := none }

def pool3 : Array CpInfo := pool [(1, .methodref 2 3), (0, .class_ 4), (0, .nameAndType 5 6), (0, u "java/lang/Object"), (0, u "<init>"), (0, u "()V"), (3, .class_ 12), (1, u "com/example/blynds/blynds/engine/Rect"), (4, .long 2147483647), (3, .fieldref 10 22), (0, .nameAndType 23 24), (0, u "left"), (0, u "I"), (0, .fieldref 10 26), (0, .nameAndType 27 24), (0, u "top"), (0, .fieldref 10 29), (0, .nameAndType 30 24), (0, u "right"), (0, .fieldref 10 32), (0, .nameAndType 33 24), (0, u "bottom"), (10, u "(IIII)V"), (59, u "equals"), (0, u "(Ljava/lang/Object;)Z")] 22

def k3c0 : Code := { maxStack := 5, maxLocals := 5, code := prog_29_method_1_code, exceptionTable := #[], attributes := #[] }
def k3m0 : Method := { name := "<init>", desc := "(IIII)V", sig := { parameters := [.int, .int, .int, .int], returnType := none }, accessFlags := 1, code := some k3c0 }
def k3c1 : Code := { maxStack := 2, maxLocals := 3, code := prog_29_method_13_code, exceptionTable := #[], attributes := #[] }
def k3m1 : Method := { name := "equals", desc := "(Ljava/lang/Object;)Z", sig := { parameters := [(.object "java/lang/Object")], returnType := some .boolean }, accessFlags := 1, code := some k3c1 }
/-- com/example/blynds/blynds/engine/Rect -/
def k3 : Class := { plain "com/example/blynds/blynds/engine/Rect" (some 0) with
  accessFlags := 49
  interfaces := #[]
  cf := some (fileOf pool3 10 #[] #[{ accessFlags := 1, nameIndex := 5, descriptorIndex := 44, attributes := #[] }, { accessFlags := 1, nameIndex := 104, descriptorIndex := 105, attributes := #[] }] 49 2 #[] #[{ accessFlags := 18, nameIndex := 23, descriptorIndex := 24, attributes := #[] }, { accessFlags := 18, nameIndex := 27, descriptorIndex := 24, attributes := #[] }, { accessFlags := 18, nameIndex := 30, descriptorIndex := 24, attributes := #[] }, { accessFlags := 18, nameIndex := 33, descriptorIndex := 24, attributes := #[] }])
  fields := #[{ name := "left", type := .int, accessFlags := 18, slot := 0, constantValue := 0 }, { name := "top", type := .int, accessFlags := 18, slot := 1, constantValue := 0 }, { name := "right", type := .int, accessFlags := 18, slot := 2, constantValue := 0 }, { name := "bottom", type := .int, accessFlags := 18, slot := 3, constantValue := 0 }]
  methods := #[k3m0, k3m1]
  instanceTypes := #[.int, .int, .int, .int]
  staticTypes := #[]
  resolved := Array.replicate 128 none
  statics := none }

def pool4 : Array CpInfo := pool [(1, .class_ 2), (0, u "java/io/Serializable"), (0, .class_ 4), (0, u "java/lang/Object")] 2

/-- java/io/Serializable -/
def k4 : Class := { plain "java/io/Serializable" (some 0) with
  accessFlags := 1537
  interfaces := #[]
  cf := some (fileOf pool4 1 #[] #[] 1537 3 #[] #[])
  fields := #[]
  methods := #[]
  instanceTypes := #[]
  staticTypes := #[]
  resolved := Array.replicate 7 none
  statics := none }

def pool5 : Array CpInfo := pool [(1, .methodref 2 3), (0, .class_ 4), (0, .nameAndType 5 6), (0, u "java/lang/Object"), (0, u "<init>"), (0, u "()V"), (1, .class_ 10), (1, u "java/lang/Number"), (2, .class_ 14), (0, u "java/io/Serializable"), (0, u "serialVersionUID"), (0, u "J")] 20

def k5c0 : Code := { maxStack := 1, maxLocals := 1, code := jdk_18_method_1_code, exceptionTable := #[], attributes := #[] }
def k5m0 : Method := { name := "<init>", desc := "()V", sig := { parameters := [], returnType := none }, accessFlags := 1, code := some k5c0 }
/-- java/lang/Number -/
def k5 : Class := { plain "java/lang/Number" (some 0) with
  accessFlags := 1057
  interfaces := #[4]
  cf := some (fileOf pool5 8 #[] #[{ accessFlags := 1, nameIndex := 5, descriptorIndex := 6, attributes := #[] }] 1057 2 #[13] #[{ accessFlags := 26, nameIndex := 15, descriptorIndex := 16, attributes := #[] }])
  fields := #[{ name := "serialVersionUID", type := .long, accessFlags := 26, slot := 0, constantValue := 0 }]
  methods := #[k5m0]
  instanceTypes := #[]
  staticTypes := #[.long]
  resolved := Array.replicate 37 none
  statics := none }

def pool6 : Array CpInfo := pool [(1, .class_ 2), (0, u "java/lang/Comparable"), (0, .class_ 4), (0, u "java/lang/Object")] 7

/-- java/lang/Comparable -/
def k6 : Class := { plain "java/lang/Comparable" (some 0) with
  accessFlags := 1537
  interfaces := #[]
  cf := some (fileOf pool6 1 #[] #[] 1537 3 #[] #[])
  fields := #[]
  methods := #[]
  instanceTypes := #[]
  staticTypes := #[]
  resolved := Array.replicate 12 none
  statics := none }

def pool7 : Array CpInfo := pool [(1, .class_ 2), (0, u "java/lang/constant/Constable"), (0, .class_ 4), (0, u "java/lang/Object")] 6

/-- java/lang/constant/Constable -/
def k7 : Class := { plain "java/lang/constant/Constable" (some 0) with
  accessFlags := 1537
  interfaces := #[]
  cf := some (fileOf pool7 1 #[] #[] 1537 3 #[] #[])
  fields := #[]
  methods := #[]
  instanceTypes := #[]
  staticTypes := #[]
  resolved := Array.replicate 11 none
  statics := none }

def pool8 : Array CpInfo := pool [(1, .class_ 2), (0, u "java/lang/constant/ConstantDesc"), (0, .class_ 4), (0, u "java/lang/Object")] 32

/-- java/lang/constant/ConstantDesc -/
def k8 : Class := { plain "java/lang/constant/ConstantDesc" (some 0) with
  accessFlags := 1537
  interfaces := #[]
  cf := some (fileOf pool8 1 #[] #[] 1537 3 #[] #[])
  fields := #[]
  methods := #[]
  instanceTypes := #[]
  staticTypes := #[]
  resolved := Array.replicate 37 none
  statics := none }

def pool9 : Array CpInfo := pool [(1, .class_ 2), (0, u "java/lang/Integer"), (16, u "digits"), (0, u "[C"), (46, u "<init>"), (17, u "DigitOnes"), (0, u "[B"), (2, u "DigitTens"), (10, .nameAndType 67 101), (0, u "()V"), (85, u "valueOf"), (0, u "(I)Ljava/lang/Integer;"), (0, .class_ 190), (0, u "java/lang/Integer$IntegerCache"), (0, .fieldref 189 192), (0, .nameAndType 193 194), (0, u "high"), (0, u "I"), (0, .fieldref 189 196), (0, .nameAndType 197 198), (0, u "cache"), (0, u "[Ljava/lang/Integer;"), (0, .methodref 1 200), (0, .nameAndType 67 201), (0, u "(I)V"), (0, .methodref 203 100), (0, .class_ 204), (0, u "java/lang/Number"), (0, .fieldref 1 206), (0, .nameAndType 207 194), (0, u "value"), (94, u "TYPE"), (0, u "Ljava/lang/Class;"), (0, .class_ 305), (0, u "java/lang/Comparable"), (0, .class_ 307), (0, u "java/lang/constant/Constable"), (0, .class_ 309), (0, u "java/lang/constant/ConstantDesc"), (0, u "MIN_VALUE"), (1, u "MAX_VALUE"), (3, u "SIZE"), (1, u "BYTES"), (1, u "serialVersionUID"), (0, u "J")] 131

def k9c0 : Code := { maxStack := 3, maxLocals := 1, code := jdk_33_method_22_code, exceptionTable := #[], attributes := #[] }
def k9m0 : Method := { name := "valueOf", desc := "(I)Ljava/lang/Integer;", sig := { parameters := [.int], returnType := some (.object "java/lang/Integer") }, accessFlags := 9, code := some k9c0 }
def k9c1 : Code := { maxStack := 2, maxLocals := 2, code := jdk_33_method_23_code, exceptionTable := #[], attributes := #[] }
def k9m1 : Method := { name := "<init>", desc := "(I)V", sig := { parameters := [.int], returnType := none }, accessFlags := 1, code := some k9c1 }
/-- java/lang/Integer -/
def k9 : Class := { plain "java/lang/Integer" (some 5) with
  accessFlags := 49
  interfaces := #[6, 7, 8]
  cf := some (fileOf pool9 1 #[.nestMembers #[189]] #[{ accessFlags := 9, nameIndex := 187, descriptorIndex := 188, attributes := #[] }, { accessFlags := 1, nameIndex := 67, descriptorIndex := 201, attributes := #[] }] 49 203 #[304, 306, 308] #[{ accessFlags := 25, nameIndex := 310, descriptorIndex := 194, attributes := #[] }, { accessFlags := 25, nameIndex := 312, descriptorIndex := 194, attributes := #[] }, { accessFlags := 25, nameIndex := 302, descriptorIndex := 303, attributes := #[] }, { accessFlags := 24, nameIndex := 19, descriptorIndex := 20, attributes := #[] }, { accessFlags := 24, nameIndex := 89, descriptorIndex := 86, attributes := #[] }, { accessFlags := 24, nameIndex := 85, descriptorIndex := 86, attributes := #[] }, { accessFlags := 18, nameIndex := 207, descriptorIndex := 194, attributes := #[] }, { accessFlags := 25, nameIndex := 316, descriptorIndex := 194, attributes := #[] }, { accessFlags := 25, nameIndex := 318, descriptorIndex := 194, attributes := #[] }, { accessFlags := 26, nameIndex := 320, descriptorIndex := 321, attributes := #[] }])
  fields := #[{ name := "MIN_VALUE", type := .int, accessFlags := 25, slot := 0, constantValue := 0 }, { name := "MAX_VALUE", type := .int, accessFlags := 25, slot := 1, constantValue := 0 }, { name := "TYPE", type := (.object "java/lang/Class"), accessFlags := 25, slot := 2, constantValue := 0 }, { name := "digits", type := (.array .char), accessFlags := 24, slot := 3, constantValue := 0 }, { name := "DigitTens", type := (.array .byte), accessFlags := 24, slot := 4, constantValue := 0 }, { name := "DigitOnes", type := (.array .byte), accessFlags := 24, slot := 5, constantValue := 0 }, { name := "value", type := .int, accessFlags := 18, slot := 0, constantValue := 0 }, { name := "SIZE", type := .int, accessFlags := 25, slot := 6, constantValue := 0 }, { name := "BYTES", type := .int, accessFlags := 25, slot := 7, constantValue := 0 }, { name := "serialVersionUID", type := .long, accessFlags := 26, slot := 8, constantValue := 0 }]
  methods := #[k9m0, k9m1]
  instanceTypes := #[.int]
  staticTypes := #[.int, .int, (.object "java/lang/Class"), (.array .char), (.array .byte), (.array .byte), .int, .int, .long]
  resolved := Array.replicate 453 none
  statics := none }

def pool10 : Array CpInfo := pool [(2, .class_ 4), (1, u "java/lang/Object"), (0, u "<init>"), (0, u "()V"), (0, .class_ 8), (0, u "java/lang/Integer"), (7, .class_ 18), (1, u "java/lang/Integer$IntegerCache"), (0, u "$assertionsDisabled"), (0, u "Z"), (26, u "high"), (0, u "I"), (8, u "archivedCache"), (0, u "[Ljava/lang/Integer;"), (12, u "cache"), (0, u "low")] 27

def k10m0 : Method := { name := "<init>", desc := "()V", sig := { parameters := [], returnType := none }, accessFlags := 2, code := none }
/-- java/lang/Integer$IntegerCache -/
def k10 : Class := { plain "java/lang/Integer$IntegerCache" (some 0) with
  accessFlags := 48
  interfaces := #[]
  cf := some (fileOf pool10 16 #[.nestHost 7] #[{ accessFlags := 2, nameIndex := 5, descriptorIndex := 6, attributes := #[] }] 48 2 #[] #[{ accessFlags := 24, nameIndex := 72, descriptorIndex := 48, attributes := #[] }, { accessFlags := 24, nameIndex := 47, descriptorIndex := 48, attributes := #[] }, { accessFlags := 24, nameIndex := 71, descriptorIndex := 58, attributes := #[] }, { accessFlags := 8, nameIndex := 57, descriptorIndex := 58, attributes := #[] }, { accessFlags := 4120, nameIndex := 19, descriptorIndex := 20, attributes := #[] }])
  fields := #[{ name := "low", type := .int, accessFlags := 24, slot := 0, constantValue := 0 }, { name := "high", type := .int, accessFlags := 24, slot := 1, constantValue := 0 }, { name := "cache", type := (.array (.object "java/lang/Integer")), accessFlags := 24, slot := 2, constantValue := 0 }, { name := "archivedCache", type := (.array (.object "java/lang/Integer")), accessFlags := 8, slot := 3, constantValue := 0 }, { name := "$assertionsDisabled", type := .boolean, accessFlags := 4120, slot := 4, constantValue := 0 }]
  methods := #[k10m0]
  instanceTypes := #[]
  staticTypes := #[.int, .int, (.array (.object "java/lang/Integer")), (.array (.object "java/lang/Integer")), .boolean]
  resolved := Array.replicate 100 none
  statics := some 0 }

def pool11 : Array CpInfo := pool [(1, u "java/lang/Cloneable"), (0, .class_ 1), (0, u "java/lang/Object"), (0, .class_ 3)] 3

/-- java/lang/Cloneable -/
def k11 : Class := { plain "java/lang/Cloneable" (some 0) with
  accessFlags := 1537
  interfaces := #[]
  cf := some (fileOf pool11 2 #[] #[] 1537 4 #[] #[])
  fields := #[]
  methods := #[]
  instanceTypes := #[]
  staticTypes := #[]
  resolved := Array.replicate 8 none
  statics := none }

/-- the primitive byte -/
def k12 : Class := { plain "byte" none with kind := .primitive 'B', accessFlags := 0x411 }
/-- [B -/
def k13 : Class := { plain "[B" (some 0) with kind := .array 12 .byte, interfaces := #[11, 4], accessFlags := 1041 }

/-- the primitive int -/
def k14 : Class := { plain "int" none with kind := .primitive 'I', accessFlags := 0x411 }
/-- [I -/
def k15 : Class := { plain "[I" (some 0) with kind := .array 14 .int, interfaces := #[11, 4], accessFlags := 1041 }

/-- [Ljava/lang/Integer; -/
def k16 : Class := { plain "[Ljava/lang/Integer;" (some 0) with kind := .array 9 (.object "java/lang/Integer"), interfaces := #[11, 4], accessFlags := 1041 }

def heap : Heap := #[{ cls := 10, slots := #[.int 0, .int 127, .ref 1, .null, .int 0], vm := .statics 10 },
  { cls := 16, slots := #[.ref 2, .ref 3, .ref 4, .ref 5, .ref 6, .ref 7, .ref 8, .ref 9, .ref 10, .ref 11, .ref 12, .ref 13, .ref 14, .ref 15, .ref 16, .ref 17, .ref 18, .ref 19, .ref 20, .ref 21, .ref 22, .ref 23, .ref 24, .ref 25, .ref 26, .ref 27, .ref 28, .ref 29, .ref 30, .ref 31, .ref 32, .ref 33, .ref 34, .ref 35, .ref 36, .ref 37, .ref 38, .ref 39, .ref 40, .ref 41, .ref 42, .ref 43, .ref 44, .ref 45, .ref 46, .ref 47, .ref 48, .ref 49, .ref 50, .ref 51, .ref 52, .ref 53, .ref 54, .ref 55, .ref 56, .ref 57, .ref 58, .ref 59, .ref 60, .ref 61, .ref 62, .ref 63, .ref 64, .ref 65, .ref 66, .ref 67, .ref 68, .ref 69, .ref 70, .ref 71, .ref 72, .ref 73, .ref 74, .ref 75, .ref 76, .ref 77, .ref 78, .ref 79, .ref 80, .ref 81, .ref 82, .ref 83, .ref 84, .ref 85, .ref 86, .ref 87, .ref 88, .ref 89, .ref 90, .ref 91, .ref 92, .ref 93, .ref 94, .ref 95, .ref 96, .ref 97, .ref 98, .ref 99, .ref 100, .ref 101, .ref 102, .ref 103, .ref 104, .ref 105, .ref 106, .ref 107, .ref 108, .ref 109, .ref 110, .ref 111, .ref 112, .ref 113, .ref 114, .ref 115, .ref 116, .ref 117, .ref 118, .ref 119, .ref 120, .ref 121, .ref 122, .ref 123, .ref 124, .ref 125, .ref 126, .ref 127, .ref 128, .ref 129, .ref 130, .ref 131, .ref 132, .ref 133, .ref 134, .ref 135, .ref 136, .ref 137, .ref 138, .ref 139, .ref 140, .ref 141, .ref 142, .ref 143, .ref 144, .ref 145, .ref 146, .ref 147, .ref 148, .ref 149, .ref 150, .ref 151, .ref 152, .ref 153, .ref 154, .ref 155, .ref 156, .ref 157, .ref 158, .ref 159, .ref 160, .ref 161, .ref 162, .ref 163, .ref 164, .ref 165, .ref 166, .ref 167, .ref 168, .ref 169, .ref 170, .ref 171, .ref 172, .ref 173, .ref 174, .ref 175, .ref 176, .ref 177, .ref 178, .ref 179, .ref 180, .ref 181, .ref 182, .ref 183, .ref 184, .ref 185, .ref 186, .ref 187, .ref 188, .ref 189, .ref 190, .ref 191, .ref 192, .ref 193, .ref 194, .ref 195, .ref 196, .ref 197, .ref 198, .ref 199, .ref 200, .ref 201, .ref 202, .ref 203, .ref 204, .ref 205, .ref 206, .ref 207, .ref 208, .ref 209, .ref 210, .ref 211, .ref 212, .ref 213, .ref 214, .ref 215, .ref 216, .ref 217, .ref 218, .ref 219, .ref 220, .ref 221, .ref 222, .ref 223, .ref 224, .ref 225, .ref 226, .ref 227, .ref 228, .ref 229, .ref 230, .ref 231, .ref 232, .ref 233, .ref 234, .ref 235, .ref 236, .ref 237, .ref 238, .ref 239, .ref 240, .ref 241, .ref 242, .ref 243, .ref 244, .ref 245, .ref 246, .ref 247, .ref 248, .ref 249, .ref 250, .ref 251, .ref 252, .ref 253, .ref 254, .ref 255, .ref 256, .ref 257], vm := .none },
  { cls := 9, slots := #[.int (-128)], vm := .none },
  { cls := 9, slots := #[.int (-127)], vm := .none },
  { cls := 9, slots := #[.int (-126)], vm := .none },
  { cls := 9, slots := #[.int (-125)], vm := .none },
  { cls := 9, slots := #[.int (-124)], vm := .none },
  { cls := 9, slots := #[.int (-123)], vm := .none },
  { cls := 9, slots := #[.int (-122)], vm := .none },
  { cls := 9, slots := #[.int (-121)], vm := .none },
  { cls := 9, slots := #[.int (-120)], vm := .none },
  { cls := 9, slots := #[.int (-119)], vm := .none },
  { cls := 9, slots := #[.int (-118)], vm := .none },
  { cls := 9, slots := #[.int (-117)], vm := .none },
  { cls := 9, slots := #[.int (-116)], vm := .none },
  { cls := 9, slots := #[.int (-115)], vm := .none },
  { cls := 9, slots := #[.int (-114)], vm := .none },
  { cls := 9, slots := #[.int (-113)], vm := .none },
  { cls := 9, slots := #[.int (-112)], vm := .none },
  { cls := 9, slots := #[.int (-111)], vm := .none },
  { cls := 9, slots := #[.int (-110)], vm := .none },
  { cls := 9, slots := #[.int (-109)], vm := .none },
  { cls := 9, slots := #[.int (-108)], vm := .none },
  { cls := 9, slots := #[.int (-107)], vm := .none },
  { cls := 9, slots := #[.int (-106)], vm := .none },
  { cls := 9, slots := #[.int (-105)], vm := .none },
  { cls := 9, slots := #[.int (-104)], vm := .none },
  { cls := 9, slots := #[.int (-103)], vm := .none },
  { cls := 9, slots := #[.int (-102)], vm := .none },
  { cls := 9, slots := #[.int (-101)], vm := .none },
  { cls := 9, slots := #[.int (-100)], vm := .none },
  { cls := 9, slots := #[.int (-99)], vm := .none },
  { cls := 9, slots := #[.int (-98)], vm := .none },
  { cls := 9, slots := #[.int (-97)], vm := .none },
  { cls := 9, slots := #[.int (-96)], vm := .none },
  { cls := 9, slots := #[.int (-95)], vm := .none },
  { cls := 9, slots := #[.int (-94)], vm := .none },
  { cls := 9, slots := #[.int (-93)], vm := .none },
  { cls := 9, slots := #[.int (-92)], vm := .none },
  { cls := 9, slots := #[.int (-91)], vm := .none },
  { cls := 9, slots := #[.int (-90)], vm := .none },
  { cls := 9, slots := #[.int (-89)], vm := .none },
  { cls := 9, slots := #[.int (-88)], vm := .none },
  { cls := 9, slots := #[.int (-87)], vm := .none },
  { cls := 9, slots := #[.int (-86)], vm := .none },
  { cls := 9, slots := #[.int (-85)], vm := .none },
  { cls := 9, slots := #[.int (-84)], vm := .none },
  { cls := 9, slots := #[.int (-83)], vm := .none },
  { cls := 9, slots := #[.int (-82)], vm := .none },
  { cls := 9, slots := #[.int (-81)], vm := .none },
  { cls := 9, slots := #[.int (-80)], vm := .none },
  { cls := 9, slots := #[.int (-79)], vm := .none },
  { cls := 9, slots := #[.int (-78)], vm := .none },
  { cls := 9, slots := #[.int (-77)], vm := .none },
  { cls := 9, slots := #[.int (-76)], vm := .none },
  { cls := 9, slots := #[.int (-75)], vm := .none },
  { cls := 9, slots := #[.int (-74)], vm := .none },
  { cls := 9, slots := #[.int (-73)], vm := .none },
  { cls := 9, slots := #[.int (-72)], vm := .none },
  { cls := 9, slots := #[.int (-71)], vm := .none },
  { cls := 9, slots := #[.int (-70)], vm := .none },
  { cls := 9, slots := #[.int (-69)], vm := .none },
  { cls := 9, slots := #[.int (-68)], vm := .none },
  { cls := 9, slots := #[.int (-67)], vm := .none },
  { cls := 9, slots := #[.int (-66)], vm := .none },
  { cls := 9, slots := #[.int (-65)], vm := .none },
  { cls := 9, slots := #[.int (-64)], vm := .none },
  { cls := 9, slots := #[.int (-63)], vm := .none },
  { cls := 9, slots := #[.int (-62)], vm := .none },
  { cls := 9, slots := #[.int (-61)], vm := .none },
  { cls := 9, slots := #[.int (-60)], vm := .none },
  { cls := 9, slots := #[.int (-59)], vm := .none },
  { cls := 9, slots := #[.int (-58)], vm := .none },
  { cls := 9, slots := #[.int (-57)], vm := .none },
  { cls := 9, slots := #[.int (-56)], vm := .none },
  { cls := 9, slots := #[.int (-55)], vm := .none },
  { cls := 9, slots := #[.int (-54)], vm := .none },
  { cls := 9, slots := #[.int (-53)], vm := .none },
  { cls := 9, slots := #[.int (-52)], vm := .none },
  { cls := 9, slots := #[.int (-51)], vm := .none },
  { cls := 9, slots := #[.int (-50)], vm := .none },
  { cls := 9, slots := #[.int (-49)], vm := .none },
  { cls := 9, slots := #[.int (-48)], vm := .none },
  { cls := 9, slots := #[.int (-47)], vm := .none },
  { cls := 9, slots := #[.int (-46)], vm := .none },
  { cls := 9, slots := #[.int (-45)], vm := .none },
  { cls := 9, slots := #[.int (-44)], vm := .none },
  { cls := 9, slots := #[.int (-43)], vm := .none },
  { cls := 9, slots := #[.int (-42)], vm := .none },
  { cls := 9, slots := #[.int (-41)], vm := .none },
  { cls := 9, slots := #[.int (-40)], vm := .none },
  { cls := 9, slots := #[.int (-39)], vm := .none },
  { cls := 9, slots := #[.int (-38)], vm := .none },
  { cls := 9, slots := #[.int (-37)], vm := .none },
  { cls := 9, slots := #[.int (-36)], vm := .none },
  { cls := 9, slots := #[.int (-35)], vm := .none },
  { cls := 9, slots := #[.int (-34)], vm := .none },
  { cls := 9, slots := #[.int (-33)], vm := .none },
  { cls := 9, slots := #[.int (-32)], vm := .none },
  { cls := 9, slots := #[.int (-31)], vm := .none },
  { cls := 9, slots := #[.int (-30)], vm := .none },
  { cls := 9, slots := #[.int (-29)], vm := .none },
  { cls := 9, slots := #[.int (-28)], vm := .none },
  { cls := 9, slots := #[.int (-27)], vm := .none },
  { cls := 9, slots := #[.int (-26)], vm := .none },
  { cls := 9, slots := #[.int (-25)], vm := .none },
  { cls := 9, slots := #[.int (-24)], vm := .none },
  { cls := 9, slots := #[.int (-23)], vm := .none },
  { cls := 9, slots := #[.int (-22)], vm := .none },
  { cls := 9, slots := #[.int (-21)], vm := .none },
  { cls := 9, slots := #[.int (-20)], vm := .none },
  { cls := 9, slots := #[.int (-19)], vm := .none },
  { cls := 9, slots := #[.int (-18)], vm := .none },
  { cls := 9, slots := #[.int (-17)], vm := .none },
  { cls := 9, slots := #[.int (-16)], vm := .none },
  { cls := 9, slots := #[.int (-15)], vm := .none },
  { cls := 9, slots := #[.int (-14)], vm := .none },
  { cls := 9, slots := #[.int (-13)], vm := .none },
  { cls := 9, slots := #[.int (-12)], vm := .none },
  { cls := 9, slots := #[.int (-11)], vm := .none },
  { cls := 9, slots := #[.int (-10)], vm := .none },
  { cls := 9, slots := #[.int (-9)], vm := .none },
  { cls := 9, slots := #[.int (-8)], vm := .none },
  { cls := 9, slots := #[.int (-7)], vm := .none },
  { cls := 9, slots := #[.int (-6)], vm := .none },
  { cls := 9, slots := #[.int (-5)], vm := .none },
  { cls := 9, slots := #[.int (-4)], vm := .none },
  { cls := 9, slots := #[.int (-3)], vm := .none },
  { cls := 9, slots := #[.int (-2)], vm := .none },
  { cls := 9, slots := #[.int (-1)], vm := .none },
  { cls := 9, slots := #[.int 0], vm := .none },
  { cls := 9, slots := #[.int 1], vm := .none },
  { cls := 9, slots := #[.int 2], vm := .none },
  { cls := 9, slots := #[.int 3], vm := .none },
  { cls := 9, slots := #[.int 4], vm := .none },
  { cls := 9, slots := #[.int 5], vm := .none },
  { cls := 9, slots := #[.int 6], vm := .none },
  { cls := 9, slots := #[.int 7], vm := .none },
  { cls := 9, slots := #[.int 8], vm := .none },
  { cls := 9, slots := #[.int 9], vm := .none },
  { cls := 9, slots := #[.int 10], vm := .none },
  { cls := 9, slots := #[.int 11], vm := .none },
  { cls := 9, slots := #[.int 12], vm := .none },
  { cls := 9, slots := #[.int 13], vm := .none },
  { cls := 9, slots := #[.int 14], vm := .none },
  { cls := 9, slots := #[.int 15], vm := .none },
  { cls := 9, slots := #[.int 16], vm := .none },
  { cls := 9, slots := #[.int 17], vm := .none },
  { cls := 9, slots := #[.int 18], vm := .none },
  { cls := 9, slots := #[.int 19], vm := .none },
  { cls := 9, slots := #[.int 20], vm := .none },
  { cls := 9, slots := #[.int 21], vm := .none },
  { cls := 9, slots := #[.int 22], vm := .none },
  { cls := 9, slots := #[.int 23], vm := .none },
  { cls := 9, slots := #[.int 24], vm := .none },
  { cls := 9, slots := #[.int 25], vm := .none },
  { cls := 9, slots := #[.int 26], vm := .none },
  { cls := 9, slots := #[.int 27], vm := .none },
  { cls := 9, slots := #[.int 28], vm := .none },
  { cls := 9, slots := #[.int 29], vm := .none },
  { cls := 9, slots := #[.int 30], vm := .none },
  { cls := 9, slots := #[.int 31], vm := .none },
  { cls := 9, slots := #[.int 32], vm := .none },
  { cls := 9, slots := #[.int 33], vm := .none },
  { cls := 9, slots := #[.int 34], vm := .none },
  { cls := 9, slots := #[.int 35], vm := .none },
  { cls := 9, slots := #[.int 36], vm := .none },
  { cls := 9, slots := #[.int 37], vm := .none },
  { cls := 9, slots := #[.int 38], vm := .none },
  { cls := 9, slots := #[.int 39], vm := .none },
  { cls := 9, slots := #[.int 40], vm := .none },
  { cls := 9, slots := #[.int 41], vm := .none },
  { cls := 9, slots := #[.int 42], vm := .none },
  { cls := 9, slots := #[.int 43], vm := .none },
  { cls := 9, slots := #[.int 44], vm := .none },
  { cls := 9, slots := #[.int 45], vm := .none },
  { cls := 9, slots := #[.int 46], vm := .none },
  { cls := 9, slots := #[.int 47], vm := .none },
  { cls := 9, slots := #[.int 48], vm := .none },
  { cls := 9, slots := #[.int 49], vm := .none },
  { cls := 9, slots := #[.int 50], vm := .none },
  { cls := 9, slots := #[.int 51], vm := .none },
  { cls := 9, slots := #[.int 52], vm := .none },
  { cls := 9, slots := #[.int 53], vm := .none },
  { cls := 9, slots := #[.int 54], vm := .none },
  { cls := 9, slots := #[.int 55], vm := .none },
  { cls := 9, slots := #[.int 56], vm := .none },
  { cls := 9, slots := #[.int 57], vm := .none },
  { cls := 9, slots := #[.int 58], vm := .none },
  { cls := 9, slots := #[.int 59], vm := .none },
  { cls := 9, slots := #[.int 60], vm := .none },
  { cls := 9, slots := #[.int 61], vm := .none },
  { cls := 9, slots := #[.int 62], vm := .none },
  { cls := 9, slots := #[.int 63], vm := .none },
  { cls := 9, slots := #[.int 64], vm := .none },
  { cls := 9, slots := #[.int 65], vm := .none },
  { cls := 9, slots := #[.int 66], vm := .none },
  { cls := 9, slots := #[.int 67], vm := .none },
  { cls := 9, slots := #[.int 68], vm := .none },
  { cls := 9, slots := #[.int 69], vm := .none },
  { cls := 9, slots := #[.int 70], vm := .none },
  { cls := 9, slots := #[.int 71], vm := .none },
  { cls := 9, slots := #[.int 72], vm := .none },
  { cls := 9, slots := #[.int 73], vm := .none },
  { cls := 9, slots := #[.int 74], vm := .none },
  { cls := 9, slots := #[.int 75], vm := .none },
  { cls := 9, slots := #[.int 76], vm := .none },
  { cls := 9, slots := #[.int 77], vm := .none },
  { cls := 9, slots := #[.int 78], vm := .none },
  { cls := 9, slots := #[.int 79], vm := .none },
  { cls := 9, slots := #[.int 80], vm := .none },
  { cls := 9, slots := #[.int 81], vm := .none },
  { cls := 9, slots := #[.int 82], vm := .none },
  { cls := 9, slots := #[.int 83], vm := .none },
  { cls := 9, slots := #[.int 84], vm := .none },
  { cls := 9, slots := #[.int 85], vm := .none },
  { cls := 9, slots := #[.int 86], vm := .none },
  { cls := 9, slots := #[.int 87], vm := .none },
  { cls := 9, slots := #[.int 88], vm := .none },
  { cls := 9, slots := #[.int 89], vm := .none },
  { cls := 9, slots := #[.int 90], vm := .none },
  { cls := 9, slots := #[.int 91], vm := .none },
  { cls := 9, slots := #[.int 92], vm := .none },
  { cls := 9, slots := #[.int 93], vm := .none },
  { cls := 9, slots := #[.int 94], vm := .none },
  { cls := 9, slots := #[.int 95], vm := .none },
  { cls := 9, slots := #[.int 96], vm := .none },
  { cls := 9, slots := #[.int 97], vm := .none },
  { cls := 9, slots := #[.int 98], vm := .none },
  { cls := 9, slots := #[.int 99], vm := .none },
  { cls := 9, slots := #[.int 100], vm := .none },
  { cls := 9, slots := #[.int 101], vm := .none },
  { cls := 9, slots := #[.int 102], vm := .none },
  { cls := 9, slots := #[.int 103], vm := .none },
  { cls := 9, slots := #[.int 104], vm := .none },
  { cls := 9, slots := #[.int 105], vm := .none },
  { cls := 9, slots := #[.int 106], vm := .none },
  { cls := 9, slots := #[.int 107], vm := .none },
  { cls := 9, slots := #[.int 108], vm := .none },
  { cls := 9, slots := #[.int 109], vm := .none },
  { cls := 9, slots := #[.int 110], vm := .none },
  { cls := 9, slots := #[.int 111], vm := .none },
  { cls := 9, slots := #[.int 112], vm := .none },
  { cls := 9, slots := #[.int 113], vm := .none },
  { cls := 9, slots := #[.int 114], vm := .none },
  { cls := 9, slots := #[.int 115], vm := .none },
  { cls := 9, slots := #[.int 116], vm := .none },
  { cls := 9, slots := #[.int 117], vm := .none },
  { cls := 9, slots := #[.int 118], vm := .none },
  { cls := 9, slots := #[.int 119], vm := .none },
  { cls := 9, slots := #[.int 120], vm := .none },
  { cls := 9, slots := #[.int 121], vm := .none },
  { cls := 9, slots := #[.int 122], vm := .none },
  { cls := 9, slots := #[.int 123], vm := .none },
  { cls := 9, slots := #[.int 124], vm := .none },
  { cls := 9, slots := #[.int 125], vm := .none },
  { cls := 9, slots := #[.int 126], vm := .none },
  { cls := 9, slots := #[.int 127], vm := .none }]
def classes : Array Class := #[k0, k1, k2, k3, k4, k5, k6, k7, k8, k9, k10, k11, k12, k13, k14, k15, k16]
def interned : List (Array UInt16 × Addr) := []
def slotsUsed : Nat := 517
def theMethod : MethodId := ⟨1, 1⟩
def args0 : Array Value := #[.int 3, .int 4, .int 5, .int 6, .int 7, .int 8]
def aboutOver (below : List Frame) : State where
  vm := { classes := classes, interned := interned.toArray }
  heap := heap
  slotsUsed := slotsUsed
  threads := #[{ frames := .invoking theMethod args0 :: below }]
def below0 : List Frame := [.native { method := ⟨0, 0⟩, args := #[] }]
def about1 : State := aboutOver below0
def p0 : Program := .bare "" "" ""
def e0 : Env := launch0.env 0 0 0
theorem w_frames : about1.frames = Frame.invoking theMethod args0 :: below0 := rfl
set_option maxRecDepth 65536 in
theorem w_args : argsFit about1.vm theMethod args0 = true := by decide +kernel
set_option maxRecDepth 65536 in
theorem w_heap : heapFits about1 = true := by decide +kernel
set_option maxRecDepth 65536 in
theorem w_runnable : about1.curStatus? = some .runnable := by decide +kernel
set_option maxRecDepth 65536 in
theorem w_alone : about1.alone = true := by decide +kernel
set_option maxRecDepth 65536 in
theorem w_named : about1.methodNamed? x = some theMethod := by decide +kernel
set_option maxRecDepth 65536 in
theorem w_hears : about1.hears theMethod below0 = true := by decide +kernel
set_option maxRecDepth 65536 in
theorem w_ripe : about1.ripe theMethod args0 below0 = true := by decide +kernel
theorem w_running : about1.status = .running := rfl
set_option maxRecDepth 65536 in
theorem w_room : about1.hasRoom e0.platform room_1 = true :=
  launch0.hasRoom_least _ room_1 (by decide +kernel) (by decide +kernel) (by decide +kernel) (by decide +kernel) (by decide +kernel) (by decide +kernel)
theorem allAtoms_all (ts : List Jvm.Cond) (a : Array Jvm.Value) (st : Jvm.State) : (allAtoms ts).before a st = ts.all (fun c => c.before a st) := by
  induction ts with
  | nil => rfl
  | cons c t ih =>
    show (Jvm.Cond.and c (allAtoms t)).before a st = _
    rw [Jvm.Cond.before_and, ih, List.all_cons]
def words1 : List Jvm.Cond := Jvm.Cond.code x code maxLocals ret :: tables_1
/-- a 'code' word, met by the world's own term for the bytes: nothing is compared byte by byte -/
theorem code_word {y : MethodName} {bytes : ByteArray} {mx : Nat} {rt : Option FieldType} {a : Array Value} {s : State} {m : MethodId} {meth : Method} {c : Code} (h1 : s.methodNamed? y = some m) (h2 : s.vm.method? m = some meth) (h3 : meth.code = some c) (h4 : c.code = bytes)
    (h5 : (c.maxLocals == mx && c.exceptionTable.isEmpty && decide (c.maxStack ≤ mostOperands) && decide (meth.sig.returnType = rt) && !meth.locks && decide (parseMethodDescriptor y.desc = some meth.sig)) = true) : (Jvm.Cond.code y bytes mx rt).before a s = true := by
  simp only [Bool.and_eq_true, beq_iff_eq, Bool.not_eq_true', decide_eq_true_eq] at h5
  obtain ⟨⟨⟨⟨⟨g1, g2⟩, g3⟩, g4⟩, g5⟩, g6⟩ := h5
  simp [Cond.before, Cond.holds, Cond.value, h1, h2, h3, h4, g1, g2, g3, g4, g5, g6]
def isCode : Jvm.Cond → Bool
  | .code _ _ _ _ => true
  | _ => false
theorem all_split {L : List Jvm.Cond} {P : Jvm.Cond → Bool} (h1 : L.all (fun c => isCode c || P c) = true) (h2 : ∀ c ∈ L.filter isCode, P c = true) : L.all P = true := by
  refine List.all_eq_true.mpr fun c hc => ?_
  have h := List.all_eq_true.mp h1 c hc
  rcases Bool.eq_false_or_eq_true (isCode c) with hi | hi
  · exact h2 c (List.mem_filter.mpr ⟨hc, hi⟩)
  · simpa [hi] using h
set_option maxRecDepth 65536 in
theorem w_c0 : (Jvm.Cond.code x code maxLocals ret).before args0 about1 = true := code_word (m := ⟨1, 1⟩) (meth := k1m1) (c := k1c1) (by decide +kernel) rfl rfl rfl (by decide +kernel)
set_option maxRecDepth 65536 in
theorem w_c1 : (Jvm.Cond.code ({ cls := "java/lang/Math", name := "min", desc := "(JJ)J" } : Jvm.MethodName) jdk_29_method_70_code (4 : Nat) (Option.some Jvm.ClassFile.FieldType.long)).before args0 about1 = true := code_word (m := ⟨2, 2⟩) (meth := k2m2) (c := k2c2) (by decide +kernel) rfl rfl rfl (by decide +kernel)
set_option maxRecDepth 65536 in
theorem w_c2 : (Jvm.Cond.code ({ cls := "com/example/blynds/blynds/engine/Rect", name := "<init>", desc := "(IIII)V" } : Jvm.MethodName) prog_29_method_1_code (5 : Nat) (Option.none : Option Jvm.ClassFile.FieldType)).before args0 about1 = true := code_word (m := ⟨3, 0⟩) (meth := k3m0) (c := k3c0) (by decide +kernel) rfl rfl rfl (by decide +kernel)
set_option maxRecDepth 65536 in
theorem w_c3 : (Jvm.Cond.code ({ cls := "java/lang/Object", name := "<init>", desc := "()V" } : Jvm.MethodName) object_method_1_code (1 : Nat) (Option.none : Option Jvm.ClassFile.FieldType)).before args0 about1 = true := code_word (m := ⟨0, 0⟩) (meth := k0m0) (c := k0c0) (by decide +kernel) rfl rfl rfl (by decide +kernel)
set_option maxRecDepth 65536 in
theorem w_c4 : (Jvm.Cond.code ({ cls := "com/example/blynds/blynds/engine/Rect", name := "equals", desc := "(Ljava/lang/Object;)Z" } : Jvm.MethodName) prog_29_method_13_code (3 : Nat) (Option.some Jvm.ClassFile.FieldType.boolean)).before args0 about1 = true := code_word (m := ⟨3, 1⟩) (meth := k3m1) (c := k3c1) (by decide +kernel) rfl rfl rfl (by decide +kernel)
set_option maxRecDepth 65536 in
theorem w_c5 : (Jvm.Cond.code ({ cls := "java/lang/Math", name := "max", desc := "(JJ)J" } : Jvm.MethodName) jdk_29_method_66_code (4 : Nat) (Option.some Jvm.ClassFile.FieldType.long)).before args0 about1 = true := code_word (m := ⟨2, 1⟩) (meth := k2m1) (c := k2c1) (by decide +kernel) rfl rfl rfl (by decide +kernel)
set_option maxRecDepth 65536 in
theorem w_c6 : (Jvm.Cond.code ({ cls := "java/lang/Integer", name := "valueOf", desc := "(I)Ljava/lang/Integer;" } : Jvm.MethodName) jdk_33_method_22_code (1 : Nat) (Option.some (Jvm.ClassFile.FieldType.object "java/lang/Integer"))).before args0 about1 = true := code_word (m := ⟨9, 0⟩) (meth := k9m0) (c := k9c0) (by decide +kernel) rfl rfl rfl (by decide +kernel)
set_option maxRecDepth 65536 in
theorem w_c7 : (Jvm.Cond.code ({ cls := "java/lang/Integer", name := "<init>", desc := "(I)V" } : Jvm.MethodName) jdk_33_method_23_code (2 : Nat) (Option.none : Option Jvm.ClassFile.FieldType)).before args0 about1 = true := code_word (m := ⟨9, 1⟩) (meth := k9m1) (c := k9c1) (by decide +kernel) rfl rfl rfl (by decide +kernel)
set_option maxRecDepth 65536 in
theorem w_c8 : (Jvm.Cond.code ({ cls := "java/lang/Number", name := "<init>", desc := "()V" } : Jvm.MethodName) jdk_18_method_1_code (1 : Nat) (Option.none : Option Jvm.ClassFile.FieldType)).before args0 about1 = true := code_word (m := ⟨5, 0⟩) (meth := k5m0) (c := k5c0) (by decide +kernel) rfl rfl rfl (by decide +kernel)
def codes1 : List Jvm.Cond := [Jvm.Cond.code x code maxLocals ret, Jvm.Cond.code ({ cls := "java/lang/Math", name := "min", desc := "(JJ)J" } : Jvm.MethodName) jdk_29_method_70_code (4 : Nat) (Option.some Jvm.ClassFile.FieldType.long), Jvm.Cond.code ({ cls := "com/example/blynds/blynds/engine/Rect", name := "<init>", desc := "(IIII)V" } : Jvm.MethodName) prog_29_method_1_code (5 : Nat) (Option.none : Option Jvm.ClassFile.FieldType), Jvm.Cond.code ({ cls := "java/lang/Object", name := "<init>", desc := "()V" } : Jvm.MethodName) object_method_1_code (1 : Nat) (Option.none : Option Jvm.ClassFile.FieldType), Jvm.Cond.code ({ cls := "com/example/blynds/blynds/engine/Rect", name := "equals", desc := "(Ljava/lang/Object;)Z" } : Jvm.MethodName) prog_29_method_13_code (3 : Nat) (Option.some Jvm.ClassFile.FieldType.boolean), Jvm.Cond.code ({ cls := "java/lang/Math", name := "max", desc := "(JJ)J" } : Jvm.MethodName) jdk_29_method_66_code (4 : Nat) (Option.some Jvm.ClassFile.FieldType.long), Jvm.Cond.code ({ cls := "java/lang/Integer", name := "valueOf", desc := "(I)Ljava/lang/Integer;" } : Jvm.MethodName) jdk_33_method_22_code (1 : Nat) (Option.some (Jvm.ClassFile.FieldType.object "java/lang/Integer")), Jvm.Cond.code ({ cls := "java/lang/Integer", name := "<init>", desc := "(I)V" } : Jvm.MethodName) jdk_33_method_23_code (2 : Nat) (Option.none : Option Jvm.ClassFile.FieldType), Jvm.Cond.code ({ cls := "java/lang/Number", name := "<init>", desc := "()V" } : Jvm.MethodName) jdk_18_method_1_code (1 : Nat) (Option.none : Option Jvm.ClassFile.FieldType)]
set_option maxRecDepth 65536 in
theorem codes_eq : words1.filter isCode = codes1 := rfl
theorem w_codes : ∀ c ∈ words1.filter isCode, c.before args0 about1 = true := by
  rw [codes_eq]
  intro c hc
  simp only [codes1, List.mem_cons, List.not_mem_nil, or_false] at hc
  rcases hc with rfl | rfl | rfl | rfl | rfl | rfl | rfl | rfl | rfl
  · exact w_c0
  · exact w_c1
  · exact w_c2
  · exact w_c3
  · exact w_c4
  · exact w_c5
  · exact w_c6
  · exact w_c7
  · exact w_c8
set_option maxRecDepth 65536 in
theorem w_t1 : (words1.take 24).all (fun c => isCode c || c.before args0 about1) = true := by decide +kernel
set_option maxRecDepth 65536 in
theorem w_t2 : ((words1.drop 24).take 24).all (fun c => isCode c || c.before args0 about1) = true := by decide +kernel
set_option maxRecDepth 65536 in
theorem w_t3 : ((words1.drop 24).drop 24).all (fun c => isCode c || c.before args0 about1) = true := by decide +kernel
theorem w_tables : (allAtoms (Jvm.Cond.code x code maxLocals ret :: tables_1)).before args0 about1 = true := by
  rw [allAtoms_all]
  show words1.all (fun c => c.before args0 about1) = true
  refine all_split ?_ w_codes
  rw [← List.take_append_drop 24 words1, List.all_append, w_t1, ← List.take_append_drop 24 (words1.drop 24), List.all_append, w_t2, w_t3]
  rfl
set_option maxRecDepth 65536 in
theorem w_rest : rest_1_c.before args0 about1 = true := by decide +kernel
set_option maxRecDepth 65536 in
theorem w_case : (Jvm.Cond.and given_1 narrow_1).before args0 about1 = true := by decide +kernel
theorem w_applies : (headSpec (Jvm.Cond.code x code maxLocals ret :: tables_1) room_1).applies x e0.platform about1 = true :=
  (Spec.applies_iff w_frames).mpr ⟨w_running, w_runnable, w_alone, w_named, w_hears, w_ripe, w_room, w_tables⟩
theorem atStart : AtStart classFile x code maxLocals ret World_1 tables_1 room_1 Calls_1 rest_1 Pre_1 launch0 p0 e0 about1 theMethod args0 below0 :=
  ⟨lists_1, trivial, launch0.admits_env _ _ _, launch0.least_env, fairChoices_fair.cas, fairChoices_fair.clock, w_frames, w_args, w_heap, w_applies, trivial, w_rest, w_case⟩
end start1
theorem witness_1 : WitnessClaimed_1 := ⟨start1.p0, start1.e0, start1.about1, start1.theMethod, start1.args0, start1.below0, start1.atStart⟩
end Jvm.Pilot.@@N@@
