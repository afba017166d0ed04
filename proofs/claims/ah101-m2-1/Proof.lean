import JvmDerived
import JvmDerived.Pilot.@@N@@Statement
import JvmDerived.Pilot.@@N@@Code
set_option linter.unusedVariables false
set_option linter.unusedSimpArgs false
namespace Jvm.RoadKit
open Sem ClassFile Op Lib Jvm.Stand Jvm.Free Jvm.LawKit
section New
variable {p : Program} {l : Launch} {e : Env} {R : Room} {s : State} {m : MethodId} {args : Array Value} {below : List Frame} {meth : Method} {c : Code} {T : State} {locs : List Loc} {cells slots : Nat}
theorem retI (X : Stand p l e R s m args below meth c T locs cells slots) (hx : p.tables.exec = Jvm.exec) {pc : Nat} {Ls : Array Slot} {z : Int32} {rest : List Value} (hret : meth.sig.returnType = some .int) (hd : decode c.code pc = .ok (.ireturn, 1)) {fs : List Frame}
    (hl : ∀ (f : JFrame) (acts : List Action), f.method = m → f.locked = none → f.entered = [] → (doReturn e (T.setTop f) acts (some (.int z))).1 = T.setFrames fs) : Steps p.tables e below (T.setTop (mkF m pc Ls (.int z :: rest))) (T.setFrames fs) := by
  have hm' : T.vm.method? m = some meth := X.method'
  have hn : narrow .int (.int z) = .int z := rfl
  show Steps p.tables e below (T.setTop { method := m, pc := pc, locals := Ls, stack := _ :: rest, locked := none }) _
  jvm_step X.here [X.here.top, hx, hd, hm', hret, hn]
  first | (intro acts; rw [hl _ acts rfl rfl rfl]) | rw [hl _ _ rfl rfl rfl]
  exact Steps.refl _
end New
end Jvm.RoadKit
namespace Jvm.Pilot.@@N@@
open Jvm Jvm.ClassFile Sem Op Lib Jvm.Free Jvm.Stand Jvm.LawKit Jvm.RoadKit Bundle Jvm.Pilot.@@N@@.Jvm.D
theorem own_ext_refl (h : Heap) : Ext h h := ⟨Nat.le_refl _, fun _ _ q => q⟩
theorem own_ext_trans {h h' h2 : Heap} (A : Ext h h') (B : Ext h' h2) : Ext h h2 := ⟨Nat.le_trans A.1 B.1, fun a c q => B.2 a c (A.2 a c q)⟩
theorem own_ext_keep {h h' h2 : Heap} {ws : List Addr} (A : Ext h h') (K : Keep h' h2 ws) (q : ∀ x ∈ ws, h.size ≤ x) : Ext h h2 := ⟨Nat.le_trans A.1 K.1, fun a c r => K.2.1 a c (A.2 a c r) fun z => absurd (Array.getElem?_eq_some_iff.mp r).1 (Nat.not_lt.mpr (q a z))⟩
theorem own_pin {args : Array Value} {Z : State} {t : Term} {C : String} (h : (Jvm.Cond.exactly t C).value args Z none Z [] = some true) : ∃ a, t.eval args Z none [] Z = some (.ref a) ∧ Exa Z Z.heap a C := by
  obtain ⟨a, ev⟩ := exa_v h
  exact ⟨a, ev, Exa.start ev h⟩
theorem own_fld {args : Array Value} {Z : State} {t : Term} {a : Addr} {C n d : String} {k : Int32} (ev : t.eval args Z none [] Z = some (.ref a)) (h : (Jvm.Cond.eq (.field t C n d) (.int k)).value args Z none Z [] = some true) : Fld Z Z.heap a C n d (.int k) := by
  obtain ⟨x, y, h1, h2, hk, -⟩ := cmp_v (Or.inl h)
  have h2' : y = .int k := (Option.some.inj h2).symm
  subst h2'
  have hx : ∃ z, x = .int z := by cases x <;> simp [Kin, Value.isRef] at hk ⊢
  obtain ⟨z, rfl⟩ := hx
  have hv : (Jvm.Cond.eq (.field t C n d) (.int k)).value args Z none Z [] = some (decide (z = k)) := by simp only [Jvm.Cond.value, h1, h2]
  have e : z = k := gotT hv h
  subst e
  exact Fld.start (by rw [← fld_at ev]; exact h1)
def Pins (Z : State) (w_DATE_TIME w_G_YEAR w_G_DAY w_TIME_OF_DAY w_G_YEAR_MONTH w_DATE w_G_MONTH_DAY w_G_MONTH : Addr) : Prop := Sta Z Z.heap "com/example/knit/knit/exslt/SchemaDateTime$Type" "DATE_TIME" "Lcom/example/knit/knit/exslt/SchemaDateTime$Type;" (.ref w_DATE_TIME) ∧ Sta Z Z.heap "com/example/knit/knit/exslt/SchemaDateTime$Type" "G_YEAR" "Lcom/example/knit/knit/exslt/SchemaDateTime$Type;" (.ref w_G_YEAR) ∧ Sta Z Z.heap "com/example/knit/knit/exslt/SchemaDateTime$Type" "G_DAY" "Lcom/example/knit/knit/exslt/SchemaDateTime$Type;" (.ref w_G_DAY) ∧ Sta Z Z.heap "com/example/knit/knit/exslt/SchemaDateTime$Type" "TIME_OF_DAY" "Lcom/example/knit/knit/exslt/SchemaDateTime$Type;" (.ref w_TIME_OF_DAY) ∧ Sta Z Z.heap "com/example/knit/knit/exslt/SchemaDateTime$Type" "G_YEAR_MONTH" "Lcom/example/knit/knit/exslt/SchemaDateTime$Type;" (.ref w_G_YEAR_MONTH) ∧ Sta Z Z.heap "com/example/knit/knit/exslt/SchemaDateTime$Type" "DATE" "Lcom/example/knit/knit/exslt/SchemaDateTime$Type;" (.ref w_DATE) ∧ Sta Z Z.heap "com/example/knit/knit/exslt/SchemaDateTime$Type" "G_MONTH_DAY" "Lcom/example/knit/knit/exslt/SchemaDateTime$Type;" (.ref w_G_MONTH_DAY) ∧ Sta Z Z.heap "com/example/knit/knit/exslt/SchemaDateTime$Type" "G_MONTH" "Lcom/example/knit/knit/exslt/SchemaDateTime$Type;" (.ref w_G_MONTH) ∧ Exa Z Z.heap w_DATE_TIME "com/example/knit/knit/exslt/SchemaDateTime$Type" ∧ Exa Z Z.heap w_G_YEAR "com/example/knit/knit/exslt/SchemaDateTime$Type" ∧ Exa Z Z.heap w_G_DAY "com/example/knit/knit/exslt/SchemaDateTime$Type" ∧ Exa Z Z.heap w_TIME_OF_DAY "com/example/knit/knit/exslt/SchemaDateTime$Type" ∧ Exa Z Z.heap w_G_YEAR_MONTH "com/example/knit/knit/exslt/SchemaDateTime$Type" ∧ Exa Z Z.heap w_DATE "com/example/knit/knit/exslt/SchemaDateTime$Type" ∧ Exa Z Z.heap w_G_MONTH_DAY "com/example/knit/knit/exslt/SchemaDateTime$Type" ∧ Exa Z Z.heap w_G_MONTH "com/example/knit/knit/exslt/SchemaDateTime$Type" ∧ Fld Z Z.heap w_DATE_TIME "com/example/knit/knit/exslt/SchemaDateTime$Type" "hasMonth" "Z" (.int (1 : Int32)) ∧ Fld Z Z.heap w_DATE_TIME "com/example/knit/knit/exslt/SchemaDateTime$Type" "hasDay" "Z" (.int (1 : Int32)) ∧ Fld Z Z.heap w_DATE_TIME "com/example/knit/knit/exslt/SchemaDateTime$Type" "hasTime" "Z" (.int (1 : Int32)) ∧ Fld Z Z.heap w_G_YEAR "com/example/knit/knit/exslt/SchemaDateTime$Type" "hasMonth" "Z" (.int (0 : Int32)) ∧ Fld Z Z.heap w_G_YEAR "com/example/knit/knit/exslt/SchemaDateTime$Type" "hasDay" "Z" (.int (0 : Int32)) ∧ Fld Z Z.heap w_G_YEAR "com/example/knit/knit/exslt/SchemaDateTime$Type" "hasTime" "Z" (.int (0 : Int32)) ∧ Fld Z Z.heap w_G_DAY "com/example/knit/knit/exslt/SchemaDateTime$Type" "hasMonth" "Z" (.int (0 : Int32)) ∧ Fld Z Z.heap w_G_DAY "com/example/knit/knit/exslt/SchemaDateTime$Type" "hasDay" "Z" (.int (1 : Int32)) ∧ Fld Z Z.heap w_G_DAY "com/example/knit/knit/exslt/SchemaDateTime$Type" "hasTime" "Z" (.int (0 : Int32)) ∧ Fld Z Z.heap w_TIME_OF_DAY "com/example/knit/knit/exslt/SchemaDateTime$Type" "hasMonth" "Z" (.int (0 : Int32)) ∧ Fld Z Z.heap w_TIME_OF_DAY "com/example/knit/knit/exslt/SchemaDateTime$Type" "hasDay" "Z" (.int (0 : Int32)) ∧ Fld Z Z.heap w_TIME_OF_DAY "com/example/knit/knit/exslt/SchemaDateTime$Type" "hasTime" "Z" (.int (1 : Int32)) ∧ Fld Z Z.heap w_G_YEAR_MONTH "com/example/knit/knit/exslt/SchemaDateTime$Type" "hasMonth" "Z" (.int (1 : Int32)) ∧ Fld Z Z.heap w_G_YEAR_MONTH "com/example/knit/knit/exslt/SchemaDateTime$Type" "hasDay" "Z" (.int (0 : Int32)) ∧ Fld Z Z.heap w_G_YEAR_MONTH "com/example/knit/knit/exslt/SchemaDateTime$Type" "hasTime" "Z" (.int (0 : Int32)) ∧ Fld Z Z.heap w_DATE "com/example/knit/knit/exslt/SchemaDateTime$Type" "hasMonth" "Z" (.int (1 : Int32)) ∧ Fld Z Z.heap w_DATE "com/example/knit/knit/exslt/SchemaDateTime$Type" "hasDay" "Z" (.int (1 : Int32)) ∧ Fld Z Z.heap w_DATE "com/example/knit/knit/exslt/SchemaDateTime$Type" "hasTime" "Z" (.int (0 : Int32)) ∧ Fld Z Z.heap w_G_MONTH_DAY "com/example/knit/knit/exslt/SchemaDateTime$Type" "hasMonth" "Z" (.int (1 : Int32)) ∧ Fld Z Z.heap w_G_MONTH_DAY "com/example/knit/knit/exslt/SchemaDateTime$Type" "hasDay" "Z" (.int (1 : Int32)) ∧ Fld Z Z.heap w_G_MONTH_DAY "com/example/knit/knit/exslt/SchemaDateTime$Type" "hasTime" "Z" (.int (0 : Int32)) ∧ Fld Z Z.heap w_G_MONTH "com/example/knit/knit/exslt/SchemaDateTime$Type" "hasMonth" "Z" (.int (1 : Int32)) ∧ Fld Z Z.heap w_G_MONTH "com/example/knit/knit/exslt/SchemaDateTime$Type" "hasDay" "Z" (.int (0 : Int32)) ∧ Fld Z Z.heap w_G_MONTH "com/example/knit/knit/exslt/SchemaDateTime$Type" "hasTime" "Z" (.int (0 : Int32))
def bF (b : Int32) : Int32 := if b = (0 : Int32) then (0 : Int32) else (1 : Int32)
theorem own_gt {x : Int32} (h0 : ¬ (x &&& (7 : Int32)) = (0 : Int32)) (h1 : ¬ (x &&& (7 : Int32)) = (1 : Int32)) (h2 : ¬ (x &&& (7 : Int32)) = (2 : Int32)) (h3 : ¬ (x &&& (7 : Int32)) = (3 : Int32)) : (3 : Int32) < (x &&& (7 : Int32)) := by
  have h := c_mask x 7 3 (by decide) (by decide)
  have k0 : ¬ (x &&& (7 : Int32)).toInt = 0 := fun q => h0 (Int32.toInt_inj.mp (by rw [q]; decide))
  have k1 : ¬ (x &&& (7 : Int32)).toInt = 1 := fun q => h1 (Int32.toInt_inj.mp (by rw [q]; decide))
  have k2 : ¬ (x &&& (7 : Int32)).toInt = 2 := fun q => h2 (Int32.toInt_inj.mp (by rw [q]; decide))
  have k3 : ¬ (x &&& (7 : Int32)).toInt = 3 := fun q => h3 (Int32.toInt_inj.mp (by rw [q]; decide))
  rw [Int32.lt_iff_toInt_lt]
  have e : (3 : Int32).toInt = 3 := by decide
  omega
theorem ef_1 (m : MethodId) (x0 : Addr) : entryFrame m #[(.ref x0)] 1 = mkF m 0 #[.val (.ref x0)] [] := by first | (simp [entryFrame, mkF, argsToLocals, Value.category]; done) | rfl
theorem pn_com_example_knit_knit_exslt_SchemaDateTime_Type : plainName "com/example/knit/knit/exslt/SchemaDateTime$Type" = true := by first | (simp [plainName, overriddenIn]; done) | decide +kernel
theorem d1_0 : decode prog_13_method_4_code 0 = .ok (.aload_n 0, 1) := by decide +kernel
theorem d1_1 : decode prog_13_method_4_code 1 = .ok (.getfield 67, 3) := by decide +kernel
theorem d1_4 : decode prog_13_method_4_code 4 = .ok (.ifCond .eq 7, 3) := by decide +kernel
theorem d1_11 : decode prog_13_method_4_code 11 = .ok (.iconst 0, 1) := by decide +kernel
theorem d1_12 : decode prog_13_method_4_code 12 = .ok (.aload_n 0, 1) := by decide +kernel
theorem d1_13 : decode prog_13_method_4_code 13 = .ok (.getfield 70, 3) := by decide +kernel
theorem d1_16 : decode prog_13_method_4_code 16 = .ok (.ifCond .eq 7, 3) := by decide +kernel
theorem d1_23 : decode prog_13_method_4_code 23 = .ok (.iconst 0, 1) := by decide +kernel
theorem d1_24 : decode prog_13_method_4_code 24 = .ok (.iadd, 1) := by decide +kernel
theorem d1_25 : decode prog_13_method_4_code 25 = .ok (.aload_n 0, 1) := by decide +kernel
theorem d1_26 : decode prog_13_method_4_code 26 = .ok (.getfield 73, 3) := by decide +kernel
theorem d1_29 : decode prog_13_method_4_code 29 = .ok (.ifCond .eq 7, 3) := by decide +kernel
theorem d1_36 : decode prog_13_method_4_code 36 = .ok (.iconst 0, 1) := by decide +kernel
theorem d1_37 : decode prog_13_method_4_code 37 = .ok (.iadd, 1) := by decide +kernel
theorem d1_38 : decode prog_13_method_4_code 38 = .ok (.ireturn, 1) := by decide +kernel
theorem d1_32 : decode prog_13_method_4_code 32 = .ok (.iconst 1, 1) := by decide +kernel
theorem d1_33 : decode prog_13_method_4_code 33 = .ok (.goto 4, 3) := by decide +kernel
theorem d1_19 : decode prog_13_method_4_code 19 = .ok (.iconst 1, 1) := by decide +kernel
theorem d1_20 : decode prog_13_method_4_code 20 = .ok (.goto 4, 3) := by decide +kernel
theorem d1_7 : decode prog_13_method_4_code 7 = .ok (.iconst 1, 1) := by decide +kernel
theorem d1_8 : decode prog_13_method_4_code 8 = .ok (.goto 4, 3) := by decide +kernel
def Q_rm_prec (Z : State) (a1 : Addr) (bm bd bt : Int32) (h0 : Heap) (n0 : Nat) (v : Option Value) (h : Heap) (L : List Loc) : Prop := v = some (.int ((bF bm + bF bd) + bF bt)) ∧ Fr n0 L ∧ h = h0
set_option maxRecDepth 65536 in
set_option maxHeartbeats 40000000 in
theorem rm_prec (l : Launch) (Z : State) (a0 : Array Value) (hw : ∀ d ∈ tables_1, d.before a0 Z = true) (ws : List Jvm.Cond) (a1 : Addr) (bm bd bt : Int32) (h0 : Heap) (n0 : Nat) (Z0 : n0 ≤ h0.size) (O0 : Ext Z.heap h0) (F_hasMonth : Fld Z h0 a1 "com/example/knit/knit/exslt/SchemaDateTime$Type" "hasMonth" "Z" (.int bm)) (F_hasDay : Fld Z h0 a1 "com/example/knit/knit/exslt/SchemaDateTime$Type" "hasDay" "Z" (.int bd)) (F_hasTime : Fld Z h0 a1 "com/example/knit/knit/exslt/SchemaDateTime$Type" "hasTime" "Z" (.int bt)) :
    MetFree l (⟨"com/example/knit/knit/exslt/SchemaDateTime$Type", "precision", "()I"⟩ : MethodName) (head1 (Jvm.Cond.code (⟨"com/example/knit/knit/exslt/SchemaDateTime$Type", "precision", "()I"⟩ : MethodName) prog_13_method_4_code 1 (some .int) :: ws) ({ frames := 0, cells := 0, slots := 0, locals := 0 } : Room)) (fun a U => a = #[(.ref a1)] ∧ Z.Warmed39 U.vm ∧ U.heap = h0) (fun _ _ _ _ _ => True) (fun _ U o U' => ∃ v L, o = .returned v ∧ Q_rm_prec Z a1 bm bd bt h0 n0 v U'.heap L ∧ FrameEnd U o U' L ({ frames := 0, cells := 0, slots := 0, locals := 0 } : Room).cells ({ frames := 0, cells := 0, slots := 0, locals := 0 } : Room).slots) := by
  refine MetFree.of_bodySF (plainFor_of_name pn_com_example_knit_knit_exslt_SchemaDateTime_Type) hisR ?_
  intro p e s m args below meth c s₁ Bd hml0 hP hK
  obtain ⟨rfl, hZ, hh⟩ := hP
  have hx := Bd.exec
  have hby := Bd.bytes
  have hml : c.maxLocals = 1 := hml0
  have hown : s.vm.findClass "com/example/knit/knit/exslt/SchemaDateTime$Type" = some m.cls := findClass_of_methodNamed Bd.named
  have hnm := (name_of_methodNamed Bd.named Bd.method).1
  have X0 : Stand p l e ({ frames := 0, cells := 0, slots := 0, locals := 0 } : Room) s m #[(.ref a1)] below meth c s₁ [] 0 0 := Stand.of_body Bd
  have e0 : s₁.heap = h0 := by rw [← hh, Bd.state]; rfl
  have N0 := Fr.nil n0
  have pre0 : ∀ t, Steps p.tables e below (s₁.setTop (mkF m 0 #[.val (.ref a1)] [])) t → Steps p.tables e below (s₁.setTop (entryFrame m #[(.ref a1)] 1)) t := fun t k => castTop (ef_1 m a1) k
  have pre1 : ∀ t, Steps p.tables e below (s₁.setTop (mkF m 1 #[.val (.ref a1)] [(.ref a1)])) t → Steps p.tables e below (s₁.setTop (entryFrame m #[(.ref a1)] 1)) t := fun t k => pre0 t (by
    show Steps p.tables e below (s₁.setTop (mkF m 0 #[.val (.ref a1)] [])) _
    refine XS.aloadN X0.here hx rfl (hb hby d1_0) rfl rfl ?_
    exact k)
  obtain ⟨T2, X2, e2, st2⟩ := getF X0 hx hZ hown (host := "") (Or.inl (hw _ (List.mem_of_getElem? (i := 8) rfl))) Via.refl e0 F_hasMonth (g := (mkF m 1 #[.val (.ref a1)] [(.ref a1)])) rfl rfl (hb hby d1_1)
  have pre3 : ∀ t, Steps p.tables e below (T2.setTop (mkF m 4 #[.val (.ref a1)] [(.int bm)])) t → Steps p.tables e below (s₁.setTop (entryFrame m #[(.ref a1)] 1)) t := fun t k => pre1 t (st2 t k)
  by_cases hc4_4 : bm = (0 : Int32)
  · have pre5 : ∀ t, Steps p.tables e below (T2.setTop (mkF m 13 #[.val (.ref a1)] [(.ref a1), (.int (0 : Int32))])) t → Steps p.tables e below (s₁.setTop (entryFrame m #[(.ref a1)] 1)) t := fun t k => pre3 t (by
      show Steps p.tables e below (T2.setTop (mkF m 4 #[.val (.ref a1)] [(.int bm)])) _
      refine XS.ifYes X2.here hx rfl (pc0 := 4) (pc' := 11) rfl (hb hby d1_4) rfl ((if0 _ _).trans (teq hc4_4).1) (by decide) (by decide) ?_
      show Steps p.tables e below (T2.setTop (mkF m 11 #[.val (.ref a1)] [])) _
      refine XS.iconst X2.here hx rfl (hb hby d1_11) ?_
      show Steps p.tables e below (T2.setTop (mkF m 12 #[.val (.ref a1)] [(.int (0 : Int32))])) _
      refine XS.aloadN X2.here hx rfl (hb hby d1_12) rfl rfl ?_
      exact k)
    obtain ⟨T6, X6, e6, st6⟩ := getF X2 hx hZ hown (host := "") (Or.inl (hw _ (List.mem_of_getElem? (i := 10) rfl))) Via.refl e2 F_hasDay (g := (mkF m 13 #[.val (.ref a1)] [(.ref a1), (.int (0 : Int32))])) rfl rfl (hb hby d1_13)
    have pre7 : ∀ t, Steps p.tables e below (T6.setTop (mkF m 16 #[.val (.ref a1)] [(.int bd), (.int (0 : Int32))])) t → Steps p.tables e below (s₁.setTop (entryFrame m #[(.ref a1)] 1)) t := fun t k => pre5 t (st6 t k)
    by_cases hc16_8 : bd = (0 : Int32)
    · have pre9 : ∀ t, Steps p.tables e below (T6.setTop (mkF m 26 #[.val (.ref a1)] [(.ref a1), (.int ((0 : Int32) + (0 : Int32)))])) t → Steps p.tables e below (s₁.setTop (entryFrame m #[(.ref a1)] 1)) t := fun t k => pre7 t (by
        show Steps p.tables e below (T6.setTop (mkF m 16 #[.val (.ref a1)] [(.int bd), (.int (0 : Int32))])) _
        refine XS.ifYes X6.here hx rfl (pc0 := 16) (pc' := 23) rfl (hb hby d1_16) rfl ((if0 _ _).trans (teq hc16_8).1) (by decide) (by decide) ?_
        show Steps p.tables e below (T6.setTop (mkF m 23 #[.val (.ref a1)] [(.int (0 : Int32))])) _
        refine XS.iconst X6.here hx rfl (hb hby d1_23) ?_
        show Steps p.tables e below (T6.setTop (mkF m 24 #[.val (.ref a1)] [(.int (0 : Int32)), (.int (0 : Int32))])) _
        refine XS.iadd X6.here hx rfl (hb hby d1_24) rfl ?_
        show Steps p.tables e below (T6.setTop (mkF m 25 #[.val (.ref a1)] [(.int ((0 : Int32) + (0 : Int32)))])) _
        refine XS.aloadN X6.here hx rfl (hb hby d1_25) rfl rfl ?_
        exact k)
      obtain ⟨T10, X10, e10, st10⟩ := getF X6 hx hZ hown (host := "") (Or.inl (hw _ (List.mem_of_getElem? (i := 12) rfl))) Via.refl e6 F_hasTime (g := (mkF m 26 #[.val (.ref a1)] [(.ref a1), (.int ((0 : Int32) + (0 : Int32)))])) rfl rfl (hb hby d1_26)
      have pre11 : ∀ t, Steps p.tables e below (T10.setTop (mkF m 29 #[.val (.ref a1)] [(.int bt), (.int ((0 : Int32) + (0 : Int32)))])) t → Steps p.tables e below (s₁.setTop (entryFrame m #[(.ref a1)] 1)) t := fun t k => pre9 t (st10 t k)
      by_cases hc29_12 : bt = (0 : Int32)
      · have pre13 : ∀ t, Steps p.tables e below (T10.setTop (mkF m 38 #[.val (.ref a1)] [(.int (((0 : Int32) + (0 : Int32)) + (0 : Int32)))])) t → Steps p.tables e below (s₁.setTop (entryFrame m #[(.ref a1)] 1)) t := fun t k => pre11 t (by
          show Steps p.tables e below (T10.setTop (mkF m 29 #[.val (.ref a1)] [(.int bt), (.int ((0 : Int32) + (0 : Int32)))])) _
          refine XS.ifYes X10.here hx rfl (pc0 := 29) (pc' := 36) rfl (hb hby d1_29) rfl ((if0 _ _).trans (teq hc29_12).1) (by decide) (by decide) ?_
          show Steps p.tables e below (T10.setTop (mkF m 36 #[.val (.ref a1)] [(.int ((0 : Int32) + (0 : Int32)))])) _
          refine XS.iconst X10.here hx rfl (hb hby d1_36) ?_
          show Steps p.tables e below (T10.setTop (mkF m 37 #[.val (.ref a1)] [(.int (0 : Int32)), (.int ((0 : Int32) + (0 : Int32)))])) _
          refine XS.iadd X10.here hx rfl (hb hby d1_37) rfl ?_
          exact k)
        obtain ⟨fs, hr, hrun, hended, hW, hsame⟩ := X10.leave (v := some (.int (((0 : Int32) + (0 : Int32)) + (0 : Int32)))) (fun h => by rw [Bd.returns] at h; cases h)
        refine ⟨_, _, pre13 _ ?_, hrun, hended, _, _, rfl, ?_, ⟨_, rfl⟩, hW, hsame.mono (by decide) (by decide)⟩
        · exact retI X10 hx Bd.returns (hb hby d1_38) hr
        · show Q_rm_prec Z a1 bm bd bt h0 n0 _ T10.heap _
          rw [e10]
          exact ⟨(by simp [bF, hc4_4, hc16_8, hc29_12]), N0, rfl⟩
      · have pre14 : ∀ t, Steps p.tables e below (T10.setTop (mkF m 38 #[.val (.ref a1)] [(.int (((0 : Int32) + (0 : Int32)) + (1 : Int32)))])) t → Steps p.tables e below (s₁.setTop (entryFrame m #[(.ref a1)] 1)) t := fun t k => pre11 t (by
          show Steps p.tables e below (T10.setTop (mkF m 29 #[.val (.ref a1)] [(.int bt), (.int ((0 : Int32) + (0 : Int32)))])) _
          refine XS.ifNo X10.here hx rfl (hb hby d1_29) rfl ((if0 _ _).trans (feq hc29_12).1) ?_
          show Steps p.tables e below (T10.setTop (mkF m 32 #[.val (.ref a1)] [(.int ((0 : Int32) + (0 : Int32)))])) _
          refine XS.iconst X10.here hx rfl (hb hby d1_32) ?_
          show Steps p.tables e below (T10.setTop (mkF m 33 #[.val (.ref a1)] [(.int (1 : Int32)), (.int ((0 : Int32) + (0 : Int32)))])) _
          refine XS.goto X10.here hx rfl (pc0 := 33) (pc' := 37) rfl (hb hby d1_33) (by decide) (by decide) ?_
          show Steps p.tables e below (T10.setTop (mkF m 37 #[.val (.ref a1)] [(.int (1 : Int32)), (.int ((0 : Int32) + (0 : Int32)))])) _
          refine XS.iadd X10.here hx rfl (hb hby d1_37) rfl ?_
          exact k)
        obtain ⟨fs, hr, hrun, hended, hW, hsame⟩ := X10.leave (v := some (.int (((0 : Int32) + (0 : Int32)) + (1 : Int32)))) (fun h => by rw [Bd.returns] at h; cases h)
        refine ⟨_, _, pre14 _ ?_, hrun, hended, _, _, rfl, ?_, ⟨_, rfl⟩, hW, hsame.mono (by decide) (by decide)⟩
        · exact retI X10 hx Bd.returns (hb hby d1_38) hr
        · show Q_rm_prec Z a1 bm bd bt h0 n0 _ T10.heap _
          rw [e10]
          exact ⟨(by simp [bF, hc4_4, hc16_8, hc29_12]), N0, rfl⟩
    · have pre15 : ∀ t, Steps p.tables e below (T6.setTop (mkF m 26 #[.val (.ref a1)] [(.ref a1), (.int ((0 : Int32) + (1 : Int32)))])) t → Steps p.tables e below (s₁.setTop (entryFrame m #[(.ref a1)] 1)) t := fun t k => pre7 t (by
        show Steps p.tables e below (T6.setTop (mkF m 16 #[.val (.ref a1)] [(.int bd), (.int (0 : Int32))])) _
        refine XS.ifNo X6.here hx rfl (hb hby d1_16) rfl ((if0 _ _).trans (feq hc16_8).1) ?_
        show Steps p.tables e below (T6.setTop (mkF m 19 #[.val (.ref a1)] [(.int (0 : Int32))])) _
        refine XS.iconst X6.here hx rfl (hb hby d1_19) ?_
        show Steps p.tables e below (T6.setTop (mkF m 20 #[.val (.ref a1)] [(.int (1 : Int32)), (.int (0 : Int32))])) _
        refine XS.goto X6.here hx rfl (pc0 := 20) (pc' := 24) rfl (hb hby d1_20) (by decide) (by decide) ?_
        show Steps p.tables e below (T6.setTop (mkF m 24 #[.val (.ref a1)] [(.int (1 : Int32)), (.int (0 : Int32))])) _
        refine XS.iadd X6.here hx rfl (hb hby d1_24) rfl ?_
        show Steps p.tables e below (T6.setTop (mkF m 25 #[.val (.ref a1)] [(.int ((0 : Int32) + (1 : Int32)))])) _
        refine XS.aloadN X6.here hx rfl (hb hby d1_25) rfl rfl ?_
        exact k)
      obtain ⟨T16, X16, e16, st16⟩ := getF X6 hx hZ hown (host := "") (Or.inl (hw _ (List.mem_of_getElem? (i := 12) rfl))) Via.refl e6 F_hasTime (g := (mkF m 26 #[.val (.ref a1)] [(.ref a1), (.int ((0 : Int32) + (1 : Int32)))])) rfl rfl (hb hby d1_26)
      have pre17 : ∀ t, Steps p.tables e below (T16.setTop (mkF m 29 #[.val (.ref a1)] [(.int bt), (.int ((0 : Int32) + (1 : Int32)))])) t → Steps p.tables e below (s₁.setTop (entryFrame m #[(.ref a1)] 1)) t := fun t k => pre15 t (st16 t k)
      by_cases hc29_18 : bt = (0 : Int32)
      · have pre19 : ∀ t, Steps p.tables e below (T16.setTop (mkF m 38 #[.val (.ref a1)] [(.int (((0 : Int32) + (1 : Int32)) + (0 : Int32)))])) t → Steps p.tables e below (s₁.setTop (entryFrame m #[(.ref a1)] 1)) t := fun t k => pre17 t (by
          show Steps p.tables e below (T16.setTop (mkF m 29 #[.val (.ref a1)] [(.int bt), (.int ((0 : Int32) + (1 : Int32)))])) _
          refine XS.ifYes X16.here hx rfl (pc0 := 29) (pc' := 36) rfl (hb hby d1_29) rfl ((if0 _ _).trans (teq hc29_18).1) (by decide) (by decide) ?_
          show Steps p.tables e below (T16.setTop (mkF m 36 #[.val (.ref a1)] [(.int ((0 : Int32) + (1 : Int32)))])) _
          refine XS.iconst X16.here hx rfl (hb hby d1_36) ?_
          show Steps p.tables e below (T16.setTop (mkF m 37 #[.val (.ref a1)] [(.int (0 : Int32)), (.int ((0 : Int32) + (1 : Int32)))])) _
          refine XS.iadd X16.here hx rfl (hb hby d1_37) rfl ?_
          exact k)
        obtain ⟨fs, hr, hrun, hended, hW, hsame⟩ := X16.leave (v := some (.int (((0 : Int32) + (1 : Int32)) + (0 : Int32)))) (fun h => by rw [Bd.returns] at h; cases h)
        refine ⟨_, _, pre19 _ ?_, hrun, hended, _, _, rfl, ?_, ⟨_, rfl⟩, hW, hsame.mono (by decide) (by decide)⟩
        · exact retI X16 hx Bd.returns (hb hby d1_38) hr
        · show Q_rm_prec Z a1 bm bd bt h0 n0 _ T16.heap _
          rw [e16]
          exact ⟨(by simp [bF, hc4_4, hc16_8, hc29_18]), N0, rfl⟩
      · have pre20 : ∀ t, Steps p.tables e below (T16.setTop (mkF m 38 #[.val (.ref a1)] [(.int (((0 : Int32) + (1 : Int32)) + (1 : Int32)))])) t → Steps p.tables e below (s₁.setTop (entryFrame m #[(.ref a1)] 1)) t := fun t k => pre17 t (by
          show Steps p.tables e below (T16.setTop (mkF m 29 #[.val (.ref a1)] [(.int bt), (.int ((0 : Int32) + (1 : Int32)))])) _
          refine XS.ifNo X16.here hx rfl (hb hby d1_29) rfl ((if0 _ _).trans (feq hc29_18).1) ?_
          show Steps p.tables e below (T16.setTop (mkF m 32 #[.val (.ref a1)] [(.int ((0 : Int32) + (1 : Int32)))])) _
          refine XS.iconst X16.here hx rfl (hb hby d1_32) ?_
          show Steps p.tables e below (T16.setTop (mkF m 33 #[.val (.ref a1)] [(.int (1 : Int32)), (.int ((0 : Int32) + (1 : Int32)))])) _
          refine XS.goto X16.here hx rfl (pc0 := 33) (pc' := 37) rfl (hb hby d1_33) (by decide) (by decide) ?_
          show Steps p.tables e below (T16.setTop (mkF m 37 #[.val (.ref a1)] [(.int (1 : Int32)), (.int ((0 : Int32) + (1 : Int32)))])) _
          refine XS.iadd X16.here hx rfl (hb hby d1_37) rfl ?_
          exact k)
        obtain ⟨fs, hr, hrun, hended, hW, hsame⟩ := X16.leave (v := some (.int (((0 : Int32) + (1 : Int32)) + (1 : Int32)))) (fun h => by rw [Bd.returns] at h; cases h)
        refine ⟨_, _, pre20 _ ?_, hrun, hended, _, _, rfl, ?_, ⟨_, rfl⟩, hW, hsame.mono (by decide) (by decide)⟩
        · exact retI X16 hx Bd.returns (hb hby d1_38) hr
        · show Q_rm_prec Z a1 bm bd bt h0 n0 _ T16.heap _
          rw [e16]
          exact ⟨(by simp [bF, hc4_4, hc16_8, hc29_18]), N0, rfl⟩
  · have pre21 : ∀ t, Steps p.tables e below (T2.setTop (mkF m 13 #[.val (.ref a1)] [(.ref a1), (.int (1 : Int32))])) t → Steps p.tables e below (s₁.setTop (entryFrame m #[(.ref a1)] 1)) t := fun t k => pre3 t (by
      show Steps p.tables e below (T2.setTop (mkF m 4 #[.val (.ref a1)] [(.int bm)])) _
      refine XS.ifNo X2.here hx rfl (hb hby d1_4) rfl ((if0 _ _).trans (feq hc4_4).1) ?_
      show Steps p.tables e below (T2.setTop (mkF m 7 #[.val (.ref a1)] [])) _
      refine XS.iconst X2.here hx rfl (hb hby d1_7) ?_
      show Steps p.tables e below (T2.setTop (mkF m 8 #[.val (.ref a1)] [(.int (1 : Int32))])) _
      refine XS.goto X2.here hx rfl (pc0 := 8) (pc' := 12) rfl (hb hby d1_8) (by decide) (by decide) ?_
      show Steps p.tables e below (T2.setTop (mkF m 12 #[.val (.ref a1)] [(.int (1 : Int32))])) _
      refine XS.aloadN X2.here hx rfl (hb hby d1_12) rfl rfl ?_
      exact k)
    obtain ⟨T22, X22, e22, st22⟩ := getF X2 hx hZ hown (host := "") (Or.inl (hw _ (List.mem_of_getElem? (i := 10) rfl))) Via.refl e2 F_hasDay (g := (mkF m 13 #[.val (.ref a1)] [(.ref a1), (.int (1 : Int32))])) rfl rfl (hb hby d1_13)
    have pre23 : ∀ t, Steps p.tables e below (T22.setTop (mkF m 16 #[.val (.ref a1)] [(.int bd), (.int (1 : Int32))])) t → Steps p.tables e below (s₁.setTop (entryFrame m #[(.ref a1)] 1)) t := fun t k => pre21 t (st22 t k)
    by_cases hc16_24 : bd = (0 : Int32)
    · have pre25 : ∀ t, Steps p.tables e below (T22.setTop (mkF m 26 #[.val (.ref a1)] [(.ref a1), (.int ((1 : Int32) + (0 : Int32)))])) t → Steps p.tables e below (s₁.setTop (entryFrame m #[(.ref a1)] 1)) t := fun t k => pre23 t (by
        show Steps p.tables e below (T22.setTop (mkF m 16 #[.val (.ref a1)] [(.int bd), (.int (1 : Int32))])) _
        refine XS.ifYes X22.here hx rfl (pc0 := 16) (pc' := 23) rfl (hb hby d1_16) rfl ((if0 _ _).trans (teq hc16_24).1) (by decide) (by decide) ?_
        show Steps p.tables e below (T22.setTop (mkF m 23 #[.val (.ref a1)] [(.int (1 : Int32))])) _
        refine XS.iconst X22.here hx rfl (hb hby d1_23) ?_
        show Steps p.tables e below (T22.setTop (mkF m 24 #[.val (.ref a1)] [(.int (0 : Int32)), (.int (1 : Int32))])) _
        refine XS.iadd X22.here hx rfl (hb hby d1_24) rfl ?_
        show Steps p.tables e below (T22.setTop (mkF m 25 #[.val (.ref a1)] [(.int ((1 : Int32) + (0 : Int32)))])) _
        refine XS.aloadN X22.here hx rfl (hb hby d1_25) rfl rfl ?_
        exact k)
      obtain ⟨T26, X26, e26, st26⟩ := getF X22 hx hZ hown (host := "") (Or.inl (hw _ (List.mem_of_getElem? (i := 12) rfl))) Via.refl e22 F_hasTime (g := (mkF m 26 #[.val (.ref a1)] [(.ref a1), (.int ((1 : Int32) + (0 : Int32)))])) rfl rfl (hb hby d1_26)
      have pre27 : ∀ t, Steps p.tables e below (T26.setTop (mkF m 29 #[.val (.ref a1)] [(.int bt), (.int ((1 : Int32) + (0 : Int32)))])) t → Steps p.tables e below (s₁.setTop (entryFrame m #[(.ref a1)] 1)) t := fun t k => pre25 t (st26 t k)
      by_cases hc29_28 : bt = (0 : Int32)
      · have pre29 : ∀ t, Steps p.tables e below (T26.setTop (mkF m 38 #[.val (.ref a1)] [(.int (((1 : Int32) + (0 : Int32)) + (0 : Int32)))])) t → Steps p.tables e below (s₁.setTop (entryFrame m #[(.ref a1)] 1)) t := fun t k => pre27 t (by
          show Steps p.tables e below (T26.setTop (mkF m 29 #[.val (.ref a1)] [(.int bt), (.int ((1 : Int32) + (0 : Int32)))])) _
          refine XS.ifYes X26.here hx rfl (pc0 := 29) (pc' := 36) rfl (hb hby d1_29) rfl ((if0 _ _).trans (teq hc29_28).1) (by decide) (by decide) ?_
          show Steps p.tables e below (T26.setTop (mkF m 36 #[.val (.ref a1)] [(.int ((1 : Int32) + (0 : Int32)))])) _
          refine XS.iconst X26.here hx rfl (hb hby d1_36) ?_
          show Steps p.tables e below (T26.setTop (mkF m 37 #[.val (.ref a1)] [(.int (0 : Int32)), (.int ((1 : Int32) + (0 : Int32)))])) _
          refine XS.iadd X26.here hx rfl (hb hby d1_37) rfl ?_
          exact k)
        obtain ⟨fs, hr, hrun, hended, hW, hsame⟩ := X26.leave (v := some (.int (((1 : Int32) + (0 : Int32)) + (0 : Int32)))) (fun h => by rw [Bd.returns] at h; cases h)
        refine ⟨_, _, pre29 _ ?_, hrun, hended, _, _, rfl, ?_, ⟨_, rfl⟩, hW, hsame.mono (by decide) (by decide)⟩
        · exact retI X26 hx Bd.returns (hb hby d1_38) hr
        · show Q_rm_prec Z a1 bm bd bt h0 n0 _ T26.heap _
          rw [e26]
          exact ⟨(by simp [bF, hc4_4, hc16_24, hc29_28]), N0, rfl⟩
      · have pre30 : ∀ t, Steps p.tables e below (T26.setTop (mkF m 38 #[.val (.ref a1)] [(.int (((1 : Int32) + (0 : Int32)) + (1 : Int32)))])) t → Steps p.tables e below (s₁.setTop (entryFrame m #[(.ref a1)] 1)) t := fun t k => pre27 t (by
          show Steps p.tables e below (T26.setTop (mkF m 29 #[.val (.ref a1)] [(.int bt), (.int ((1 : Int32) + (0 : Int32)))])) _
          refine XS.ifNo X26.here hx rfl (hb hby d1_29) rfl ((if0 _ _).trans (feq hc29_28).1) ?_
          show Steps p.tables e below (T26.setTop (mkF m 32 #[.val (.ref a1)] [(.int ((1 : Int32) + (0 : Int32)))])) _
          refine XS.iconst X26.here hx rfl (hb hby d1_32) ?_
          show Steps p.tables e below (T26.setTop (mkF m 33 #[.val (.ref a1)] [(.int (1 : Int32)), (.int ((1 : Int32) + (0 : Int32)))])) _
          refine XS.goto X26.here hx rfl (pc0 := 33) (pc' := 37) rfl (hb hby d1_33) (by decide) (by decide) ?_
          show Steps p.tables e below (T26.setTop (mkF m 37 #[.val (.ref a1)] [(.int (1 : Int32)), (.int ((1 : Int32) + (0 : Int32)))])) _
          refine XS.iadd X26.here hx rfl (hb hby d1_37) rfl ?_
          exact k)
        obtain ⟨fs, hr, hrun, hended, hW, hsame⟩ := X26.leave (v := some (.int (((1 : Int32) + (0 : Int32)) + (1 : Int32)))) (fun h => by rw [Bd.returns] at h; cases h)
        refine ⟨_, _, pre30 _ ?_, hrun, hended, _, _, rfl, ?_, ⟨_, rfl⟩, hW, hsame.mono (by decide) (by decide)⟩
        · exact retI X26 hx Bd.returns (hb hby d1_38) hr
        · show Q_rm_prec Z a1 bm bd bt h0 n0 _ T26.heap _
          rw [e26]
          exact ⟨(by simp [bF, hc4_4, hc16_24, hc29_28]), N0, rfl⟩
    · have pre31 : ∀ t, Steps p.tables e below (T22.setTop (mkF m 26 #[.val (.ref a1)] [(.ref a1), (.int ((1 : Int32) + (1 : Int32)))])) t → Steps p.tables e below (s₁.setTop (entryFrame m #[(.ref a1)] 1)) t := fun t k => pre23 t (by
        show Steps p.tables e below (T22.setTop (mkF m 16 #[.val (.ref a1)] [(.int bd), (.int (1 : Int32))])) _
        refine XS.ifNo X22.here hx rfl (hb hby d1_16) rfl ((if0 _ _).trans (feq hc16_24).1) ?_
        show Steps p.tables e below (T22.setTop (mkF m 19 #[.val (.ref a1)] [(.int (1 : Int32))])) _
        refine XS.iconst X22.here hx rfl (hb hby d1_19) ?_
        show Steps p.tables e below (T22.setTop (mkF m 20 #[.val (.ref a1)] [(.int (1 : Int32)), (.int (1 : Int32))])) _
        refine XS.goto X22.here hx rfl (pc0 := 20) (pc' := 24) rfl (hb hby d1_20) (by decide) (by decide) ?_
        show Steps p.tables e below (T22.setTop (mkF m 24 #[.val (.ref a1)] [(.int (1 : Int32)), (.int (1 : Int32))])) _
        refine XS.iadd X22.here hx rfl (hb hby d1_24) rfl ?_
        show Steps p.tables e below (T22.setTop (mkF m 25 #[.val (.ref a1)] [(.int ((1 : Int32) + (1 : Int32)))])) _
        refine XS.aloadN X22.here hx rfl (hb hby d1_25) rfl rfl ?_
        exact k)
      obtain ⟨T32, X32, e32, st32⟩ := getF X22 hx hZ hown (host := "") (Or.inl (hw _ (List.mem_of_getElem? (i := 12) rfl))) Via.refl e22 F_hasTime (g := (mkF m 26 #[.val (.ref a1)] [(.ref a1), (.int ((1 : Int32) + (1 : Int32)))])) rfl rfl (hb hby d1_26)
      have pre33 : ∀ t, Steps p.tables e below (T32.setTop (mkF m 29 #[.val (.ref a1)] [(.int bt), (.int ((1 : Int32) + (1 : Int32)))])) t → Steps p.tables e below (s₁.setTop (entryFrame m #[(.ref a1)] 1)) t := fun t k => pre31 t (st32 t k)
      by_cases hc29_34 : bt = (0 : Int32)
      · have pre35 : ∀ t, Steps p.tables e below (T32.setTop (mkF m 38 #[.val (.ref a1)] [(.int (((1 : Int32) + (1 : Int32)) + (0 : Int32)))])) t → Steps p.tables e below (s₁.setTop (entryFrame m #[(.ref a1)] 1)) t := fun t k => pre33 t (by
          show Steps p.tables e below (T32.setTop (mkF m 29 #[.val (.ref a1)] [(.int bt), (.int ((1 : Int32) + (1 : Int32)))])) _
          refine XS.ifYes X32.here hx rfl (pc0 := 29) (pc' := 36) rfl (hb hby d1_29) rfl ((if0 _ _).trans (teq hc29_34).1) (by decide) (by decide) ?_
          show Steps p.tables e below (T32.setTop (mkF m 36 #[.val (.ref a1)] [(.int ((1 : Int32) + (1 : Int32)))])) _
          refine XS.iconst X32.here hx rfl (hb hby d1_36) ?_
          show Steps p.tables e below (T32.setTop (mkF m 37 #[.val (.ref a1)] [(.int (0 : Int32)), (.int ((1 : Int32) + (1 : Int32)))])) _
          refine XS.iadd X32.here hx rfl (hb hby d1_37) rfl ?_
          exact k)
        obtain ⟨fs, hr, hrun, hended, hW, hsame⟩ := X32.leave (v := some (.int (((1 : Int32) + (1 : Int32)) + (0 : Int32)))) (fun h => by rw [Bd.returns] at h; cases h)
        refine ⟨_, _, pre35 _ ?_, hrun, hended, _, _, rfl, ?_, ⟨_, rfl⟩, hW, hsame.mono (by decide) (by decide)⟩
        · exact retI X32 hx Bd.returns (hb hby d1_38) hr
        · show Q_rm_prec Z a1 bm bd bt h0 n0 _ T32.heap _
          rw [e32]
          exact ⟨(by simp [bF, hc4_4, hc16_24, hc29_34]), N0, rfl⟩
      · have pre36 : ∀ t, Steps p.tables e below (T32.setTop (mkF m 38 #[.val (.ref a1)] [(.int (((1 : Int32) + (1 : Int32)) + (1 : Int32)))])) t → Steps p.tables e below (s₁.setTop (entryFrame m #[(.ref a1)] 1)) t := fun t k => pre33 t (by
          show Steps p.tables e below (T32.setTop (mkF m 29 #[.val (.ref a1)] [(.int bt), (.int ((1 : Int32) + (1 : Int32)))])) _
          refine XS.ifNo X32.here hx rfl (hb hby d1_29) rfl ((if0 _ _).trans (feq hc29_34).1) ?_
          show Steps p.tables e below (T32.setTop (mkF m 32 #[.val (.ref a1)] [(.int ((1 : Int32) + (1 : Int32)))])) _
          refine XS.iconst X32.here hx rfl (hb hby d1_32) ?_
          show Steps p.tables e below (T32.setTop (mkF m 33 #[.val (.ref a1)] [(.int (1 : Int32)), (.int ((1 : Int32) + (1 : Int32)))])) _
          refine XS.goto X32.here hx rfl (pc0 := 33) (pc' := 37) rfl (hb hby d1_33) (by decide) (by decide) ?_
          show Steps p.tables e below (T32.setTop (mkF m 37 #[.val (.ref a1)] [(.int (1 : Int32)), (.int ((1 : Int32) + (1 : Int32)))])) _
          refine XS.iadd X32.here hx rfl (hb hby d1_37) rfl ?_
          exact k)
        obtain ⟨fs, hr, hrun, hended, hW, hsame⟩ := X32.leave (v := some (.int (((1 : Int32) + (1 : Int32)) + (1 : Int32)))) (fun h => by rw [Bd.returns] at h; cases h)
        refine ⟨_, _, pre36 _ ?_, hrun, hended, _, _, rfl, ?_, ⟨_, rfl⟩, hW, hsame.mono (by decide) (by decide)⟩
        · exact retI X32 hx Bd.returns (hb hby d1_38) hr
        · show Q_rm_prec Z a1 bm bd bt h0 n0 _ T32.heap _
          rw [e32]
          exact ⟨(by simp [bF, hc4_4, hc16_24, hc29_34]), N0, rfl⟩
theorem ef_2 (m : MethodId) (x0 : Int32) : entryFrame m #[(.int x0)] 1 = mkF m 0 #[.val (.int x0)] [] := by first | (simp [entryFrame, mkF, argsToLocals, Value.category]; done) | rfl
theorem d2_0 : decode prog_13_method_5_code 0 = .ok (.iload_n 0, 1) := by decide +kernel
theorem own_out_0_2 {x : Int32} (h0 : ¬ x = (0 : Int32)) (h1 : ¬ x = (1 : Int32)) (h2 : ¬ x = (2 : Int32)) : x.toInt < 0 ∨ x.toInt > 2 := by
  have k0 : ¬ x.toInt = 0 := fun q => h0 (Int32.toInt_inj.mp (by rw [q]; decide))
  have k1 : ¬ x.toInt = 1 := fun q => h1 (Int32.toInt_inj.mp (by rw [q]; decide))
  have k2 : ¬ x.toInt = 2 := fun q => h2 (Int32.toInt_inj.mp (by rw [q]; decide))
  omega
theorem d2_1 : decode prog_13_method_5_code 1 = .ok (.tableswitch 45 0 2 #[27, 33, 39], 27) := by decide +kernel
theorem d2_28 : decode prog_13_method_5_code 28 = .ok (.getstatic 15, 3) := by decide +kernel
theorem d2_31 : decode prog_13_method_5_code 31 = .ok (.goto 18, 3) := by decide +kernel
theorem d2_49 : decode prog_13_method_5_code 49 = .ok (.areturn, 1) := by decide +kernel
theorem d2_34 : decode prog_13_method_5_code 34 = .ok (.getstatic 12, 3) := by decide +kernel
theorem d2_37 : decode prog_13_method_5_code 37 = .ok (.goto 12, 3) := by decide +kernel
theorem d2_40 : decode prog_13_method_5_code 40 = .ok (.getstatic 9, 3) := by decide +kernel
theorem d2_43 : decode prog_13_method_5_code 43 = .ok (.goto 6, 3) := by decide +kernel
theorem d2_46 : decode prog_13_method_5_code 46 = .ok (.getstatic 5, 3) := by decide +kernel
def Q_rm_ofp (Z : State) (p1 : Int32) (w_DATE_TIME w_G_YEAR w_G_DAY w_TIME_OF_DAY w_G_YEAR_MONTH w_DATE w_G_MONTH_DAY w_G_MONTH : Addr) (h0 : Heap) (n0 : Nat) (v : Option Value) (h : Heap) (L : List Loc) : Prop := v = some (.ref (if p1 = (0 : Int32) then w_G_YEAR else if p1 = (1 : Int32) then w_G_YEAR_MONTH else if p1 = (2 : Int32) then w_DATE else w_DATE_TIME)) ∧ Fr n0 L ∧ h = h0
set_option maxRecDepth 65536 in
set_option maxHeartbeats 40000000 in
theorem rm_ofp (l : Launch) (Z : State) (a0 : Array Value) (hw : ∀ d ∈ tables_1, d.before a0 Z = true) (ws : List Jvm.Cond) (p1 : Int32) (w_DATE_TIME w_G_YEAR w_G_DAY w_TIME_OF_DAY w_G_YEAR_MONTH w_DATE w_G_MONTH_DAY w_G_MONTH : Addr) (h0 : Heap) (n0 : Nat) (Z0 : n0 ≤ h0.size) (O0 : Ext Z.heap h0) (P : Pins Z w_DATE_TIME w_G_YEAR w_G_DAY w_TIME_OF_DAY w_G_YEAR_MONTH w_DATE w_G_MONTH_DAY w_G_MONTH) :
    MetFree l (⟨"com/example/knit/knit/exslt/SchemaDateTime$Type", "ofPrecision", "(I)Lcom/example/knit/knit/exslt/SchemaDateTime$Type;"⟩ : MethodName) (head1 (Jvm.Cond.code (⟨"com/example/knit/knit/exslt/SchemaDateTime$Type", "ofPrecision", "(I)Lcom/example/knit/knit/exslt/SchemaDateTime$Type;"⟩ : MethodName) prog_13_method_5_code 1 (some (.object "com/example/knit/knit/exslt/SchemaDateTime$Type")) :: ws) ({ frames := 0, cells := 0, slots := 0, locals := 0 } : Room)) (fun a U => a = #[(.int p1)] ∧ Z.Warmed39 U.vm ∧ U.heap = h0) (fun _ _ _ _ _ => True) (fun _ U o U' => ∃ v L, o = .returned v ∧ Q_rm_ofp Z p1 w_DATE_TIME w_G_YEAR w_G_DAY w_TIME_OF_DAY w_G_YEAR_MONTH w_DATE w_G_MONTH_DAY w_G_MONTH h0 n0 v U'.heap L ∧ FrameEnd U o U' L ({ frames := 0, cells := 0, slots := 0, locals := 0 } : Room).cells ({ frames := 0, cells := 0, slots := 0, locals := 0 } : Room).slots) := by
  refine MetFree.of_bodySF (plainFor_of_name pn_com_example_knit_knit_exslt_SchemaDateTime_Type) hisR ?_
  intro p e s m args below meth c s₁ Bd hml0 hP hK
  obtain ⟨rfl, hZ, hh⟩ := hP
  have hx := Bd.exec
  have hby := Bd.bytes
  have hml : c.maxLocals = 1 := hml0
  have hown : s.vm.findClass "com/example/knit/knit/exslt/SchemaDateTime$Type" = some m.cls := findClass_of_methodNamed Bd.named
  have hnm := (name_of_methodNamed Bd.named Bd.method).1
  have X0 : Stand p l e ({ frames := 0, cells := 0, slots := 0, locals := 0 } : Room) s m #[(.int p1)] below meth c s₁ [] 0 0 := Stand.of_body Bd
  have e0 : s₁.heap = h0 := by rw [← hh, Bd.state]; rfl
  have N0 := Fr.nil n0
  have pre0 : ∀ t, Steps p.tables e below (s₁.setTop (mkF m 0 #[.val (.int p1)] [])) t → Steps p.tables e below (s₁.setTop (entryFrame m #[(.int p1)] 1)) t := fun t k => castTop (ef_2 m p1) k
  obtain ⟨S_DATE_TIME, S_G_YEAR, S_G_DAY, S_TIME_OF_DAY, S_G_YEAR_MONTH, S_DATE, S_G_MONTH_DAY, S_G_MONTH, E_DATE_TIME, E_G_YEAR, E_G_DAY, E_TIME_OF_DAY, E_G_YEAR_MONTH, E_DATE, E_G_MONTH_DAY, E_G_MONTH, F_hasMonth_DATE_TIME, F_hasDay_DATE_TIME, F_hasTime_DATE_TIME, F_hasMonth_G_YEAR, F_hasDay_G_YEAR, F_hasTime_G_YEAR, F_hasMonth_G_DAY, F_hasDay_G_DAY, F_hasTime_G_DAY, F_hasMonth_TIME_OF_DAY, F_hasDay_TIME_OF_DAY, F_hasTime_TIME_OF_DAY, F_hasMonth_G_YEAR_MONTH, F_hasDay_G_YEAR_MONTH, F_hasTime_G_YEAR_MONTH, F_hasMonth_DATE, F_hasDay_DATE, F_hasTime_DATE, F_hasMonth_G_MONTH_DAY, F_hasDay_G_MONTH_DAY, F_hasTime_G_MONTH_DAY, F_hasMonth_G_MONTH, F_hasDay_G_MONTH, F_hasTime_G_MONTH⟩ := P
  have pre1 : ∀ t, Steps p.tables e below (s₁.setTop (mkF m 1 #[.val (.int p1)] [(.int p1)])) t → Steps p.tables e below (s₁.setTop (entryFrame m #[(.int p1)] 1)) t := fun t k => pre0 t (by
    show Steps p.tables e below (s₁.setTop (mkF m 0 #[.val (.int p1)] [])) _
    refine XS.iloadN X0.here hx rfl (hb hby d2_0) rfl ?_
    exact k)
  by_cases ht1_2 : p1 = (0 : Int32)
  · have pre3 : ∀ t, Steps p.tables e below (s₁.setTop (mkF m 28 #[.val (.int p1)] [])) t → Steps p.tables e below (s₁.setTop (entryFrame m #[(.int p1)] 1)) t := fun t k => pre1 t (by
      show Steps p.tables e below (s₁.setTop (mkF m 1 #[.val (.int p1)] [(.int p1)])) _
      refine XS.tswIn X0.here hx rfl (pc0 := 1) (pc' := 28) (o := 27) rfl (hb hby d2_1) rfl (by rw [ht1_2]; decide) (by rw [ht1_2]; rfl) (by decide) (by decide) ?_
      exact k)
    obtain ⟨T4, X4, e4, st4⟩ := getS2 X0 hx hZ hown (host := "") (Or.inl (hw _ (List.mem_of_getElem? (i := 20) rfl))) Via.refl e0 (Sta.ext O0 S_G_YEAR) (g := (mkF m 28 #[.val (.int p1)] [])) rfl (hb hby d2_28)
    have pre5 : ∀ t, Steps p.tables e below (T4.setTop (mkF m 31 #[.val (.int p1)] [(.ref w_G_YEAR)])) t → Steps p.tables e below (s₁.setTop (entryFrame m #[(.int p1)] 1)) t := fun t k => pre3 t (st4 t k)
    have pre6 : ∀ t, Steps p.tables e below (T4.setTop (mkF m 49 #[.val (.int p1)] [(.ref w_G_YEAR)])) t → Steps p.tables e below (s₁.setTop (entryFrame m #[(.int p1)] 1)) t := fun t k => pre5 t (by
      show Steps p.tables e below (T4.setTop (mkF m 31 #[.val (.int p1)] [(.ref w_G_YEAR)])) _
      refine XS.goto X4.here hx rfl (pc0 := 31) (pc' := 49) rfl (hb hby d2_31) (by decide) (by decide) ?_
      exact k)
    obtain ⟨fs, hr, hrun, hended, hW, hsame⟩ := X4.leave (v := some (.ref w_G_YEAR)) (fun h => by rw [Bd.returns] at h; cases h)
    refine ⟨_, _, pre6 _ ?_, hrun, hended, _, _, rfl, ?_, ⟨_, rfl⟩, hW, hsame.mono (by decide) (by decide)⟩
    · show Steps p.tables e below (T4.setTop (mkF m 49 #[.val (.int p1)] [(.ref w_G_YEAR)])) _
      jvm_step X4.here [X4.here.top, hx, (hb hby d2_49), X4.method', Bd.returns, Value.isRef, FieldType.isReference]
      first | (intro acts; rw [hr _ acts rfl rfl rfl]) | rw [hr _ _ rfl rfl rfl]
      exact Steps.refl _
    · show Q_rm_ofp Z p1 w_DATE_TIME w_G_YEAR w_G_DAY w_TIME_OF_DAY w_G_YEAR_MONTH w_DATE w_G_MONTH_DAY w_G_MONTH h0 n0 _ T4.heap _
      rw [e4]
      exact ⟨(by simp only [if_pos ht1_2]), N0, rfl⟩
  · by_cases ht1_7 : p1 = (1 : Int32)
    · have pre8 : ∀ t, Steps p.tables e below (s₁.setTop (mkF m 34 #[.val (.int p1)] [])) t → Steps p.tables e below (s₁.setTop (entryFrame m #[(.int p1)] 1)) t := fun t k => pre1 t (by
        show Steps p.tables e below (s₁.setTop (mkF m 1 #[.val (.int p1)] [(.int p1)])) _
        refine XS.tswIn X0.here hx rfl (pc0 := 1) (pc' := 34) (o := 33) rfl (hb hby d2_1) rfl (by rw [ht1_7]; decide) (by rw [ht1_7]; rfl) (by decide) (by decide) ?_
        exact k)
      obtain ⟨T9, X9, e9, st9⟩ := getS2 X0 hx hZ hown (host := "") (Or.inl (hw _ (List.mem_of_getElem? (i := 27) rfl))) Via.refl e0 (Sta.ext O0 S_G_YEAR_MONTH) (g := (mkF m 34 #[.val (.int p1)] [])) rfl (hb hby d2_34)
      have pre10 : ∀ t, Steps p.tables e below (T9.setTop (mkF m 37 #[.val (.int p1)] [(.ref w_G_YEAR_MONTH)])) t → Steps p.tables e below (s₁.setTop (entryFrame m #[(.int p1)] 1)) t := fun t k => pre8 t (st9 t k)
      have pre11 : ∀ t, Steps p.tables e below (T9.setTop (mkF m 49 #[.val (.int p1)] [(.ref w_G_YEAR_MONTH)])) t → Steps p.tables e below (s₁.setTop (entryFrame m #[(.int p1)] 1)) t := fun t k => pre10 t (by
        show Steps p.tables e below (T9.setTop (mkF m 37 #[.val (.int p1)] [(.ref w_G_YEAR_MONTH)])) _
        refine XS.goto X9.here hx rfl (pc0 := 37) (pc' := 49) rfl (hb hby d2_37) (by decide) (by decide) ?_
        exact k)
      obtain ⟨fs, hr, hrun, hended, hW, hsame⟩ := X9.leave (v := some (.ref w_G_YEAR_MONTH)) (fun h => by rw [Bd.returns] at h; cases h)
      refine ⟨_, _, pre11 _ ?_, hrun, hended, _, _, rfl, ?_, ⟨_, rfl⟩, hW, hsame.mono (by decide) (by decide)⟩
      · show Steps p.tables e below (T9.setTop (mkF m 49 #[.val (.int p1)] [(.ref w_G_YEAR_MONTH)])) _
        jvm_step X9.here [X9.here.top, hx, (hb hby d2_49), X9.method', Bd.returns, Value.isRef, FieldType.isReference]
        first | (intro acts; rw [hr _ acts rfl rfl rfl]) | rw [hr _ _ rfl rfl rfl]
        exact Steps.refl _
      · show Q_rm_ofp Z p1 w_DATE_TIME w_G_YEAR w_G_DAY w_TIME_OF_DAY w_G_YEAR_MONTH w_DATE w_G_MONTH_DAY w_G_MONTH h0 n0 _ T9.heap _
        rw [e9]
        exact ⟨(by simp only [if_neg ht1_2, if_pos ht1_7]), N0, rfl⟩
    · by_cases ht1_12 : p1 = (2 : Int32)
      · have pre13 : ∀ t, Steps p.tables e below (s₁.setTop (mkF m 40 #[.val (.int p1)] [])) t → Steps p.tables e below (s₁.setTop (entryFrame m #[(.int p1)] 1)) t := fun t k => pre1 t (by
          show Steps p.tables e below (s₁.setTop (mkF m 1 #[.val (.int p1)] [(.int p1)])) _
          refine XS.tswIn X0.here hx rfl (pc0 := 1) (pc' := 40) (o := 39) rfl (hb hby d2_1) rfl (by rw [ht1_12]; decide) (by rw [ht1_12]; rfl) (by decide) (by decide) ?_
          exact k)
        obtain ⟨T14, X14, e14, st14⟩ := getS2 X0 hx hZ hown (host := "") (Or.inl (hw _ (List.mem_of_getElem? (i := 30) rfl))) Via.refl e0 (Sta.ext O0 S_DATE) (g := (mkF m 40 #[.val (.int p1)] [])) rfl (hb hby d2_40)
        have pre15 : ∀ t, Steps p.tables e below (T14.setTop (mkF m 43 #[.val (.int p1)] [(.ref w_DATE)])) t → Steps p.tables e below (s₁.setTop (entryFrame m #[(.int p1)] 1)) t := fun t k => pre13 t (st14 t k)
        have pre16 : ∀ t, Steps p.tables e below (T14.setTop (mkF m 49 #[.val (.int p1)] [(.ref w_DATE)])) t → Steps p.tables e below (s₁.setTop (entryFrame m #[(.int p1)] 1)) t := fun t k => pre15 t (by
          show Steps p.tables e below (T14.setTop (mkF m 43 #[.val (.int p1)] [(.ref w_DATE)])) _
          refine XS.goto X14.here hx rfl (pc0 := 43) (pc' := 49) rfl (hb hby d2_43) (by decide) (by decide) ?_
          exact k)
        obtain ⟨fs, hr, hrun, hended, hW, hsame⟩ := X14.leave (v := some (.ref w_DATE)) (fun h => by rw [Bd.returns] at h; cases h)
        refine ⟨_, _, pre16 _ ?_, hrun, hended, _, _, rfl, ?_, ⟨_, rfl⟩, hW, hsame.mono (by decide) (by decide)⟩
        · show Steps p.tables e below (T14.setTop (mkF m 49 #[.val (.int p1)] [(.ref w_DATE)])) _
          jvm_step X14.here [X14.here.top, hx, (hb hby d2_49), X14.method', Bd.returns, Value.isRef, FieldType.isReference]
          first | (intro acts; rw [hr _ acts rfl rfl rfl]) | rw [hr _ _ rfl rfl rfl]
          exact Steps.refl _
        · show Q_rm_ofp Z p1 w_DATE_TIME w_G_YEAR w_G_DAY w_TIME_OF_DAY w_G_YEAR_MONTH w_DATE w_G_MONTH_DAY w_G_MONTH h0 n0 _ T14.heap _
          rw [e14]
          exact ⟨(by simp only [if_neg ht1_2, if_neg ht1_7, if_pos ht1_12]), N0, rfl⟩
      · have pre17 : ∀ t, Steps p.tables e below (s₁.setTop (mkF m 46 #[.val (.int p1)] [])) t → Steps p.tables e below (s₁.setTop (entryFrame m #[(.int p1)] 1)) t := fun t k => pre1 t (by
          show Steps p.tables e below (s₁.setTop (mkF m 1 #[.val (.int p1)] [(.int p1)])) _
          refine XS.tswOut X0.here hx rfl (pc0 := 1) (pc' := 46) rfl (hb hby d2_1) rfl (own_out_0_2 ht1_2 ht1_7 ht1_12) (by decide) (by decide) ?_
          exact k)
        obtain ⟨T18, X18, e18, st18⟩ := getS2 X0 hx hZ hown (host := "") (Or.inl (hw _ (List.mem_of_getElem? (i := 17) rfl))) Via.refl e0 (Sta.ext O0 S_DATE_TIME) (g := (mkF m 46 #[.val (.int p1)] [])) rfl (hb hby d2_46)
        have pre19 : ∀ t, Steps p.tables e below (T18.setTop (mkF m 49 #[.val (.int p1)] [(.ref w_DATE_TIME)])) t → Steps p.tables e below (s₁.setTop (entryFrame m #[(.int p1)] 1)) t := fun t k => pre17 t (st18 t k)
        obtain ⟨fs, hr, hrun, hended, hW, hsame⟩ := X18.leave (v := some (.ref w_DATE_TIME)) (fun h => by rw [Bd.returns] at h; cases h)
        refine ⟨_, _, pre19 _ ?_, hrun, hended, _, _, rfl, ?_, ⟨_, rfl⟩, hW, hsame.mono (by decide) (by decide)⟩
        · show Steps p.tables e below (T18.setTop (mkF m 49 #[.val (.int p1)] [(.ref w_DATE_TIME)])) _
          jvm_step X18.here [X18.here.top, hx, (hb hby d2_49), X18.method', Bd.returns, Value.isRef, FieldType.isReference]
          first | (intro acts; rw [hr _ acts rfl rfl rfl]) | rw [hr _ _ rfl rfl rfl]
          exact Steps.refl _
        · show Q_rm_ofp Z p1 w_DATE_TIME w_G_YEAR w_G_DAY w_TIME_OF_DAY w_G_YEAR_MONTH w_DATE w_G_MONTH_DAY w_G_MONTH h0 n0 _ T18.heap _
          rw [e18]
          exact ⟨(by simp only [if_neg ht1_2, if_neg ht1_7, if_neg ht1_12]), N0, rfl⟩
theorem ef_0 (m : MethodId) (x0 : Int32) : entryFrame m #[(.int x0)] maxLocals = mkF m 0 #[.val (.int x0), .unset, .unset, .unset, .unset, .unset] [] := by first | (simp [entryFrame, mkF, argsToLocals, Value.category, maxLocals]; done) | rfl
theorem pn_com_example_knit_knit_exslt_TypePrecisionPinLaw : plainName "com/example/knit/knit/exslt/TypePrecisionPinLaw" = true := by first | (simp [plainName, overriddenIn]; done) | decide +kernel
theorem pd_0 : parseMethodDescriptor "()I" = some ⟨[], some .int⟩ := by decide +kernel
theorem pd_1 : parseMethodDescriptor "(I)Lcom/example/knit/knit/exslt/SchemaDateTime$Type;" = some ⟨[.int], some (.object "com/example/knit/knit/exslt/SchemaDateTime$Type")⟩ := by decide +kernel
def Q_rm_law (Z : State) (p1 : Int32) (w_DATE_TIME w_G_YEAR w_G_DAY w_TIME_OF_DAY w_G_YEAR_MONTH w_DATE w_G_MONTH_DAY w_G_MONTH : Addr) (h0 : Heap) (n0 : Nat) (v : Option Value) (h : Heap) (L : List Loc) : Prop := v = some (.int (1 : Int32)) ∧ Fr n0 L
set_option maxRecDepth 65536 in
set_option maxHeartbeats 40000000 in
theorem rm_law (l : Launch) (Z : State) (a0 : Array Value) (hw : ∀ d ∈ tables_1, d.before a0 Z = true) (ws : List Jvm.Cond) (p1 : Int32) (w_DATE_TIME w_G_YEAR w_G_DAY w_TIME_OF_DAY w_G_YEAR_MONTH w_DATE w_G_MONTH_DAY w_G_MONTH : Addr) (h0 : Heap) (n0 : Nat) (Z0 : n0 ≤ h0.size) (O0 : Ext Z.heap h0) (P : Pins Z w_DATE_TIME w_G_YEAR w_G_DAY w_TIME_OF_DAY w_G_YEAR_MONTH w_DATE w_G_MONTH_DAY w_G_MONTH) :
    MetFree l x (head1 (Jvm.Cond.code x code maxLocals ret :: ws) room_1) (fun a U => a = #[(.int p1)] ∧ Z.Warmed39 U.vm ∧ U.heap = h0) (fun _ _ _ _ _ => True) (fun _ U o U' => ∃ v L, o = .returned v ∧ Q_rm_law Z p1 w_DATE_TIME w_G_YEAR w_G_DAY w_TIME_OF_DAY w_G_YEAR_MONTH w_DATE w_G_MONTH_DAY w_G_MONTH h0 n0 v U'.heap L ∧ FrameEnd U o U' L room_1.cells room_1.slots) := by
  refine MetFree.of_bodySF (plainFor_of_name pn_com_example_knit_knit_exslt_TypePrecisionPinLaw) hisR ?_
  intro p e s m args below meth c s₁ Bd hml0 hP hK
  obtain ⟨rfl, hZ, hh⟩ := hP
  have hx := Bd.exec
  have hby := Bd.bytes
  have hml : c.maxLocals = 6 := hml0
  have hown : s.vm.findClass "com/example/knit/knit/exslt/TypePrecisionPinLaw" = some m.cls := findClass_of_methodNamed Bd.named
  have hnm := (name_of_methodNamed Bd.named Bd.method).1
  have X0 : Stand p l e room_1 s m #[(.int p1)] below meth c s₁ [] 0 0 := Stand.of_body Bd
  have e0 : s₁.heap = h0 := by rw [← hh, Bd.state]; rfl
  have N0 := Fr.nil n0
  have pre0 : ∀ t, Steps p.tables e below (s₁.setTop (mkF m 0 #[.val (.int p1), .unset, .unset, .unset, .unset, .unset] [])) t → Steps p.tables e below (s₁.setTop (entryFrame m #[(.int p1)] maxLocals)) t := fun t k => castTop (ef_0 m p1) k
  have P' := P
  obtain ⟨S_DATE_TIME, S_G_YEAR, S_G_DAY, S_TIME_OF_DAY, S_G_YEAR_MONTH, S_DATE, S_G_MONTH_DAY, S_G_MONTH, E_DATE_TIME, E_G_YEAR, E_G_DAY, E_TIME_OF_DAY, E_G_YEAR_MONTH, E_DATE, E_G_MONTH_DAY, E_G_MONTH, F_hasMonth_DATE_TIME, F_hasDay_DATE_TIME, F_hasTime_DATE_TIME, F_hasMonth_G_YEAR, F_hasDay_G_YEAR, F_hasTime_G_YEAR, F_hasMonth_G_DAY, F_hasDay_G_DAY, F_hasTime_G_DAY, F_hasMonth_TIME_OF_DAY, F_hasDay_TIME_OF_DAY, F_hasTime_TIME_OF_DAY, F_hasMonth_G_YEAR_MONTH, F_hasDay_G_YEAR_MONTH, F_hasTime_G_YEAR_MONTH, F_hasMonth_DATE, F_hasDay_DATE, F_hasTime_DATE, F_hasMonth_G_MONTH_DAY, F_hasDay_G_MONTH_DAY, F_hasTime_G_MONTH_DAY, F_hasMonth_G_MONTH, F_hasDay_G_MONTH, F_hasTime_G_MONTH⟩ := P
  have pre1 : ∀ t, Steps p.tables e below (s₁.setTop (mkF m 6 #[.val (.int p1), .val (.int (p1 &&& (7 : Int32))), .unset, .unset, .unset, .unset] [(.int (p1 &&& (7 : Int32)))])) t → Steps p.tables e below (s₁.setTop (entryFrame m #[(.int p1)] maxLocals)) t := fun t k => pre0 t (by
    show Steps p.tables e below (s₁.setTop (mkF m 0 #[.val (.int p1), .unset, .unset, .unset, .unset, .unset] [])) _
    refine XS.iloadN X0.here hx rfl (hb hby at_0) rfl ?_
    show Steps p.tables e below (s₁.setTop (mkF m 1 #[.val (.int p1), .unset, .unset, .unset, .unset, .unset] [(.int p1)])) _
    refine XS.bipush X0.here hx rfl (hb hby at_1) ?_
    show Steps p.tables e below (s₁.setTop (mkF m 3 #[.val (.int p1), .unset, .unset, .unset, .unset, .unset] [(.int (7 : Int32)), (.int p1)])) _
    refine XS.iand X0.here hx rfl (hb hby at_3) rfl ?_
    show Steps p.tables e below (s₁.setTop (mkF m 4 #[.val (.int p1), .unset, .unset, .unset, .unset, .unset] [(.int (p1 &&& (7 : Int32)))])) _
    refine XS.istoreN X0.here hx rfl (hb hby at_4) rfl (l' := #[.val (.int p1), .val (.int (p1 &&& (7 : Int32))), .unset, .unset, .unset, .unset]) rfl ?_
    show Steps p.tables e below (s₁.setTop (mkF m 5 #[.val (.int p1), .val (.int (p1 &&& (7 : Int32))), .unset, .unset, .unset, .unset] [])) _
    refine XS.iloadN X0.here hx rfl (hb hby at_5) rfl ?_
    exact k)
  by_cases hc6_2 : (p1 &&& (7 : Int32)) = (0 : Int32)
  · have pre3 : ∀ t, Steps p.tables e below (s₁.setTop (mkF m 9 #[.val (.int p1), .val (.int (p1 &&& (7 : Int32))), .unset, .unset, .unset, .unset] [])) t → Steps p.tables e below (s₁.setTop (entryFrame m #[(.int p1)] maxLocals)) t := fun t k => pre1 t (by
      show Steps p.tables e below (s₁.setTop (mkF m 6 #[.val (.int p1), .val (.int (p1 &&& (7 : Int32))), .unset, .unset, .unset, .unset] [(.int (p1 &&& (7 : Int32)))])) _
      refine XS.ifNo X0.here hx rfl (hb hby at_6) rfl ((if0 _ _).trans (teq hc6_2).2) ?_
      exact k)
    obtain ⟨T4, X4, e4, st4⟩ := getS2 X0 hx hZ hown (host := "") (Or.inl (hw _ (List.mem_of_getElem? (i := 0) rfl))) Via.refl e0 (Sta.ext O0 S_DATE_TIME) (g := (mkF m 9 #[.val (.int p1), .val (.int (p1 &&& (7 : Int32))), .unset, .unset, .unset, .unset] [])) rfl (hb hby at_9)
    have pre5 : ∀ t, Steps p.tables e below (T4.setTop (mkF m 12 #[.val (.int p1), .val (.int (p1 &&& (7 : Int32))), .unset, .unset, .unset, .unset] [(.ref w_DATE_TIME)])) t → Steps p.tables e below (s₁.setTop (entryFrame m #[(.int p1)] maxLocals)) t := fun t k => pre3 t (st4 t k)
    have pre6 : ∀ t, Steps p.tables e below (T4.setTop (mkF m 110 #[.val (.int p1), .val (.int (p1 &&& (7 : Int32))), .val (.ref w_DATE_TIME), .val (.int (3 : Int32)), .unset, .unset] [(.ref w_DATE_TIME)])) t → Steps p.tables e below (s₁.setTop (entryFrame m #[(.int p1)] maxLocals)) t := fun t k => pre5 t (by
      show Steps p.tables e below (T4.setTop (mkF m 12 #[.val (.int p1), .val (.int (p1 &&& (7 : Int32))), .unset, .unset, .unset, .unset] [(.ref w_DATE_TIME)])) _
      refine XS.astoreN X4.here hx rfl (hb hby at_12) rfl rfl (l' := #[.val (.int p1), .val (.int (p1 &&& (7 : Int32))), .val (.ref w_DATE_TIME), .unset, .unset, .unset]) rfl ?_
      show Steps p.tables e below (T4.setTop (mkF m 13 #[.val (.int p1), .val (.int (p1 &&& (7 : Int32))), .val (.ref w_DATE_TIME), .unset, .unset, .unset] [])) _
      refine XS.iconst X4.here hx rfl (hb hby at_13) ?_
      show Steps p.tables e below (T4.setTop (mkF m 14 #[.val (.int p1), .val (.int (p1 &&& (7 : Int32))), .val (.ref w_DATE_TIME), .unset, .unset, .unset] [(.int (3 : Int32))])) _
      refine XS.istoreN X4.here hx rfl (hb hby at_14) rfl (l' := #[.val (.int p1), .val (.int (p1 &&& (7 : Int32))), .val (.ref w_DATE_TIME), .val (.int (3 : Int32)), .unset, .unset]) rfl ?_
      show Steps p.tables e below (T4.setTop (mkF m 15 #[.val (.int p1), .val (.int (p1 &&& (7 : Int32))), .val (.ref w_DATE_TIME), .val (.int (3 : Int32)), .unset, .unset] [])) _
      refine XS.goto X4.here hx rfl (pc0 := 15) (pc' := 109) rfl (hb hby at_15) (by decide) (by decide) ?_
      show Steps p.tables e below (T4.setTop (mkF m 109 #[.val (.int p1), .val (.int (p1 &&& (7 : Int32))), .val (.ref w_DATE_TIME), .val (.int (3 : Int32)), .unset, .unset] [])) _
      refine XS.aloadN X4.here hx rfl (hb hby at_109) rfl rfl ?_
      exact k)
    obtain ⟨cq7, kq7, q7a, q7b, q7c⟩ := isOf hZ e4 (Exa.ext O0 E_DATE_TIME)
    obtain ⟨_, _, ⟨T7, L7, k7, n7⟩, -, X7, ⟨Lc7, hQ7, l7, y7, z7⟩, st7⟩ := X4.virtualBack hx (y := (⟨"com/example/knit/knit/exslt/SchemaDateTime$Type", "precision", "()I"⟩ : MethodName)) (z := (⟨"com/example/knit/knit/exslt/SchemaDateTime$Type", "precision", "()I"⟩ : MethodName)) hown (mvT hZ (hw _ (List.mem_of_getElem? (i := 3) rfl))) (mvT hZ (hw _ (List.mem_of_getElem? (i := 4) rfl))) (notFace_of_selects (args := #[]) (mvT hZ (hw _ (List.mem_of_getElem? (i := 6) rfl)))) (mvT hZ (hw _ (List.mem_of_getElem? (i := 6) rfl))) (mvT hZ (hw _ (List.mem_of_getElem? (i := 5) rfl))) (by decide) (backOf (W := 0) (rm_prec l Z a0 hw [] w_DATE_TIME (1 : Int32) (1 : Int32) (1 : Int32) h0 n0 Z0 O0 (Fld.ext O0 F_hasMonth_DATE_TIME) (Fld.ext O0 F_hasDay_DATE_TIME) (Fld.ext O0 F_hasTime_DATE_TIME)) hZ (hw _ (List.mem_of_getElem? (i := 7) rfl)) (hw _ (List.mem_of_getElem? (i := 1) rfl)) (by decide) (by decide)) q7a q7c (g := (mkF m 110 #[.val (.int p1), .val (.int (p1 &&& (7 : Int32))), .val (.ref w_DATE_TIME), .val (.int (3 : Int32)), .unset, .unset] [(.ref w_DATE_TIME)])) rfl (by rw [hml]; rfl) (Steps.refl _) (argsL := []) (rest := []) (lenOf pd_0 rfl) rfl (by show 2 * 0 + _ ≤ _; exact Nat.le_of_eq rfl) (hb hby at_110) (fun _ _ => ⟨rfl, e4, (by decide : 0 + 0 ≤ _), (by decide : 0 + 0 ≤ _)⟩)
    dsimp only [Pt.U, Pt.locs, Pt.cells, Pt.slots] at X7 l7 y7 z7 st7 hQ7
    subst l7 y7 z7
    obtain ⟨hv7, N7q, e7⟩ := hQ7
    rw [(show ((bF (1 : Int32) + bF (1 : Int32)) + bF (1 : Int32)) = (3 : Int32) from by decide)] at hv7
    subst hv7
    have N7 := Fr.app N0 N7q
    have pre8 : ∀ t, Steps p.tables e below (T7.setTop (mkF m 113 #[.val (.int p1), .val (.int (p1 &&& (7 : Int32))), .val (.ref w_DATE_TIME), .val (.int (3 : Int32)), .unset, .unset] [(.int (3 : Int32))])) t → Steps p.tables e below (s₁.setTop (entryFrame m #[(.int p1)] maxLocals)) t := fun t k => pre6 t (st7.trans k)
    have pre9 : ∀ t, Steps p.tables e below (T7.setTop (mkF m 122 #[.val (.int p1), .val (.int (p1 &&& (7 : Int32))), .val (.ref w_DATE_TIME), .val (.int (3 : Int32)), .val (.int (3 : Int32)), .unset] [(.int (3 : Int32))])) t → Steps p.tables e below (s₁.setTop (entryFrame m #[(.int p1)] maxLocals)) t := fun t k => pre8 t (by
      show Steps p.tables e below (T7.setTop (mkF m 113 #[.val (.int p1), .val (.int (p1 &&& (7 : Int32))), .val (.ref w_DATE_TIME), .val (.int (3 : Int32)), .unset, .unset] [(.int (3 : Int32))])) _
      refine XS.istore X7.here hx rfl (hb hby at_113) rfl (l' := #[.val (.int p1), .val (.int (p1 &&& (7 : Int32))), .val (.ref w_DATE_TIME), .val (.int (3 : Int32)), .val (.int (3 : Int32)), .unset]) rfl ?_
      show Steps p.tables e below (T7.setTop (mkF m 115 #[.val (.int p1), .val (.int (p1 &&& (7 : Int32))), .val (.ref w_DATE_TIME), .val (.int (3 : Int32)), .val (.int (3 : Int32)), .unset] [])) _
      refine XS.iloadN X7.here hx rfl (hb hby at_115) rfl ?_
      show Steps p.tables e below (T7.setTop (mkF m 116 #[.val (.int p1), .val (.int (p1 &&& (7 : Int32))), .val (.ref w_DATE_TIME), .val (.int (3 : Int32)), .val (.int (3 : Int32)), .unset] [(.int (p1 &&& (7 : Int32)))])) _
      refine XS.iconst X7.here hx rfl (hb hby at_116) ?_
      show Steps p.tables e below (T7.setTop (mkF m 117 #[.val (.int p1), .val (.int (p1 &&& (7 : Int32))), .val (.ref w_DATE_TIME), .val (.int (3 : Int32)), .val (.int (3 : Int32)), .unset] [(.int (3 : Int32)), (.int (p1 &&& (7 : Int32)))])) _
      refine XS.icmpNo X7.here hx rfl (hb hby at_117) rfl (flt (show ¬ ((3 : Int32) < (p1 &&& (7 : Int32))) from by rw [hc6_2]; decide)).2.2.1 ?_
      show Steps p.tables e below (T7.setTop (mkF m 120 #[.val (.int p1), .val (.int (p1 &&& (7 : Int32))), .val (.ref w_DATE_TIME), .val (.int (3 : Int32)), .val (.int (3 : Int32)), .unset] [])) _
      refine XS.iload X7.here hx rfl (hb hby at_120) rfl ?_
      exact k)
    obtain ⟨_, _, ⟨T10, L10, k10, n10⟩, -, X10, ⟨Lc10, hQ10, l10, y10, z10⟩, st10⟩ := Jvm.LawKit.callS X7 hx (y := (⟨"com/example/knit/knit/exslt/SchemaDateTime$Type", "ofPrecision", "(I)Lcom/example/knit/knit/exslt/SchemaDateTime$Type;"⟩ : MethodName)) hown (mvT hZ (hw _ (List.mem_of_getElem? (i := 14) rfl))) (mvT hZ (hw _ (List.mem_of_getElem? (i := 15) rfl))) (mvT hZ (hw _ (List.mem_of_getElem? (i := 1) rfl))) (mvT hZ (hw _ (List.mem_of_getElem? (i := 16) rfl))) (by decide) (backOf (W := 0) (rm_ofp l Z a0 hw [] (3 : Int32) w_DATE_TIME w_G_YEAR w_G_DAY w_TIME_OF_DAY w_G_YEAR_MONTH w_DATE w_G_MONTH_DAY w_G_MONTH h0 n0 Z0 O0 P') hZ (hw _ (List.mem_of_getElem? (i := 16) rfl)) (hw _ (List.mem_of_getElem? (i := 1) rfl)) (by decide) (by decide)) (g := (mkF m 122 #[.val (.int p1), .val (.int (p1 &&& (7 : Int32))), .val (.ref w_DATE_TIME), .val (.int (3 : Int32)), .val (.int (3 : Int32)), .unset] [(.int (3 : Int32))])) rfl (by rw [hml]; rfl) (argsL := [(.int (3 : Int32))]) (rest := []) (lenOf pd_1 rfl) rfl (by show 2 * 0 + _ ≤ _; exact Nat.le_of_eq rfl) (hb hby at_122) (fun _ _ => ⟨rfl, e7, (by decide : 0 + 0 ≤ _), (by decide : 0 + 0 ≤ _)⟩)
    dsimp only [Pt.U, Pt.locs, Pt.cells, Pt.slots] at X10 l10 y10 z10 st10 hQ10
    subst l10 y10 z10
    obtain ⟨hv10, N10q, e10⟩ := hQ10
    rw [(show (if (3 : Int32) = (0 : Int32) then w_G_YEAR else if (3 : Int32) = (1 : Int32) then w_G_YEAR_MONTH else if (3 : Int32) = (2 : Int32) then w_DATE else w_DATE_TIME) = w_DATE_TIME from by simp)] at hv10
    subst hv10
    have N10 := Fr.app N7 N10q
    have pre11 : ∀ t, Steps p.tables e below (T10.setTop (mkF m 125 #[.val (.int p1), .val (.int (p1 &&& (7 : Int32))), .val (.ref w_DATE_TIME), .val (.int (3 : Int32)), .val (.int (3 : Int32)), .unset] [(.ref w_DATE_TIME)])) t → Steps p.tables e below (s₁.setTop (entryFrame m #[(.int p1)] maxLocals)) t := fun t k => pre9 t (st10 t k)
    have pre12 : ∀ t, Steps p.tables e below (T10.setTop (mkF m 152 #[.val (.int p1), .val (.int (p1 &&& (7 : Int32))), .val (.ref w_DATE_TIME), .val (.int (3 : Int32)), .val (.int (3 : Int32)), .val (.int (1 : Int32))] [(.int (1 : Int32))])) t → Steps p.tables e below (s₁.setTop (entryFrame m #[(.int p1)] maxLocals)) t := fun t k => pre11 t (by
      show Steps p.tables e below (T10.setTop (mkF m 125 #[.val (.int p1), .val (.int (p1 &&& (7 : Int32))), .val (.ref w_DATE_TIME), .val (.int (3 : Int32)), .val (.int (3 : Int32)), .unset] [(.ref w_DATE_TIME)])) _
      refine XS.aloadN X10.here hx rfl (hb hby at_125) rfl rfl ?_
      show Steps p.tables e below (T10.setTop (mkF m 126 #[.val (.int p1), .val (.int (p1 &&& (7 : Int32))), .val (.ref w_DATE_TIME), .val (.int (3 : Int32)), .val (.int (3 : Int32)), .unset] [(.ref w_DATE_TIME), (.ref w_DATE_TIME)])) _
      refine Jvm.RoadKit.acmp (g := (mkF m 126 #[.val (.int p1), .val (.int (p1 &&& (7 : Int32))), .val (.ref w_DATE_TIME), .val (.int (3 : Int32)), .val (.int (3 : Int32)), .unset] [(.ref w_DATE_TIME), (.ref w_DATE_TIME)])) X10 hx rfl rfl rfl (pc0 := 126) (pc' := 129) (same := true) rfl (hb hby at_126) rfl (decide_eq_true rfl) (by decide) (by decide) ?_
      show Steps p.tables e below (T10.setTop (mkF m 129 #[.val (.int p1), .val (.int (p1 &&& (7 : Int32))), .val (.ref w_DATE_TIME), .val (.int (3 : Int32)), .val (.int (3 : Int32)), .unset] [])) _
      refine XS.iconst X10.here hx rfl (hb hby at_129) ?_
      show Steps p.tables e below (T10.setTop (mkF m 130 #[.val (.int p1), .val (.int (p1 &&& (7 : Int32))), .val (.ref w_DATE_TIME), .val (.int (3 : Int32)), .val (.int (3 : Int32)), .unset] [(.int (1 : Int32))])) _
      refine XS.goto X10.here hx rfl (pc0 := 130) (pc' := 134) rfl (hb hby at_130) (by decide) (by decide) ?_
      show Steps p.tables e below (T10.setTop (mkF m 134 #[.val (.int p1), .val (.int (p1 &&& (7 : Int32))), .val (.ref w_DATE_TIME), .val (.int (3 : Int32)), .val (.int (3 : Int32)), .unset] [(.int (1 : Int32))])) _
      refine XS.istore X10.here hx rfl (hb hby at_134) rfl (l' := #[.val (.int p1), .val (.int (p1 &&& (7 : Int32))), .val (.ref w_DATE_TIME), .val (.int (3 : Int32)), .val (.int (3 : Int32)), .val (.int (1 : Int32))]) rfl ?_
      show Steps p.tables e below (T10.setTop (mkF m 136 #[.val (.int p1), .val (.int (p1 &&& (7 : Int32))), .val (.ref w_DATE_TIME), .val (.int (3 : Int32)), .val (.int (3 : Int32)), .val (.int (1 : Int32))] [])) _
      refine XS.iload X10.here hx rfl (hb hby at_136) rfl ?_
      show Steps p.tables e below (T10.setTop (mkF m 138 #[.val (.int p1), .val (.int (p1 &&& (7 : Int32))), .val (.ref w_DATE_TIME), .val (.int (3 : Int32)), .val (.int (3 : Int32)), .val (.int (1 : Int32))] [(.int (3 : Int32))])) _
      refine XS.iloadN X10.here hx rfl (hb hby at_138) rfl ?_
      show Steps p.tables e below (T10.setTop (mkF m 139 #[.val (.int p1), .val (.int (p1 &&& (7 : Int32))), .val (.ref w_DATE_TIME), .val (.int (3 : Int32)), .val (.int (3 : Int32)), .val (.int (1 : Int32))] [(.int (3 : Int32)), (.int (3 : Int32))])) _
      refine XS.icmpNo X10.here hx rfl (hb hby at_139) rfl (teq (by decide : (3 : Int32) = (3 : Int32))).2 ?_
      show Steps p.tables e below (T10.setTop (mkF m 142 #[.val (.int p1), .val (.int (p1 &&& (7 : Int32))), .val (.ref w_DATE_TIME), .val (.int (3 : Int32)), .val (.int (3 : Int32)), .val (.int (1 : Int32))] [])) _
      refine XS.iload X10.here hx rfl (hb hby at_142) rfl ?_
      show Steps p.tables e below (T10.setTop (mkF m 144 #[.val (.int p1), .val (.int (p1 &&& (7 : Int32))), .val (.ref w_DATE_TIME), .val (.int (3 : Int32)), .val (.int (3 : Int32)), .val (.int (1 : Int32))] [(.int (1 : Int32))])) _
      refine XS.ifNo X10.here hx rfl (hb hby at_144) rfl ((if0 _ _).trans (feq (by decide : ¬ ((1 : Int32) = (0 : Int32)))).1) ?_
      show Steps p.tables e below (T10.setTop (mkF m 147 #[.val (.int p1), .val (.int (p1 &&& (7 : Int32))), .val (.ref w_DATE_TIME), .val (.int (3 : Int32)), .val (.int (3 : Int32)), .val (.int (1 : Int32))] [])) _
      refine XS.iconst X10.here hx rfl (hb hby at_147) ?_
      show Steps p.tables e below (T10.setTop (mkF m 148 #[.val (.int p1), .val (.int (p1 &&& (7 : Int32))), .val (.ref w_DATE_TIME), .val (.int (3 : Int32)), .val (.int (3 : Int32)), .val (.int (1 : Int32))] [(.int (1 : Int32))])) _
      refine XS.goto X10.here hx rfl (pc0 := 148) (pc' := 152) rfl (hb hby at_148) (by decide) (by decide) ?_
      exact k)
    obtain ⟨fs, hr, hrun, hended, hW, hsame⟩ := X10.leave (v := some (.int (1 : Int32))) (fun h => by rw [Bd.returns] at h; cases h)
    refine ⟨_, _, pre12 _ ?_, hrun, hended, _, _, rfl, ?_, ⟨_, rfl⟩, hW, hsame.mono (by decide) (by decide)⟩
    · exact retN X10 hx (t := .boolean) Bd.returns (by simp) (hb hby at_152) hr
    · show Q_rm_law Z p1 w_DATE_TIME w_G_YEAR w_G_DAY w_TIME_OF_DAY w_G_YEAR_MONTH w_DATE w_G_MONTH_DAY w_G_MONTH h0 n0 _ T10.heap _
      rw [e10]
      exact ⟨rfl, N10⟩
  · have pre13 : ∀ t, Steps p.tables e below (s₁.setTop (mkF m 20 #[.val (.int p1), .val (.int (p1 &&& (7 : Int32))), .unset, .unset, .unset, .unset] [(.int (1 : Int32)), (.int (p1 &&& (7 : Int32)))])) t → Steps p.tables e below (s₁.setTop (entryFrame m #[(.int p1)] maxLocals)) t := fun t k => pre1 t (by
      show Steps p.tables e below (s₁.setTop (mkF m 6 #[.val (.int p1), .val (.int (p1 &&& (7 : Int32))), .unset, .unset, .unset, .unset] [(.int (p1 &&& (7 : Int32)))])) _
      refine XS.ifYes X0.here hx rfl (pc0 := 6) (pc' := 18) rfl (hb hby at_6) rfl ((if0 _ _).trans (feq hc6_2).2) (by decide) (by decide) ?_
      show Steps p.tables e below (s₁.setTop (mkF m 18 #[.val (.int p1), .val (.int (p1 &&& (7 : Int32))), .unset, .unset, .unset, .unset] [])) _
      refine XS.iloadN X0.here hx rfl (hb hby at_18) rfl ?_
      show Steps p.tables e below (s₁.setTop (mkF m 19 #[.val (.int p1), .val (.int (p1 &&& (7 : Int32))), .unset, .unset, .unset, .unset] [(.int (p1 &&& (7 : Int32)))])) _
      refine XS.iconst X0.here hx rfl (hb hby at_19) ?_
      exact k)
    by_cases hc20_14 : (p1 &&& (7 : Int32)) = (1 : Int32)
    · have pre15 : ∀ t, Steps p.tables e below (s₁.setTop (mkF m 23 #[.val (.int p1), .val (.int (p1 &&& (7 : Int32))), .unset, .unset, .unset, .unset] [])) t → Steps p.tables e below (s₁.setTop (entryFrame m #[(.int p1)] maxLocals)) t := fun t k => pre13 t (by
        show Steps p.tables e below (s₁.setTop (mkF m 20 #[.val (.int p1), .val (.int (p1 &&& (7 : Int32))), .unset, .unset, .unset, .unset] [(.int (1 : Int32)), (.int (p1 &&& (7 : Int32)))])) _
        refine XS.icmpNo X0.here hx rfl (hb hby at_20) rfl (teq hc20_14).2 ?_
        exact k)
      obtain ⟨T16, X16, e16, st16⟩ := getS2 X0 hx hZ hown (host := "") (Or.inl (hw _ (List.mem_of_getElem? (i := 28) rfl))) Via.refl e0 (Sta.ext O0 S_DATE) (g := (mkF m 23 #[.val (.int p1), .val (.int (p1 &&& (7 : Int32))), .unset, .unset, .unset, .unset] [])) rfl (hb hby at_23)
      have pre17 : ∀ t, Steps p.tables e below (T16.setTop (mkF m 26 #[.val (.int p1), .val (.int (p1 &&& (7 : Int32))), .unset, .unset, .unset, .unset] [(.ref w_DATE)])) t → Steps p.tables e below (s₁.setTop (entryFrame m #[(.int p1)] maxLocals)) t := fun t k => pre15 t (st16 t k)
      have pre18 : ∀ t, Steps p.tables e below (T16.setTop (mkF m 110 #[.val (.int p1), .val (.int (p1 &&& (7 : Int32))), .val (.ref w_DATE), .val (.int (2 : Int32)), .unset, .unset] [(.ref w_DATE)])) t → Steps p.tables e below (s₁.setTop (entryFrame m #[(.int p1)] maxLocals)) t := fun t k => pre17 t (by
        show Steps p.tables e below (T16.setTop (mkF m 26 #[.val (.int p1), .val (.int (p1 &&& (7 : Int32))), .unset, .unset, .unset, .unset] [(.ref w_DATE)])) _
        refine XS.astoreN X16.here hx rfl (hb hby at_26) rfl rfl (l' := #[.val (.int p1), .val (.int (p1 &&& (7 : Int32))), .val (.ref w_DATE), .unset, .unset, .unset]) rfl ?_
        show Steps p.tables e below (T16.setTop (mkF m 27 #[.val (.int p1), .val (.int (p1 &&& (7 : Int32))), .val (.ref w_DATE), .unset, .unset, .unset] [])) _
        refine XS.iconst X16.here hx rfl (hb hby at_27) ?_
        show Steps p.tables e below (T16.setTop (mkF m 28 #[.val (.int p1), .val (.int (p1 &&& (7 : Int32))), .val (.ref w_DATE), .unset, .unset, .unset] [(.int (2 : Int32))])) _
        refine XS.istoreN X16.here hx rfl (hb hby at_28) rfl (l' := #[.val (.int p1), .val (.int (p1 &&& (7 : Int32))), .val (.ref w_DATE), .val (.int (2 : Int32)), .unset, .unset]) rfl ?_
        show Steps p.tables e below (T16.setTop (mkF m 29 #[.val (.int p1), .val (.int (p1 &&& (7 : Int32))), .val (.ref w_DATE), .val (.int (2 : Int32)), .unset, .unset] [])) _
        refine XS.goto X16.here hx rfl (pc0 := 29) (pc' := 109) rfl (hb hby at_29) (by decide) (by decide) ?_
        show Steps p.tables e below (T16.setTop (mkF m 109 #[.val (.int p1), .val (.int (p1 &&& (7 : Int32))), .val (.ref w_DATE), .val (.int (2 : Int32)), .unset, .unset] [])) _
        refine XS.aloadN X16.here hx rfl (hb hby at_109) rfl rfl ?_
        exact k)
      obtain ⟨cq19, kq19, q19a, q19b, q19c⟩ := isOf hZ e16 (Exa.ext O0 E_DATE)
      obtain ⟨_, _, ⟨T19, L19, k19, n19⟩, -, X19, ⟨Lc19, hQ19, l19, y19, z19⟩, st19⟩ := X16.virtualBack hx (y := (⟨"com/example/knit/knit/exslt/SchemaDateTime$Type", "precision", "()I"⟩ : MethodName)) (z := (⟨"com/example/knit/knit/exslt/SchemaDateTime$Type", "precision", "()I"⟩ : MethodName)) hown (mvT hZ (hw _ (List.mem_of_getElem? (i := 3) rfl))) (mvT hZ (hw _ (List.mem_of_getElem? (i := 4) rfl))) (notFace_of_selects (args := #[]) (mvT hZ (hw _ (List.mem_of_getElem? (i := 6) rfl)))) (mvT hZ (hw _ (List.mem_of_getElem? (i := 6) rfl))) (mvT hZ (hw _ (List.mem_of_getElem? (i := 5) rfl))) (by decide) (backOf (W := 0) (rm_prec l Z a0 hw [] w_DATE (1 : Int32) (1 : Int32) (0 : Int32) h0 n0 Z0 O0 (Fld.ext O0 F_hasMonth_DATE) (Fld.ext O0 F_hasDay_DATE) (Fld.ext O0 F_hasTime_DATE)) hZ (hw _ (List.mem_of_getElem? (i := 7) rfl)) (hw _ (List.mem_of_getElem? (i := 1) rfl)) (by decide) (by decide)) q19a q19c (g := (mkF m 110 #[.val (.int p1), .val (.int (p1 &&& (7 : Int32))), .val (.ref w_DATE), .val (.int (2 : Int32)), .unset, .unset] [(.ref w_DATE)])) rfl (by rw [hml]; rfl) (Steps.refl _) (argsL := []) (rest := []) (lenOf pd_0 rfl) rfl (by show 2 * 0 + _ ≤ _; exact Nat.le_of_eq rfl) (hb hby at_110) (fun _ _ => ⟨rfl, e16, (by decide : 0 + 0 ≤ _), (by decide : 0 + 0 ≤ _)⟩)
      dsimp only [Pt.U, Pt.locs, Pt.cells, Pt.slots] at X19 l19 y19 z19 st19 hQ19
      subst l19 y19 z19
      obtain ⟨hv19, N19q, e19⟩ := hQ19
      rw [(show ((bF (1 : Int32) + bF (1 : Int32)) + bF (0 : Int32)) = (2 : Int32) from by decide)] at hv19
      subst hv19
      have N19 := Fr.app N0 N19q
      have pre20 : ∀ t, Steps p.tables e below (T19.setTop (mkF m 113 #[.val (.int p1), .val (.int (p1 &&& (7 : Int32))), .val (.ref w_DATE), .val (.int (2 : Int32)), .unset, .unset] [(.int (2 : Int32))])) t → Steps p.tables e below (s₁.setTop (entryFrame m #[(.int p1)] maxLocals)) t := fun t k => pre18 t (st19.trans k)
      have pre21 : ∀ t, Steps p.tables e below (T19.setTop (mkF m 122 #[.val (.int p1), .val (.int (p1 &&& (7 : Int32))), .val (.ref w_DATE), .val (.int (2 : Int32)), .val (.int (2 : Int32)), .unset] [(.int (2 : Int32))])) t → Steps p.tables e below (s₁.setTop (entryFrame m #[(.int p1)] maxLocals)) t := fun t k => pre20 t (by
        show Steps p.tables e below (T19.setTop (mkF m 113 #[.val (.int p1), .val (.int (p1 &&& (7 : Int32))), .val (.ref w_DATE), .val (.int (2 : Int32)), .unset, .unset] [(.int (2 : Int32))])) _
        refine XS.istore X19.here hx rfl (hb hby at_113) rfl (l' := #[.val (.int p1), .val (.int (p1 &&& (7 : Int32))), .val (.ref w_DATE), .val (.int (2 : Int32)), .val (.int (2 : Int32)), .unset]) rfl ?_
        show Steps p.tables e below (T19.setTop (mkF m 115 #[.val (.int p1), .val (.int (p1 &&& (7 : Int32))), .val (.ref w_DATE), .val (.int (2 : Int32)), .val (.int (2 : Int32)), .unset] [])) _
        refine XS.iloadN X19.here hx rfl (hb hby at_115) rfl ?_
        show Steps p.tables e below (T19.setTop (mkF m 116 #[.val (.int p1), .val (.int (p1 &&& (7 : Int32))), .val (.ref w_DATE), .val (.int (2 : Int32)), .val (.int (2 : Int32)), .unset] [(.int (p1 &&& (7 : Int32)))])) _
        refine XS.iconst X19.here hx rfl (hb hby at_116) ?_
        show Steps p.tables e below (T19.setTop (mkF m 117 #[.val (.int p1), .val (.int (p1 &&& (7 : Int32))), .val (.ref w_DATE), .val (.int (2 : Int32)), .val (.int (2 : Int32)), .unset] [(.int (3 : Int32)), (.int (p1 &&& (7 : Int32)))])) _
        refine XS.icmpNo X19.here hx rfl (hb hby at_117) rfl (flt (show ¬ ((3 : Int32) < (p1 &&& (7 : Int32))) from by rw [hc20_14]; decide)).2.2.1 ?_
        show Steps p.tables e below (T19.setTop (mkF m 120 #[.val (.int p1), .val (.int (p1 &&& (7 : Int32))), .val (.ref w_DATE), .val (.int (2 : Int32)), .val (.int (2 : Int32)), .unset] [])) _
        refine XS.iload X19.here hx rfl (hb hby at_120) rfl ?_
        exact k)
      obtain ⟨_, _, ⟨T22, L22, k22, n22⟩, -, X22, ⟨Lc22, hQ22, l22, y22, z22⟩, st22⟩ := Jvm.LawKit.callS X19 hx (y := (⟨"com/example/knit/knit/exslt/SchemaDateTime$Type", "ofPrecision", "(I)Lcom/example/knit/knit/exslt/SchemaDateTime$Type;"⟩ : MethodName)) hown (mvT hZ (hw _ (List.mem_of_getElem? (i := 14) rfl))) (mvT hZ (hw _ (List.mem_of_getElem? (i := 15) rfl))) (mvT hZ (hw _ (List.mem_of_getElem? (i := 1) rfl))) (mvT hZ (hw _ (List.mem_of_getElem? (i := 16) rfl))) (by decide) (backOf (W := 0) (rm_ofp l Z a0 hw [] (2 : Int32) w_DATE_TIME w_G_YEAR w_G_DAY w_TIME_OF_DAY w_G_YEAR_MONTH w_DATE w_G_MONTH_DAY w_G_MONTH h0 n0 Z0 O0 P') hZ (hw _ (List.mem_of_getElem? (i := 16) rfl)) (hw _ (List.mem_of_getElem? (i := 1) rfl)) (by decide) (by decide)) (g := (mkF m 122 #[.val (.int p1), .val (.int (p1 &&& (7 : Int32))), .val (.ref w_DATE), .val (.int (2 : Int32)), .val (.int (2 : Int32)), .unset] [(.int (2 : Int32))])) rfl (by rw [hml]; rfl) (argsL := [(.int (2 : Int32))]) (rest := []) (lenOf pd_1 rfl) rfl (by show 2 * 0 + _ ≤ _; exact Nat.le_of_eq rfl) (hb hby at_122) (fun _ _ => ⟨rfl, e19, (by decide : 0 + 0 ≤ _), (by decide : 0 + 0 ≤ _)⟩)
      dsimp only [Pt.U, Pt.locs, Pt.cells, Pt.slots] at X22 l22 y22 z22 st22 hQ22
      subst l22 y22 z22
      obtain ⟨hv22, N22q, e22⟩ := hQ22
      rw [(show (if (2 : Int32) = (0 : Int32) then w_G_YEAR else if (2 : Int32) = (1 : Int32) then w_G_YEAR_MONTH else if (2 : Int32) = (2 : Int32) then w_DATE else w_DATE_TIME) = w_DATE from by simp)] at hv22
      subst hv22
      have N22 := Fr.app N19 N22q
      have pre23 : ∀ t, Steps p.tables e below (T22.setTop (mkF m 125 #[.val (.int p1), .val (.int (p1 &&& (7 : Int32))), .val (.ref w_DATE), .val (.int (2 : Int32)), .val (.int (2 : Int32)), .unset] [(.ref w_DATE)])) t → Steps p.tables e below (s₁.setTop (entryFrame m #[(.int p1)] maxLocals)) t := fun t k => pre21 t (st22 t k)
      have pre24 : ∀ t, Steps p.tables e below (T22.setTop (mkF m 152 #[.val (.int p1), .val (.int (p1 &&& (7 : Int32))), .val (.ref w_DATE), .val (.int (2 : Int32)), .val (.int (2 : Int32)), .val (.int (1 : Int32))] [(.int (1 : Int32))])) t → Steps p.tables e below (s₁.setTop (entryFrame m #[(.int p1)] maxLocals)) t := fun t k => pre23 t (by
        show Steps p.tables e below (T22.setTop (mkF m 125 #[.val (.int p1), .val (.int (p1 &&& (7 : Int32))), .val (.ref w_DATE), .val (.int (2 : Int32)), .val (.int (2 : Int32)), .unset] [(.ref w_DATE)])) _
        refine XS.aloadN X22.here hx rfl (hb hby at_125) rfl rfl ?_
        show Steps p.tables e below (T22.setTop (mkF m 126 #[.val (.int p1), .val (.int (p1 &&& (7 : Int32))), .val (.ref w_DATE), .val (.int (2 : Int32)), .val (.int (2 : Int32)), .unset] [(.ref w_DATE), (.ref w_DATE)])) _
        refine Jvm.RoadKit.acmp (g := (mkF m 126 #[.val (.int p1), .val (.int (p1 &&& (7 : Int32))), .val (.ref w_DATE), .val (.int (2 : Int32)), .val (.int (2 : Int32)), .unset] [(.ref w_DATE), (.ref w_DATE)])) X22 hx rfl rfl rfl (pc0 := 126) (pc' := 129) (same := true) rfl (hb hby at_126) rfl (decide_eq_true rfl) (by decide) (by decide) ?_
        show Steps p.tables e below (T22.setTop (mkF m 129 #[.val (.int p1), .val (.int (p1 &&& (7 : Int32))), .val (.ref w_DATE), .val (.int (2 : Int32)), .val (.int (2 : Int32)), .unset] [])) _
        refine XS.iconst X22.here hx rfl (hb hby at_129) ?_
        show Steps p.tables e below (T22.setTop (mkF m 130 #[.val (.int p1), .val (.int (p1 &&& (7 : Int32))), .val (.ref w_DATE), .val (.int (2 : Int32)), .val (.int (2 : Int32)), .unset] [(.int (1 : Int32))])) _
        refine XS.goto X22.here hx rfl (pc0 := 130) (pc' := 134) rfl (hb hby at_130) (by decide) (by decide) ?_
        show Steps p.tables e below (T22.setTop (mkF m 134 #[.val (.int p1), .val (.int (p1 &&& (7 : Int32))), .val (.ref w_DATE), .val (.int (2 : Int32)), .val (.int (2 : Int32)), .unset] [(.int (1 : Int32))])) _
        refine XS.istore X22.here hx rfl (hb hby at_134) rfl (l' := #[.val (.int p1), .val (.int (p1 &&& (7 : Int32))), .val (.ref w_DATE), .val (.int (2 : Int32)), .val (.int (2 : Int32)), .val (.int (1 : Int32))]) rfl ?_
        show Steps p.tables e below (T22.setTop (mkF m 136 #[.val (.int p1), .val (.int (p1 &&& (7 : Int32))), .val (.ref w_DATE), .val (.int (2 : Int32)), .val (.int (2 : Int32)), .val (.int (1 : Int32))] [])) _
        refine XS.iload X22.here hx rfl (hb hby at_136) rfl ?_
        show Steps p.tables e below (T22.setTop (mkF m 138 #[.val (.int p1), .val (.int (p1 &&& (7 : Int32))), .val (.ref w_DATE), .val (.int (2 : Int32)), .val (.int (2 : Int32)), .val (.int (1 : Int32))] [(.int (2 : Int32))])) _
        refine XS.iloadN X22.here hx rfl (hb hby at_138) rfl ?_
        show Steps p.tables e below (T22.setTop (mkF m 139 #[.val (.int p1), .val (.int (p1 &&& (7 : Int32))), .val (.ref w_DATE), .val (.int (2 : Int32)), .val (.int (2 : Int32)), .val (.int (1 : Int32))] [(.int (2 : Int32)), (.int (2 : Int32))])) _
        refine XS.icmpNo X22.here hx rfl (hb hby at_139) rfl (teq (by decide : (2 : Int32) = (2 : Int32))).2 ?_
        show Steps p.tables e below (T22.setTop (mkF m 142 #[.val (.int p1), .val (.int (p1 &&& (7 : Int32))), .val (.ref w_DATE), .val (.int (2 : Int32)), .val (.int (2 : Int32)), .val (.int (1 : Int32))] [])) _
        refine XS.iload X22.here hx rfl (hb hby at_142) rfl ?_
        show Steps p.tables e below (T22.setTop (mkF m 144 #[.val (.int p1), .val (.int (p1 &&& (7 : Int32))), .val (.ref w_DATE), .val (.int (2 : Int32)), .val (.int (2 : Int32)), .val (.int (1 : Int32))] [(.int (1 : Int32))])) _
        refine XS.ifNo X22.here hx rfl (hb hby at_144) rfl ((if0 _ _).trans (feq (by decide : ¬ ((1 : Int32) = (0 : Int32)))).1) ?_
        show Steps p.tables e below (T22.setTop (mkF m 147 #[.val (.int p1), .val (.int (p1 &&& (7 : Int32))), .val (.ref w_DATE), .val (.int (2 : Int32)), .val (.int (2 : Int32)), .val (.int (1 : Int32))] [])) _
        refine XS.iconst X22.here hx rfl (hb hby at_147) ?_
        show Steps p.tables e below (T22.setTop (mkF m 148 #[.val (.int p1), .val (.int (p1 &&& (7 : Int32))), .val (.ref w_DATE), .val (.int (2 : Int32)), .val (.int (2 : Int32)), .val (.int (1 : Int32))] [(.int (1 : Int32))])) _
        refine XS.goto X22.here hx rfl (pc0 := 148) (pc' := 152) rfl (hb hby at_148) (by decide) (by decide) ?_
        exact k)
      obtain ⟨fs, hr, hrun, hended, hW, hsame⟩ := X22.leave (v := some (.int (1 : Int32))) (fun h => by rw [Bd.returns] at h; cases h)
      refine ⟨_, _, pre24 _ ?_, hrun, hended, _, _, rfl, ?_, ⟨_, rfl⟩, hW, hsame.mono (by decide) (by decide)⟩
      · exact retN X22 hx (t := .boolean) Bd.returns (by simp) (hb hby at_152) hr
      · show Q_rm_law Z p1 w_DATE_TIME w_G_YEAR w_G_DAY w_TIME_OF_DAY w_G_YEAR_MONTH w_DATE w_G_MONTH_DAY w_G_MONTH h0 n0 _ T22.heap _
        rw [e22]
        exact ⟨rfl, N22⟩
    · have pre25 : ∀ t, Steps p.tables e below (s₁.setTop (mkF m 34 #[.val (.int p1), .val (.int (p1 &&& (7 : Int32))), .unset, .unset, .unset, .unset] [(.int (2 : Int32)), (.int (p1 &&& (7 : Int32)))])) t → Steps p.tables e below (s₁.setTop (entryFrame m #[(.int p1)] maxLocals)) t := fun t k => pre13 t (by
        show Steps p.tables e below (s₁.setTop (mkF m 20 #[.val (.int p1), .val (.int (p1 &&& (7 : Int32))), .unset, .unset, .unset, .unset] [(.int (1 : Int32)), (.int (p1 &&& (7 : Int32)))])) _
        refine XS.icmpYes X0.here hx rfl (pc0 := 20) (pc' := 32) rfl (hb hby at_20) rfl (feq hc20_14).2 (by decide) (by decide) ?_
        show Steps p.tables e below (s₁.setTop (mkF m 32 #[.val (.int p1), .val (.int (p1 &&& (7 : Int32))), .unset, .unset, .unset, .unset] [])) _
        refine XS.iloadN X0.here hx rfl (hb hby at_32) rfl ?_
        show Steps p.tables e below (s₁.setTop (mkF m 33 #[.val (.int p1), .val (.int (p1 &&& (7 : Int32))), .unset, .unset, .unset, .unset] [(.int (p1 &&& (7 : Int32)))])) _
        refine XS.iconst X0.here hx rfl (hb hby at_33) ?_
        exact k)
      by_cases hc34_26 : (p1 &&& (7 : Int32)) = (2 : Int32)
      · have pre27 : ∀ t, Steps p.tables e below (s₁.setTop (mkF m 37 #[.val (.int p1), .val (.int (p1 &&& (7 : Int32))), .unset, .unset, .unset, .unset] [])) t → Steps p.tables e below (s₁.setTop (entryFrame m #[(.int p1)] maxLocals)) t := fun t k => pre25 t (by
          show Steps p.tables e below (s₁.setTop (mkF m 34 #[.val (.int p1), .val (.int (p1 &&& (7 : Int32))), .unset, .unset, .unset, .unset] [(.int (2 : Int32)), (.int (p1 &&& (7 : Int32)))])) _
          refine XS.icmpNo X0.here hx rfl (hb hby at_34) rfl (teq hc34_26).2 ?_
          exact k)
        obtain ⟨T28, X28, e28, st28⟩ := getS2 X0 hx hZ hown (host := "") (Or.inl (hw _ (List.mem_of_getElem? (i := 25) rfl))) Via.refl e0 (Sta.ext O0 S_G_YEAR_MONTH) (g := (mkF m 37 #[.val (.int p1), .val (.int (p1 &&& (7 : Int32))), .unset, .unset, .unset, .unset] [])) rfl (hb hby at_37)
        have pre29 : ∀ t, Steps p.tables e below (T28.setTop (mkF m 40 #[.val (.int p1), .val (.int (p1 &&& (7 : Int32))), .unset, .unset, .unset, .unset] [(.ref w_G_YEAR_MONTH)])) t → Steps p.tables e below (s₁.setTop (entryFrame m #[(.int p1)] maxLocals)) t := fun t k => pre27 t (st28 t k)
        have pre30 : ∀ t, Steps p.tables e below (T28.setTop (mkF m 110 #[.val (.int p1), .val (.int (p1 &&& (7 : Int32))), .val (.ref w_G_YEAR_MONTH), .val (.int (1 : Int32)), .unset, .unset] [(.ref w_G_YEAR_MONTH)])) t → Steps p.tables e below (s₁.setTop (entryFrame m #[(.int p1)] maxLocals)) t := fun t k => pre29 t (by
          show Steps p.tables e below (T28.setTop (mkF m 40 #[.val (.int p1), .val (.int (p1 &&& (7 : Int32))), .unset, .unset, .unset, .unset] [(.ref w_G_YEAR_MONTH)])) _
          refine XS.astoreN X28.here hx rfl (hb hby at_40) rfl rfl (l' := #[.val (.int p1), .val (.int (p1 &&& (7 : Int32))), .val (.ref w_G_YEAR_MONTH), .unset, .unset, .unset]) rfl ?_
          show Steps p.tables e below (T28.setTop (mkF m 41 #[.val (.int p1), .val (.int (p1 &&& (7 : Int32))), .val (.ref w_G_YEAR_MONTH), .unset, .unset, .unset] [])) _
          refine XS.iconst X28.here hx rfl (hb hby at_41) ?_
          show Steps p.tables e below (T28.setTop (mkF m 42 #[.val (.int p1), .val (.int (p1 &&& (7 : Int32))), .val (.ref w_G_YEAR_MONTH), .unset, .unset, .unset] [(.int (1 : Int32))])) _
          refine XS.istoreN X28.here hx rfl (hb hby at_42) rfl (l' := #[.val (.int p1), .val (.int (p1 &&& (7 : Int32))), .val (.ref w_G_YEAR_MONTH), .val (.int (1 : Int32)), .unset, .unset]) rfl ?_
          show Steps p.tables e below (T28.setTop (mkF m 43 #[.val (.int p1), .val (.int (p1 &&& (7 : Int32))), .val (.ref w_G_YEAR_MONTH), .val (.int (1 : Int32)), .unset, .unset] [])) _
          refine XS.goto X28.here hx rfl (pc0 := 43) (pc' := 109) rfl (hb hby at_43) (by decide) (by decide) ?_
          show Steps p.tables e below (T28.setTop (mkF m 109 #[.val (.int p1), .val (.int (p1 &&& (7 : Int32))), .val (.ref w_G_YEAR_MONTH), .val (.int (1 : Int32)), .unset, .unset] [])) _
          refine XS.aloadN X28.here hx rfl (hb hby at_109) rfl rfl ?_
          exact k)
        obtain ⟨cq31, kq31, q31a, q31b, q31c⟩ := isOf hZ e28 (Exa.ext O0 E_G_YEAR_MONTH)
        obtain ⟨_, _, ⟨T31, L31, k31, n31⟩, -, X31, ⟨Lc31, hQ31, l31, y31, z31⟩, st31⟩ := X28.virtualBack hx (y := (⟨"com/example/knit/knit/exslt/SchemaDateTime$Type", "precision", "()I"⟩ : MethodName)) (z := (⟨"com/example/knit/knit/exslt/SchemaDateTime$Type", "precision", "()I"⟩ : MethodName)) hown (mvT hZ (hw _ (List.mem_of_getElem? (i := 3) rfl))) (mvT hZ (hw _ (List.mem_of_getElem? (i := 4) rfl))) (notFace_of_selects (args := #[]) (mvT hZ (hw _ (List.mem_of_getElem? (i := 6) rfl)))) (mvT hZ (hw _ (List.mem_of_getElem? (i := 6) rfl))) (mvT hZ (hw _ (List.mem_of_getElem? (i := 5) rfl))) (by decide) (backOf (W := 0) (rm_prec l Z a0 hw [] w_G_YEAR_MONTH (1 : Int32) (0 : Int32) (0 : Int32) h0 n0 Z0 O0 (Fld.ext O0 F_hasMonth_G_YEAR_MONTH) (Fld.ext O0 F_hasDay_G_YEAR_MONTH) (Fld.ext O0 F_hasTime_G_YEAR_MONTH)) hZ (hw _ (List.mem_of_getElem? (i := 7) rfl)) (hw _ (List.mem_of_getElem? (i := 1) rfl)) (by decide) (by decide)) q31a q31c (g := (mkF m 110 #[.val (.int p1), .val (.int (p1 &&& (7 : Int32))), .val (.ref w_G_YEAR_MONTH), .val (.int (1 : Int32)), .unset, .unset] [(.ref w_G_YEAR_MONTH)])) rfl (by rw [hml]; rfl) (Steps.refl _) (argsL := []) (rest := []) (lenOf pd_0 rfl) rfl (by show 2 * 0 + _ ≤ _; exact Nat.le_of_eq rfl) (hb hby at_110) (fun _ _ => ⟨rfl, e28, (by decide : 0 + 0 ≤ _), (by decide : 0 + 0 ≤ _)⟩)
        dsimp only [Pt.U, Pt.locs, Pt.cells, Pt.slots] at X31 l31 y31 z31 st31 hQ31
        subst l31 y31 z31
        obtain ⟨hv31, N31q, e31⟩ := hQ31
        rw [(show ((bF (1 : Int32) + bF (0 : Int32)) + bF (0 : Int32)) = (1 : Int32) from by decide)] at hv31
        subst hv31
        have N31 := Fr.app N0 N31q
        have pre32 : ∀ t, Steps p.tables e below (T31.setTop (mkF m 113 #[.val (.int p1), .val (.int (p1 &&& (7 : Int32))), .val (.ref w_G_YEAR_MONTH), .val (.int (1 : Int32)), .unset, .unset] [(.int (1 : Int32))])) t → Steps p.tables e below (s₁.setTop (entryFrame m #[(.int p1)] maxLocals)) t := fun t k => pre30 t (st31.trans k)
        have pre33 : ∀ t, Steps p.tables e below (T31.setTop (mkF m 122 #[.val (.int p1), .val (.int (p1 &&& (7 : Int32))), .val (.ref w_G_YEAR_MONTH), .val (.int (1 : Int32)), .val (.int (1 : Int32)), .unset] [(.int (1 : Int32))])) t → Steps p.tables e below (s₁.setTop (entryFrame m #[(.int p1)] maxLocals)) t := fun t k => pre32 t (by
          show Steps p.tables e below (T31.setTop (mkF m 113 #[.val (.int p1), .val (.int (p1 &&& (7 : Int32))), .val (.ref w_G_YEAR_MONTH), .val (.int (1 : Int32)), .unset, .unset] [(.int (1 : Int32))])) _
          refine XS.istore X31.here hx rfl (hb hby at_113) rfl (l' := #[.val (.int p1), .val (.int (p1 &&& (7 : Int32))), .val (.ref w_G_YEAR_MONTH), .val (.int (1 : Int32)), .val (.int (1 : Int32)), .unset]) rfl ?_
          show Steps p.tables e below (T31.setTop (mkF m 115 #[.val (.int p1), .val (.int (p1 &&& (7 : Int32))), .val (.ref w_G_YEAR_MONTH), .val (.int (1 : Int32)), .val (.int (1 : Int32)), .unset] [])) _
          refine XS.iloadN X31.here hx rfl (hb hby at_115) rfl ?_
          show Steps p.tables e below (T31.setTop (mkF m 116 #[.val (.int p1), .val (.int (p1 &&& (7 : Int32))), .val (.ref w_G_YEAR_MONTH), .val (.int (1 : Int32)), .val (.int (1 : Int32)), .unset] [(.int (p1 &&& (7 : Int32)))])) _
          refine XS.iconst X31.here hx rfl (hb hby at_116) ?_
          show Steps p.tables e below (T31.setTop (mkF m 117 #[.val (.int p1), .val (.int (p1 &&& (7 : Int32))), .val (.ref w_G_YEAR_MONTH), .val (.int (1 : Int32)), .val (.int (1 : Int32)), .unset] [(.int (3 : Int32)), (.int (p1 &&& (7 : Int32)))])) _
          refine XS.icmpNo X31.here hx rfl (hb hby at_117) rfl (flt (show ¬ ((3 : Int32) < (p1 &&& (7 : Int32))) from by rw [hc34_26]; decide)).2.2.1 ?_
          show Steps p.tables e below (T31.setTop (mkF m 120 #[.val (.int p1), .val (.int (p1 &&& (7 : Int32))), .val (.ref w_G_YEAR_MONTH), .val (.int (1 : Int32)), .val (.int (1 : Int32)), .unset] [])) _
          refine XS.iload X31.here hx rfl (hb hby at_120) rfl ?_
          exact k)
        obtain ⟨_, _, ⟨T34, L34, k34, n34⟩, -, X34, ⟨Lc34, hQ34, l34, y34, z34⟩, st34⟩ := Jvm.LawKit.callS X31 hx (y := (⟨"com/example/knit/knit/exslt/SchemaDateTime$Type", "ofPrecision", "(I)Lcom/example/knit/knit/exslt/SchemaDateTime$Type;"⟩ : MethodName)) hown (mvT hZ (hw _ (List.mem_of_getElem? (i := 14) rfl))) (mvT hZ (hw _ (List.mem_of_getElem? (i := 15) rfl))) (mvT hZ (hw _ (List.mem_of_getElem? (i := 1) rfl))) (mvT hZ (hw _ (List.mem_of_getElem? (i := 16) rfl))) (by decide) (backOf (W := 0) (rm_ofp l Z a0 hw [] (1 : Int32) w_DATE_TIME w_G_YEAR w_G_DAY w_TIME_OF_DAY w_G_YEAR_MONTH w_DATE w_G_MONTH_DAY w_G_MONTH h0 n0 Z0 O0 P') hZ (hw _ (List.mem_of_getElem? (i := 16) rfl)) (hw _ (List.mem_of_getElem? (i := 1) rfl)) (by decide) (by decide)) (g := (mkF m 122 #[.val (.int p1), .val (.int (p1 &&& (7 : Int32))), .val (.ref w_G_YEAR_MONTH), .val (.int (1 : Int32)), .val (.int (1 : Int32)), .unset] [(.int (1 : Int32))])) rfl (by rw [hml]; rfl) (argsL := [(.int (1 : Int32))]) (rest := []) (lenOf pd_1 rfl) rfl (by show 2 * 0 + _ ≤ _; exact Nat.le_of_eq rfl) (hb hby at_122) (fun _ _ => ⟨rfl, e31, (by decide : 0 + 0 ≤ _), (by decide : 0 + 0 ≤ _)⟩)
        dsimp only [Pt.U, Pt.locs, Pt.cells, Pt.slots] at X34 l34 y34 z34 st34 hQ34
        subst l34 y34 z34
        obtain ⟨hv34, N34q, e34⟩ := hQ34
        rw [(show (if (1 : Int32) = (0 : Int32) then w_G_YEAR else if (1 : Int32) = (1 : Int32) then w_G_YEAR_MONTH else if (1 : Int32) = (2 : Int32) then w_DATE else w_DATE_TIME) = w_G_YEAR_MONTH from by simp)] at hv34
        subst hv34
        have N34 := Fr.app N31 N34q
        have pre35 : ∀ t, Steps p.tables e below (T34.setTop (mkF m 125 #[.val (.int p1), .val (.int (p1 &&& (7 : Int32))), .val (.ref w_G_YEAR_MONTH), .val (.int (1 : Int32)), .val (.int (1 : Int32)), .unset] [(.ref w_G_YEAR_MONTH)])) t → Steps p.tables e below (s₁.setTop (entryFrame m #[(.int p1)] maxLocals)) t := fun t k => pre33 t (st34 t k)
        have pre36 : ∀ t, Steps p.tables e below (T34.setTop (mkF m 152 #[.val (.int p1), .val (.int (p1 &&& (7 : Int32))), .val (.ref w_G_YEAR_MONTH), .val (.int (1 : Int32)), .val (.int (1 : Int32)), .val (.int (1 : Int32))] [(.int (1 : Int32))])) t → Steps p.tables e below (s₁.setTop (entryFrame m #[(.int p1)] maxLocals)) t := fun t k => pre35 t (by
          show Steps p.tables e below (T34.setTop (mkF m 125 #[.val (.int p1), .val (.int (p1 &&& (7 : Int32))), .val (.ref w_G_YEAR_MONTH), .val (.int (1 : Int32)), .val (.int (1 : Int32)), .unset] [(.ref w_G_YEAR_MONTH)])) _
          refine XS.aloadN X34.here hx rfl (hb hby at_125) rfl rfl ?_
          show Steps p.tables e below (T34.setTop (mkF m 126 #[.val (.int p1), .val (.int (p1 &&& (7 : Int32))), .val (.ref w_G_YEAR_MONTH), .val (.int (1 : Int32)), .val (.int (1 : Int32)), .unset] [(.ref w_G_YEAR_MONTH), (.ref w_G_YEAR_MONTH)])) _
          refine Jvm.RoadKit.acmp (g := (mkF m 126 #[.val (.int p1), .val (.int (p1 &&& (7 : Int32))), .val (.ref w_G_YEAR_MONTH), .val (.int (1 : Int32)), .val (.int (1 : Int32)), .unset] [(.ref w_G_YEAR_MONTH), (.ref w_G_YEAR_MONTH)])) X34 hx rfl rfl rfl (pc0 := 126) (pc' := 129) (same := true) rfl (hb hby at_126) rfl (decide_eq_true rfl) (by decide) (by decide) ?_
          show Steps p.tables e below (T34.setTop (mkF m 129 #[.val (.int p1), .val (.int (p1 &&& (7 : Int32))), .val (.ref w_G_YEAR_MONTH), .val (.int (1 : Int32)), .val (.int (1 : Int32)), .unset] [])) _
          refine XS.iconst X34.here hx rfl (hb hby at_129) ?_
          show Steps p.tables e below (T34.setTop (mkF m 130 #[.val (.int p1), .val (.int (p1 &&& (7 : Int32))), .val (.ref w_G_YEAR_MONTH), .val (.int (1 : Int32)), .val (.int (1 : Int32)), .unset] [(.int (1 : Int32))])) _
          refine XS.goto X34.here hx rfl (pc0 := 130) (pc' := 134) rfl (hb hby at_130) (by decide) (by decide) ?_
          show Steps p.tables e below (T34.setTop (mkF m 134 #[.val (.int p1), .val (.int (p1 &&& (7 : Int32))), .val (.ref w_G_YEAR_MONTH), .val (.int (1 : Int32)), .val (.int (1 : Int32)), .unset] [(.int (1 : Int32))])) _
          refine XS.istore X34.here hx rfl (hb hby at_134) rfl (l' := #[.val (.int p1), .val (.int (p1 &&& (7 : Int32))), .val (.ref w_G_YEAR_MONTH), .val (.int (1 : Int32)), .val (.int (1 : Int32)), .val (.int (1 : Int32))]) rfl ?_
          show Steps p.tables e below (T34.setTop (mkF m 136 #[.val (.int p1), .val (.int (p1 &&& (7 : Int32))), .val (.ref w_G_YEAR_MONTH), .val (.int (1 : Int32)), .val (.int (1 : Int32)), .val (.int (1 : Int32))] [])) _
          refine XS.iload X34.here hx rfl (hb hby at_136) rfl ?_
          show Steps p.tables e below (T34.setTop (mkF m 138 #[.val (.int p1), .val (.int (p1 &&& (7 : Int32))), .val (.ref w_G_YEAR_MONTH), .val (.int (1 : Int32)), .val (.int (1 : Int32)), .val (.int (1 : Int32))] [(.int (1 : Int32))])) _
          refine XS.iloadN X34.here hx rfl (hb hby at_138) rfl ?_
          show Steps p.tables e below (T34.setTop (mkF m 139 #[.val (.int p1), .val (.int (p1 &&& (7 : Int32))), .val (.ref w_G_YEAR_MONTH), .val (.int (1 : Int32)), .val (.int (1 : Int32)), .val (.int (1 : Int32))] [(.int (1 : Int32)), (.int (1 : Int32))])) _
          refine XS.icmpNo X34.here hx rfl (hb hby at_139) rfl (teq (by decide : (1 : Int32) = (1 : Int32))).2 ?_
          show Steps p.tables e below (T34.setTop (mkF m 142 #[.val (.int p1), .val (.int (p1 &&& (7 : Int32))), .val (.ref w_G_YEAR_MONTH), .val (.int (1 : Int32)), .val (.int (1 : Int32)), .val (.int (1 : Int32))] [])) _
          refine XS.iload X34.here hx rfl (hb hby at_142) rfl ?_
          show Steps p.tables e below (T34.setTop (mkF m 144 #[.val (.int p1), .val (.int (p1 &&& (7 : Int32))), .val (.ref w_G_YEAR_MONTH), .val (.int (1 : Int32)), .val (.int (1 : Int32)), .val (.int (1 : Int32))] [(.int (1 : Int32))])) _
          refine XS.ifNo X34.here hx rfl (hb hby at_144) rfl ((if0 _ _).trans (feq (by decide : ¬ ((1 : Int32) = (0 : Int32)))).1) ?_
          show Steps p.tables e below (T34.setTop (mkF m 147 #[.val (.int p1), .val (.int (p1 &&& (7 : Int32))), .val (.ref w_G_YEAR_MONTH), .val (.int (1 : Int32)), .val (.int (1 : Int32)), .val (.int (1 : Int32))] [])) _
          refine XS.iconst X34.here hx rfl (hb hby at_147) ?_
          show Steps p.tables e below (T34.setTop (mkF m 148 #[.val (.int p1), .val (.int (p1 &&& (7 : Int32))), .val (.ref w_G_YEAR_MONTH), .val (.int (1 : Int32)), .val (.int (1 : Int32)), .val (.int (1 : Int32))] [(.int (1 : Int32))])) _
          refine XS.goto X34.here hx rfl (pc0 := 148) (pc' := 152) rfl (hb hby at_148) (by decide) (by decide) ?_
          exact k)
        obtain ⟨fs, hr, hrun, hended, hW, hsame⟩ := X34.leave (v := some (.int (1 : Int32))) (fun h => by rw [Bd.returns] at h; cases h)
        refine ⟨_, _, pre36 _ ?_, hrun, hended, _, _, rfl, ?_, ⟨_, rfl⟩, hW, hsame.mono (by decide) (by decide)⟩
        · exact retN X34 hx (t := .boolean) Bd.returns (by simp) (hb hby at_152) hr
        · show Q_rm_law Z p1 w_DATE_TIME w_G_YEAR w_G_DAY w_TIME_OF_DAY w_G_YEAR_MONTH w_DATE w_G_MONTH_DAY w_G_MONTH h0 n0 _ T34.heap _
          rw [e34]
          exact ⟨rfl, N34⟩
      · have pre37 : ∀ t, Steps p.tables e below (s₁.setTop (mkF m 48 #[.val (.int p1), .val (.int (p1 &&& (7 : Int32))), .unset, .unset, .unset, .unset] [(.int (3 : Int32)), (.int (p1 &&& (7 : Int32)))])) t → Steps p.tables e below (s₁.setTop (entryFrame m #[(.int p1)] maxLocals)) t := fun t k => pre25 t (by
          show Steps p.tables e below (s₁.setTop (mkF m 34 #[.val (.int p1), .val (.int (p1 &&& (7 : Int32))), .unset, .unset, .unset, .unset] [(.int (2 : Int32)), (.int (p1 &&& (7 : Int32)))])) _
          refine XS.icmpYes X0.here hx rfl (pc0 := 34) (pc' := 46) rfl (hb hby at_34) rfl (feq hc34_26).2 (by decide) (by decide) ?_
          show Steps p.tables e below (s₁.setTop (mkF m 46 #[.val (.int p1), .val (.int (p1 &&& (7 : Int32))), .unset, .unset, .unset, .unset] [])) _
          refine XS.iloadN X0.here hx rfl (hb hby at_46) rfl ?_
          show Steps p.tables e below (s₁.setTop (mkF m 47 #[.val (.int p1), .val (.int (p1 &&& (7 : Int32))), .unset, .unset, .unset, .unset] [(.int (p1 &&& (7 : Int32)))])) _
          refine XS.iconst X0.here hx rfl (hb hby at_47) ?_
          exact k)
        by_cases hc48_38 : (p1 &&& (7 : Int32)) = (3 : Int32)
        · have pre39 : ∀ t, Steps p.tables e below (s₁.setTop (mkF m 51 #[.val (.int p1), .val (.int (p1 &&& (7 : Int32))), .unset, .unset, .unset, .unset] [])) t → Steps p.tables e below (s₁.setTop (entryFrame m #[(.int p1)] maxLocals)) t := fun t k => pre37 t (by
            show Steps p.tables e below (s₁.setTop (mkF m 48 #[.val (.int p1), .val (.int (p1 &&& (7 : Int32))), .unset, .unset, .unset, .unset] [(.int (3 : Int32)), (.int (p1 &&& (7 : Int32)))])) _
            refine XS.icmpNo X0.here hx rfl (hb hby at_48) rfl (teq hc48_38).2 ?_
            exact k)
          obtain ⟨T40, X40, e40, st40⟩ := getS2 X0 hx hZ hown (host := "") (Or.inl (hw _ (List.mem_of_getElem? (i := 18) rfl))) Via.refl e0 (Sta.ext O0 S_G_YEAR) (g := (mkF m 51 #[.val (.int p1), .val (.int (p1 &&& (7 : Int32))), .unset, .unset, .unset, .unset] [])) rfl (hb hby at_51)
          have pre41 : ∀ t, Steps p.tables e below (T40.setTop (mkF m 54 #[.val (.int p1), .val (.int (p1 &&& (7 : Int32))), .unset, .unset, .unset, .unset] [(.ref w_G_YEAR)])) t → Steps p.tables e below (s₁.setTop (entryFrame m #[(.int p1)] maxLocals)) t := fun t k => pre39 t (st40 t k)
          have pre42 : ∀ t, Steps p.tables e below (T40.setTop (mkF m 110 #[.val (.int p1), .val (.int (p1 &&& (7 : Int32))), .val (.ref w_G_YEAR), .val (.int (0 : Int32)), .unset, .unset] [(.ref w_G_YEAR)])) t → Steps p.tables e below (s₁.setTop (entryFrame m #[(.int p1)] maxLocals)) t := fun t k => pre41 t (by
            show Steps p.tables e below (T40.setTop (mkF m 54 #[.val (.int p1), .val (.int (p1 &&& (7 : Int32))), .unset, .unset, .unset, .unset] [(.ref w_G_YEAR)])) _
            refine XS.astoreN X40.here hx rfl (hb hby at_54) rfl rfl (l' := #[.val (.int p1), .val (.int (p1 &&& (7 : Int32))), .val (.ref w_G_YEAR), .unset, .unset, .unset]) rfl ?_
            show Steps p.tables e below (T40.setTop (mkF m 55 #[.val (.int p1), .val (.int (p1 &&& (7 : Int32))), .val (.ref w_G_YEAR), .unset, .unset, .unset] [])) _
            refine XS.iconst X40.here hx rfl (hb hby at_55) ?_
            show Steps p.tables e below (T40.setTop (mkF m 56 #[.val (.int p1), .val (.int (p1 &&& (7 : Int32))), .val (.ref w_G_YEAR), .unset, .unset, .unset] [(.int (0 : Int32))])) _
            refine XS.istoreN X40.here hx rfl (hb hby at_56) rfl (l' := #[.val (.int p1), .val (.int (p1 &&& (7 : Int32))), .val (.ref w_G_YEAR), .val (.int (0 : Int32)), .unset, .unset]) rfl ?_
            show Steps p.tables e below (T40.setTop (mkF m 57 #[.val (.int p1), .val (.int (p1 &&& (7 : Int32))), .val (.ref w_G_YEAR), .val (.int (0 : Int32)), .unset, .unset] [])) _
            refine XS.goto X40.here hx rfl (pc0 := 57) (pc' := 109) rfl (hb hby at_57) (by decide) (by decide) ?_
            show Steps p.tables e below (T40.setTop (mkF m 109 #[.val (.int p1), .val (.int (p1 &&& (7 : Int32))), .val (.ref w_G_YEAR), .val (.int (0 : Int32)), .unset, .unset] [])) _
            refine XS.aloadN X40.here hx rfl (hb hby at_109) rfl rfl ?_
            exact k)
          obtain ⟨cq43, kq43, q43a, q43b, q43c⟩ := isOf hZ e40 (Exa.ext O0 E_G_YEAR)
          obtain ⟨_, _, ⟨T43, L43, k43, n43⟩, -, X43, ⟨Lc43, hQ43, l43, y43, z43⟩, st43⟩ := X40.virtualBack hx (y := (⟨"com/example/knit/knit/exslt/SchemaDateTime$Type", "precision", "()I"⟩ : MethodName)) (z := (⟨"com/example/knit/knit/exslt/SchemaDateTime$Type", "precision", "()I"⟩ : MethodName)) hown (mvT hZ (hw _ (List.mem_of_getElem? (i := 3) rfl))) (mvT hZ (hw _ (List.mem_of_getElem? (i := 4) rfl))) (notFace_of_selects (args := #[]) (mvT hZ (hw _ (List.mem_of_getElem? (i := 6) rfl)))) (mvT hZ (hw _ (List.mem_of_getElem? (i := 6) rfl))) (mvT hZ (hw _ (List.mem_of_getElem? (i := 5) rfl))) (by decide) (backOf (W := 0) (rm_prec l Z a0 hw [] w_G_YEAR (0 : Int32) (0 : Int32) (0 : Int32) h0 n0 Z0 O0 (Fld.ext O0 F_hasMonth_G_YEAR) (Fld.ext O0 F_hasDay_G_YEAR) (Fld.ext O0 F_hasTime_G_YEAR)) hZ (hw _ (List.mem_of_getElem? (i := 7) rfl)) (hw _ (List.mem_of_getElem? (i := 1) rfl)) (by decide) (by decide)) q43a q43c (g := (mkF m 110 #[.val (.int p1), .val (.int (p1 &&& (7 : Int32))), .val (.ref w_G_YEAR), .val (.int (0 : Int32)), .unset, .unset] [(.ref w_G_YEAR)])) rfl (by rw [hml]; rfl) (Steps.refl _) (argsL := []) (rest := []) (lenOf pd_0 rfl) rfl (by show 2 * 0 + _ ≤ _; exact Nat.le_of_eq rfl) (hb hby at_110) (fun _ _ => ⟨rfl, e40, (by decide : 0 + 0 ≤ _), (by decide : 0 + 0 ≤ _)⟩)
          dsimp only [Pt.U, Pt.locs, Pt.cells, Pt.slots] at X43 l43 y43 z43 st43 hQ43
          subst l43 y43 z43
          obtain ⟨hv43, N43q, e43⟩ := hQ43
          rw [(show ((bF (0 : Int32) + bF (0 : Int32)) + bF (0 : Int32)) = (0 : Int32) from by decide)] at hv43
          subst hv43
          have N43 := Fr.app N0 N43q
          have pre44 : ∀ t, Steps p.tables e below (T43.setTop (mkF m 113 #[.val (.int p1), .val (.int (p1 &&& (7 : Int32))), .val (.ref w_G_YEAR), .val (.int (0 : Int32)), .unset, .unset] [(.int (0 : Int32))])) t → Steps p.tables e below (s₁.setTop (entryFrame m #[(.int p1)] maxLocals)) t := fun t k => pre42 t (st43.trans k)
          have pre45 : ∀ t, Steps p.tables e below (T43.setTop (mkF m 122 #[.val (.int p1), .val (.int (p1 &&& (7 : Int32))), .val (.ref w_G_YEAR), .val (.int (0 : Int32)), .val (.int (0 : Int32)), .unset] [(.int (0 : Int32))])) t → Steps p.tables e below (s₁.setTop (entryFrame m #[(.int p1)] maxLocals)) t := fun t k => pre44 t (by
            show Steps p.tables e below (T43.setTop (mkF m 113 #[.val (.int p1), .val (.int (p1 &&& (7 : Int32))), .val (.ref w_G_YEAR), .val (.int (0 : Int32)), .unset, .unset] [(.int (0 : Int32))])) _
            refine XS.istore X43.here hx rfl (hb hby at_113) rfl (l' := #[.val (.int p1), .val (.int (p1 &&& (7 : Int32))), .val (.ref w_G_YEAR), .val (.int (0 : Int32)), .val (.int (0 : Int32)), .unset]) rfl ?_
            show Steps p.tables e below (T43.setTop (mkF m 115 #[.val (.int p1), .val (.int (p1 &&& (7 : Int32))), .val (.ref w_G_YEAR), .val (.int (0 : Int32)), .val (.int (0 : Int32)), .unset] [])) _
            refine XS.iloadN X43.here hx rfl (hb hby at_115) rfl ?_
            show Steps p.tables e below (T43.setTop (mkF m 116 #[.val (.int p1), .val (.int (p1 &&& (7 : Int32))), .val (.ref w_G_YEAR), .val (.int (0 : Int32)), .val (.int (0 : Int32)), .unset] [(.int (p1 &&& (7 : Int32)))])) _
            refine XS.iconst X43.here hx rfl (hb hby at_116) ?_
            show Steps p.tables e below (T43.setTop (mkF m 117 #[.val (.int p1), .val (.int (p1 &&& (7 : Int32))), .val (.ref w_G_YEAR), .val (.int (0 : Int32)), .val (.int (0 : Int32)), .unset] [(.int (3 : Int32)), (.int (p1 &&& (7 : Int32)))])) _
            refine XS.icmpNo X43.here hx rfl (hb hby at_117) rfl (flt (show ¬ ((3 : Int32) < (p1 &&& (7 : Int32))) from by rw [hc48_38]; decide)).2.2.1 ?_
            show Steps p.tables e below (T43.setTop (mkF m 120 #[.val (.int p1), .val (.int (p1 &&& (7 : Int32))), .val (.ref w_G_YEAR), .val (.int (0 : Int32)), .val (.int (0 : Int32)), .unset] [])) _
            refine XS.iload X43.here hx rfl (hb hby at_120) rfl ?_
            exact k)
          obtain ⟨_, _, ⟨T46, L46, k46, n46⟩, -, X46, ⟨Lc46, hQ46, l46, y46, z46⟩, st46⟩ := Jvm.LawKit.callS X43 hx (y := (⟨"com/example/knit/knit/exslt/SchemaDateTime$Type", "ofPrecision", "(I)Lcom/example/knit/knit/exslt/SchemaDateTime$Type;"⟩ : MethodName)) hown (mvT hZ (hw _ (List.mem_of_getElem? (i := 14) rfl))) (mvT hZ (hw _ (List.mem_of_getElem? (i := 15) rfl))) (mvT hZ (hw _ (List.mem_of_getElem? (i := 1) rfl))) (mvT hZ (hw _ (List.mem_of_getElem? (i := 16) rfl))) (by decide) (backOf (W := 0) (rm_ofp l Z a0 hw [] (0 : Int32) w_DATE_TIME w_G_YEAR w_G_DAY w_TIME_OF_DAY w_G_YEAR_MONTH w_DATE w_G_MONTH_DAY w_G_MONTH h0 n0 Z0 O0 P') hZ (hw _ (List.mem_of_getElem? (i := 16) rfl)) (hw _ (List.mem_of_getElem? (i := 1) rfl)) (by decide) (by decide)) (g := (mkF m 122 #[.val (.int p1), .val (.int (p1 &&& (7 : Int32))), .val (.ref w_G_YEAR), .val (.int (0 : Int32)), .val (.int (0 : Int32)), .unset] [(.int (0 : Int32))])) rfl (by rw [hml]; rfl) (argsL := [(.int (0 : Int32))]) (rest := []) (lenOf pd_1 rfl) rfl (by show 2 * 0 + _ ≤ _; exact Nat.le_of_eq rfl) (hb hby at_122) (fun _ _ => ⟨rfl, e43, (by decide : 0 + 0 ≤ _), (by decide : 0 + 0 ≤ _)⟩)
          dsimp only [Pt.U, Pt.locs, Pt.cells, Pt.slots] at X46 l46 y46 z46 st46 hQ46
          subst l46 y46 z46
          obtain ⟨hv46, N46q, e46⟩ := hQ46
          rw [(show (if (0 : Int32) = (0 : Int32) then w_G_YEAR else if (0 : Int32) = (1 : Int32) then w_G_YEAR_MONTH else if (0 : Int32) = (2 : Int32) then w_DATE else w_DATE_TIME) = w_G_YEAR from by simp)] at hv46
          subst hv46
          have N46 := Fr.app N43 N46q
          have pre47 : ∀ t, Steps p.tables e below (T46.setTop (mkF m 125 #[.val (.int p1), .val (.int (p1 &&& (7 : Int32))), .val (.ref w_G_YEAR), .val (.int (0 : Int32)), .val (.int (0 : Int32)), .unset] [(.ref w_G_YEAR)])) t → Steps p.tables e below (s₁.setTop (entryFrame m #[(.int p1)] maxLocals)) t := fun t k => pre45 t (st46 t k)
          have pre48 : ∀ t, Steps p.tables e below (T46.setTop (mkF m 152 #[.val (.int p1), .val (.int (p1 &&& (7 : Int32))), .val (.ref w_G_YEAR), .val (.int (0 : Int32)), .val (.int (0 : Int32)), .val (.int (1 : Int32))] [(.int (1 : Int32))])) t → Steps p.tables e below (s₁.setTop (entryFrame m #[(.int p1)] maxLocals)) t := fun t k => pre47 t (by
            show Steps p.tables e below (T46.setTop (mkF m 125 #[.val (.int p1), .val (.int (p1 &&& (7 : Int32))), .val (.ref w_G_YEAR), .val (.int (0 : Int32)), .val (.int (0 : Int32)), .unset] [(.ref w_G_YEAR)])) _
            refine XS.aloadN X46.here hx rfl (hb hby at_125) rfl rfl ?_
            show Steps p.tables e below (T46.setTop (mkF m 126 #[.val (.int p1), .val (.int (p1 &&& (7 : Int32))), .val (.ref w_G_YEAR), .val (.int (0 : Int32)), .val (.int (0 : Int32)), .unset] [(.ref w_G_YEAR), (.ref w_G_YEAR)])) _
            refine Jvm.RoadKit.acmp (g := (mkF m 126 #[.val (.int p1), .val (.int (p1 &&& (7 : Int32))), .val (.ref w_G_YEAR), .val (.int (0 : Int32)), .val (.int (0 : Int32)), .unset] [(.ref w_G_YEAR), (.ref w_G_YEAR)])) X46 hx rfl rfl rfl (pc0 := 126) (pc' := 129) (same := true) rfl (hb hby at_126) rfl (decide_eq_true rfl) (by decide) (by decide) ?_
            show Steps p.tables e below (T46.setTop (mkF m 129 #[.val (.int p1), .val (.int (p1 &&& (7 : Int32))), .val (.ref w_G_YEAR), .val (.int (0 : Int32)), .val (.int (0 : Int32)), .unset] [])) _
            refine XS.iconst X46.here hx rfl (hb hby at_129) ?_
            show Steps p.tables e below (T46.setTop (mkF m 130 #[.val (.int p1), .val (.int (p1 &&& (7 : Int32))), .val (.ref w_G_YEAR), .val (.int (0 : Int32)), .val (.int (0 : Int32)), .unset] [(.int (1 : Int32))])) _
            refine XS.goto X46.here hx rfl (pc0 := 130) (pc' := 134) rfl (hb hby at_130) (by decide) (by decide) ?_
            show Steps p.tables e below (T46.setTop (mkF m 134 #[.val (.int p1), .val (.int (p1 &&& (7 : Int32))), .val (.ref w_G_YEAR), .val (.int (0 : Int32)), .val (.int (0 : Int32)), .unset] [(.int (1 : Int32))])) _
            refine XS.istore X46.here hx rfl (hb hby at_134) rfl (l' := #[.val (.int p1), .val (.int (p1 &&& (7 : Int32))), .val (.ref w_G_YEAR), .val (.int (0 : Int32)), .val (.int (0 : Int32)), .val (.int (1 : Int32))]) rfl ?_
            show Steps p.tables e below (T46.setTop (mkF m 136 #[.val (.int p1), .val (.int (p1 &&& (7 : Int32))), .val (.ref w_G_YEAR), .val (.int (0 : Int32)), .val (.int (0 : Int32)), .val (.int (1 : Int32))] [])) _
            refine XS.iload X46.here hx rfl (hb hby at_136) rfl ?_
            show Steps p.tables e below (T46.setTop (mkF m 138 #[.val (.int p1), .val (.int (p1 &&& (7 : Int32))), .val (.ref w_G_YEAR), .val (.int (0 : Int32)), .val (.int (0 : Int32)), .val (.int (1 : Int32))] [(.int (0 : Int32))])) _
            refine XS.iloadN X46.here hx rfl (hb hby at_138) rfl ?_
            show Steps p.tables e below (T46.setTop (mkF m 139 #[.val (.int p1), .val (.int (p1 &&& (7 : Int32))), .val (.ref w_G_YEAR), .val (.int (0 : Int32)), .val (.int (0 : Int32)), .val (.int (1 : Int32))] [(.int (0 : Int32)), (.int (0 : Int32))])) _
            refine XS.icmpNo X46.here hx rfl (hb hby at_139) rfl (teq (by decide : (0 : Int32) = (0 : Int32))).2 ?_
            show Steps p.tables e below (T46.setTop (mkF m 142 #[.val (.int p1), .val (.int (p1 &&& (7 : Int32))), .val (.ref w_G_YEAR), .val (.int (0 : Int32)), .val (.int (0 : Int32)), .val (.int (1 : Int32))] [])) _
            refine XS.iload X46.here hx rfl (hb hby at_142) rfl ?_
            show Steps p.tables e below (T46.setTop (mkF m 144 #[.val (.int p1), .val (.int (p1 &&& (7 : Int32))), .val (.ref w_G_YEAR), .val (.int (0 : Int32)), .val (.int (0 : Int32)), .val (.int (1 : Int32))] [(.int (1 : Int32))])) _
            refine XS.ifNo X46.here hx rfl (hb hby at_144) rfl ((if0 _ _).trans (feq (by decide : ¬ ((1 : Int32) = (0 : Int32)))).1) ?_
            show Steps p.tables e below (T46.setTop (mkF m 147 #[.val (.int p1), .val (.int (p1 &&& (7 : Int32))), .val (.ref w_G_YEAR), .val (.int (0 : Int32)), .val (.int (0 : Int32)), .val (.int (1 : Int32))] [])) _
            refine XS.iconst X46.here hx rfl (hb hby at_147) ?_
            show Steps p.tables e below (T46.setTop (mkF m 148 #[.val (.int p1), .val (.int (p1 &&& (7 : Int32))), .val (.ref w_G_YEAR), .val (.int (0 : Int32)), .val (.int (0 : Int32)), .val (.int (1 : Int32))] [(.int (1 : Int32))])) _
            refine XS.goto X46.here hx rfl (pc0 := 148) (pc' := 152) rfl (hb hby at_148) (by decide) (by decide) ?_
            exact k)
          obtain ⟨fs, hr, hrun, hended, hW, hsame⟩ := X46.leave (v := some (.int (1 : Int32))) (fun h => by rw [Bd.returns] at h; cases h)
          refine ⟨_, _, pre48 _ ?_, hrun, hended, _, _, rfl, ?_, ⟨_, rfl⟩, hW, hsame.mono (by decide) (by decide)⟩
          · exact retN X46 hx (t := .boolean) Bd.returns (by simp) (hb hby at_152) hr
          · show Q_rm_law Z p1 w_DATE_TIME w_G_YEAR w_G_DAY w_TIME_OF_DAY w_G_YEAR_MONTH w_DATE w_G_MONTH_DAY w_G_MONTH h0 n0 _ T46.heap _
            rw [e46]
            exact ⟨rfl, N46⟩
        · have pre49 : ∀ t, Steps p.tables e below (s₁.setTop (mkF m 62 #[.val (.int p1), .val (.int (p1 &&& (7 : Int32))), .unset, .unset, .unset, .unset] [(.int (4 : Int32)), (.int (p1 &&& (7 : Int32)))])) t → Steps p.tables e below (s₁.setTop (entryFrame m #[(.int p1)] maxLocals)) t := fun t k => pre37 t (by
            show Steps p.tables e below (s₁.setTop (mkF m 48 #[.val (.int p1), .val (.int (p1 &&& (7 : Int32))), .unset, .unset, .unset, .unset] [(.int (3 : Int32)), (.int (p1 &&& (7 : Int32)))])) _
            refine XS.icmpYes X0.here hx rfl (pc0 := 48) (pc' := 60) rfl (hb hby at_48) rfl (feq hc48_38).2 (by decide) (by decide) ?_
            show Steps p.tables e below (s₁.setTop (mkF m 60 #[.val (.int p1), .val (.int (p1 &&& (7 : Int32))), .unset, .unset, .unset, .unset] [])) _
            refine XS.iloadN X0.here hx rfl (hb hby at_60) rfl ?_
            show Steps p.tables e below (s₁.setTop (mkF m 61 #[.val (.int p1), .val (.int (p1 &&& (7 : Int32))), .unset, .unset, .unset, .unset] [(.int (p1 &&& (7 : Int32)))])) _
            refine XS.iconst X0.here hx rfl (hb hby at_61) ?_
            exact k)
          by_cases hc62_50 : (p1 &&& (7 : Int32)) = (4 : Int32)
          · have pre51 : ∀ t, Steps p.tables e below (s₁.setTop (mkF m 65 #[.val (.int p1), .val (.int (p1 &&& (7 : Int32))), .unset, .unset, .unset, .unset] [])) t → Steps p.tables e below (s₁.setTop (entryFrame m #[(.int p1)] maxLocals)) t := fun t k => pre49 t (by
              show Steps p.tables e below (s₁.setTop (mkF m 62 #[.val (.int p1), .val (.int (p1 &&& (7 : Int32))), .unset, .unset, .unset, .unset] [(.int (4 : Int32)), (.int (p1 &&& (7 : Int32)))])) _
              refine XS.icmpNo X0.here hx rfl (hb hby at_62) rfl (teq hc62_50).2 ?_
              exact k)
            obtain ⟨T52, X52, e52, st52⟩ := getS2 X0 hx hZ hown (host := "") (Or.inl (hw _ (List.mem_of_getElem? (i := 31) rfl))) Via.refl e0 (Sta.ext O0 S_G_MONTH_DAY) (g := (mkF m 65 #[.val (.int p1), .val (.int (p1 &&& (7 : Int32))), .unset, .unset, .unset, .unset] [])) rfl (hb hby at_65)
            have pre53 : ∀ t, Steps p.tables e below (T52.setTop (mkF m 68 #[.val (.int p1), .val (.int (p1 &&& (7 : Int32))), .unset, .unset, .unset, .unset] [(.ref w_G_MONTH_DAY)])) t → Steps p.tables e below (s₁.setTop (entryFrame m #[(.int p1)] maxLocals)) t := fun t k => pre51 t (st52 t k)
            have pre54 : ∀ t, Steps p.tables e below (T52.setTop (mkF m 110 #[.val (.int p1), .val (.int (p1 &&& (7 : Int32))), .val (.ref w_G_MONTH_DAY), .val (.int (2 : Int32)), .unset, .unset] [(.ref w_G_MONTH_DAY)])) t → Steps p.tables e below (s₁.setTop (entryFrame m #[(.int p1)] maxLocals)) t := fun t k => pre53 t (by
              show Steps p.tables e below (T52.setTop (mkF m 68 #[.val (.int p1), .val (.int (p1 &&& (7 : Int32))), .unset, .unset, .unset, .unset] [(.ref w_G_MONTH_DAY)])) _
              refine XS.astoreN X52.here hx rfl (hb hby at_68) rfl rfl (l' := #[.val (.int p1), .val (.int (p1 &&& (7 : Int32))), .val (.ref w_G_MONTH_DAY), .unset, .unset, .unset]) rfl ?_
              show Steps p.tables e below (T52.setTop (mkF m 69 #[.val (.int p1), .val (.int (p1 &&& (7 : Int32))), .val (.ref w_G_MONTH_DAY), .unset, .unset, .unset] [])) _
              refine XS.iconst X52.here hx rfl (hb hby at_69) ?_
              show Steps p.tables e below (T52.setTop (mkF m 70 #[.val (.int p1), .val (.int (p1 &&& (7 : Int32))), .val (.ref w_G_MONTH_DAY), .unset, .unset, .unset] [(.int (2 : Int32))])) _
              refine XS.istoreN X52.here hx rfl (hb hby at_70) rfl (l' := #[.val (.int p1), .val (.int (p1 &&& (7 : Int32))), .val (.ref w_G_MONTH_DAY), .val (.int (2 : Int32)), .unset, .unset]) rfl ?_
              show Steps p.tables e below (T52.setTop (mkF m 71 #[.val (.int p1), .val (.int (p1 &&& (7 : Int32))), .val (.ref w_G_MONTH_DAY), .val (.int (2 : Int32)), .unset, .unset] [])) _
              refine XS.goto X52.here hx rfl (pc0 := 71) (pc' := 109) rfl (hb hby at_71) (by decide) (by decide) ?_
              show Steps p.tables e below (T52.setTop (mkF m 109 #[.val (.int p1), .val (.int (p1 &&& (7 : Int32))), .val (.ref w_G_MONTH_DAY), .val (.int (2 : Int32)), .unset, .unset] [])) _
              refine XS.aloadN X52.here hx rfl (hb hby at_109) rfl rfl ?_
              exact k)
            obtain ⟨cq55, kq55, q55a, q55b, q55c⟩ := isOf hZ e52 (Exa.ext O0 E_G_MONTH_DAY)
            obtain ⟨_, _, ⟨T55, L55, k55, n55⟩, -, X55, ⟨Lc55, hQ55, l55, y55, z55⟩, st55⟩ := X52.virtualBack hx (y := (⟨"com/example/knit/knit/exslt/SchemaDateTime$Type", "precision", "()I"⟩ : MethodName)) (z := (⟨"com/example/knit/knit/exslt/SchemaDateTime$Type", "precision", "()I"⟩ : MethodName)) hown (mvT hZ (hw _ (List.mem_of_getElem? (i := 3) rfl))) (mvT hZ (hw _ (List.mem_of_getElem? (i := 4) rfl))) (notFace_of_selects (args := #[]) (mvT hZ (hw _ (List.mem_of_getElem? (i := 6) rfl)))) (mvT hZ (hw _ (List.mem_of_getElem? (i := 6) rfl))) (mvT hZ (hw _ (List.mem_of_getElem? (i := 5) rfl))) (by decide) (backOf (W := 0) (rm_prec l Z a0 hw [] w_G_MONTH_DAY (1 : Int32) (1 : Int32) (0 : Int32) h0 n0 Z0 O0 (Fld.ext O0 F_hasMonth_G_MONTH_DAY) (Fld.ext O0 F_hasDay_G_MONTH_DAY) (Fld.ext O0 F_hasTime_G_MONTH_DAY)) hZ (hw _ (List.mem_of_getElem? (i := 7) rfl)) (hw _ (List.mem_of_getElem? (i := 1) rfl)) (by decide) (by decide)) q55a q55c (g := (mkF m 110 #[.val (.int p1), .val (.int (p1 &&& (7 : Int32))), .val (.ref w_G_MONTH_DAY), .val (.int (2 : Int32)), .unset, .unset] [(.ref w_G_MONTH_DAY)])) rfl (by rw [hml]; rfl) (Steps.refl _) (argsL := []) (rest := []) (lenOf pd_0 rfl) rfl (by show 2 * 0 + _ ≤ _; exact Nat.le_of_eq rfl) (hb hby at_110) (fun _ _ => ⟨rfl, e52, (by decide : 0 + 0 ≤ _), (by decide : 0 + 0 ≤ _)⟩)
            dsimp only [Pt.U, Pt.locs, Pt.cells, Pt.slots] at X55 l55 y55 z55 st55 hQ55
            subst l55 y55 z55
            obtain ⟨hv55, N55q, e55⟩ := hQ55
            rw [(show ((bF (1 : Int32) + bF (1 : Int32)) + bF (0 : Int32)) = (2 : Int32) from by decide)] at hv55
            subst hv55
            have N55 := Fr.app N0 N55q
            have pre56 : ∀ t, Steps p.tables e below (T55.setTop (mkF m 113 #[.val (.int p1), .val (.int (p1 &&& (7 : Int32))), .val (.ref w_G_MONTH_DAY), .val (.int (2 : Int32)), .unset, .unset] [(.int (2 : Int32))])) t → Steps p.tables e below (s₁.setTop (entryFrame m #[(.int p1)] maxLocals)) t := fun t k => pre54 t (st55.trans k)
            have pre57 : ∀ t, Steps p.tables e below (T55.setTop (mkF m 152 #[.val (.int p1), .val (.int (p1 &&& (7 : Int32))), .val (.ref w_G_MONTH_DAY), .val (.int (2 : Int32)), .val (.int (2 : Int32)), .val (.int (1 : Int32))] [(.int (1 : Int32))])) t → Steps p.tables e below (s₁.setTop (entryFrame m #[(.int p1)] maxLocals)) t := fun t k => pre56 t (by
              show Steps p.tables e below (T55.setTop (mkF m 113 #[.val (.int p1), .val (.int (p1 &&& (7 : Int32))), .val (.ref w_G_MONTH_DAY), .val (.int (2 : Int32)), .unset, .unset] [(.int (2 : Int32))])) _
              refine XS.istore X55.here hx rfl (hb hby at_113) rfl (l' := #[.val (.int p1), .val (.int (p1 &&& (7 : Int32))), .val (.ref w_G_MONTH_DAY), .val (.int (2 : Int32)), .val (.int (2 : Int32)), .unset]) rfl ?_
              show Steps p.tables e below (T55.setTop (mkF m 115 #[.val (.int p1), .val (.int (p1 &&& (7 : Int32))), .val (.ref w_G_MONTH_DAY), .val (.int (2 : Int32)), .val (.int (2 : Int32)), .unset] [])) _
              refine XS.iloadN X55.here hx rfl (hb hby at_115) rfl ?_
              show Steps p.tables e below (T55.setTop (mkF m 116 #[.val (.int p1), .val (.int (p1 &&& (7 : Int32))), .val (.ref w_G_MONTH_DAY), .val (.int (2 : Int32)), .val (.int (2 : Int32)), .unset] [(.int (p1 &&& (7 : Int32)))])) _
              refine XS.iconst X55.here hx rfl (hb hby at_116) ?_
              show Steps p.tables e below (T55.setTop (mkF m 117 #[.val (.int p1), .val (.int (p1 &&& (7 : Int32))), .val (.ref w_G_MONTH_DAY), .val (.int (2 : Int32)), .val (.int (2 : Int32)), .unset] [(.int (3 : Int32)), (.int (p1 &&& (7 : Int32)))])) _
              refine XS.icmpYes X55.here hx rfl (pc0 := 117) (pc' := 129) rfl (hb hby at_117) rfl (tlt (show (3 : Int32) < (p1 &&& (7 : Int32)) from by rw [hc62_50]; decide)).2.2.1 (by decide) (by decide) ?_
              show Steps p.tables e below (T55.setTop (mkF m 129 #[.val (.int p1), .val (.int (p1 &&& (7 : Int32))), .val (.ref w_G_MONTH_DAY), .val (.int (2 : Int32)), .val (.int (2 : Int32)), .unset] [])) _
              refine XS.iconst X55.here hx rfl (hb hby at_129) ?_
              show Steps p.tables e below (T55.setTop (mkF m 130 #[.val (.int p1), .val (.int (p1 &&& (7 : Int32))), .val (.ref w_G_MONTH_DAY), .val (.int (2 : Int32)), .val (.int (2 : Int32)), .unset] [(.int (1 : Int32))])) _
              refine XS.goto X55.here hx rfl (pc0 := 130) (pc' := 134) rfl (hb hby at_130) (by decide) (by decide) ?_
              show Steps p.tables e below (T55.setTop (mkF m 134 #[.val (.int p1), .val (.int (p1 &&& (7 : Int32))), .val (.ref w_G_MONTH_DAY), .val (.int (2 : Int32)), .val (.int (2 : Int32)), .unset] [(.int (1 : Int32))])) _
              refine XS.istore X55.here hx rfl (hb hby at_134) rfl (l' := #[.val (.int p1), .val (.int (p1 &&& (7 : Int32))), .val (.ref w_G_MONTH_DAY), .val (.int (2 : Int32)), .val (.int (2 : Int32)), .val (.int (1 : Int32))]) rfl ?_
              show Steps p.tables e below (T55.setTop (mkF m 136 #[.val (.int p1), .val (.int (p1 &&& (7 : Int32))), .val (.ref w_G_MONTH_DAY), .val (.int (2 : Int32)), .val (.int (2 : Int32)), .val (.int (1 : Int32))] [])) _
              refine XS.iload X55.here hx rfl (hb hby at_136) rfl ?_
              show Steps p.tables e below (T55.setTop (mkF m 138 #[.val (.int p1), .val (.int (p1 &&& (7 : Int32))), .val (.ref w_G_MONTH_DAY), .val (.int (2 : Int32)), .val (.int (2 : Int32)), .val (.int (1 : Int32))] [(.int (2 : Int32))])) _
              refine XS.iloadN X55.here hx rfl (hb hby at_138) rfl ?_
              show Steps p.tables e below (T55.setTop (mkF m 139 #[.val (.int p1), .val (.int (p1 &&& (7 : Int32))), .val (.ref w_G_MONTH_DAY), .val (.int (2 : Int32)), .val (.int (2 : Int32)), .val (.int (1 : Int32))] [(.int (2 : Int32)), (.int (2 : Int32))])) _
              refine XS.icmpNo X55.here hx rfl (hb hby at_139) rfl (teq (by decide : (2 : Int32) = (2 : Int32))).2 ?_
              show Steps p.tables e below (T55.setTop (mkF m 142 #[.val (.int p1), .val (.int (p1 &&& (7 : Int32))), .val (.ref w_G_MONTH_DAY), .val (.int (2 : Int32)), .val (.int (2 : Int32)), .val (.int (1 : Int32))] [])) _
              refine XS.iload X55.here hx rfl (hb hby at_142) rfl ?_
              show Steps p.tables e below (T55.setTop (mkF m 144 #[.val (.int p1), .val (.int (p1 &&& (7 : Int32))), .val (.ref w_G_MONTH_DAY), .val (.int (2 : Int32)), .val (.int (2 : Int32)), .val (.int (1 : Int32))] [(.int (1 : Int32))])) _
              refine XS.ifNo X55.here hx rfl (hb hby at_144) rfl ((if0 _ _).trans (feq (by decide : ¬ ((1 : Int32) = (0 : Int32)))).1) ?_
              show Steps p.tables e below (T55.setTop (mkF m 147 #[.val (.int p1), .val (.int (p1 &&& (7 : Int32))), .val (.ref w_G_MONTH_DAY), .val (.int (2 : Int32)), .val (.int (2 : Int32)), .val (.int (1 : Int32))] [])) _
              refine XS.iconst X55.here hx rfl (hb hby at_147) ?_
              show Steps p.tables e below (T55.setTop (mkF m 148 #[.val (.int p1), .val (.int (p1 &&& (7 : Int32))), .val (.ref w_G_MONTH_DAY), .val (.int (2 : Int32)), .val (.int (2 : Int32)), .val (.int (1 : Int32))] [(.int (1 : Int32))])) _
              refine XS.goto X55.here hx rfl (pc0 := 148) (pc' := 152) rfl (hb hby at_148) (by decide) (by decide) ?_
              exact k)
            obtain ⟨fs, hr, hrun, hended, hW, hsame⟩ := X55.leave (v := some (.int (1 : Int32))) (fun h => by rw [Bd.returns] at h; cases h)
            refine ⟨_, _, pre57 _ ?_, hrun, hended, _, _, rfl, ?_, ⟨_, rfl⟩, hW, hsame.mono (by decide) (by decide)⟩
            · exact retN X55 hx (t := .boolean) Bd.returns (by simp) (hb hby at_152) hr
            · show Q_rm_law Z p1 w_DATE_TIME w_G_YEAR w_G_DAY w_TIME_OF_DAY w_G_YEAR_MONTH w_DATE w_G_MONTH_DAY w_G_MONTH h0 n0 _ T55.heap _
              rw [e55]
              exact ⟨rfl, N55⟩
          · have pre58 : ∀ t, Steps p.tables e below (s₁.setTop (mkF m 76 #[.val (.int p1), .val (.int (p1 &&& (7 : Int32))), .unset, .unset, .unset, .unset] [(.int (5 : Int32)), (.int (p1 &&& (7 : Int32)))])) t → Steps p.tables e below (s₁.setTop (entryFrame m #[(.int p1)] maxLocals)) t := fun t k => pre49 t (by
              show Steps p.tables e below (s₁.setTop (mkF m 62 #[.val (.int p1), .val (.int (p1 &&& (7 : Int32))), .unset, .unset, .unset, .unset] [(.int (4 : Int32)), (.int (p1 &&& (7 : Int32)))])) _
              refine XS.icmpYes X0.here hx rfl (pc0 := 62) (pc' := 74) rfl (hb hby at_62) rfl (feq hc62_50).2 (by decide) (by decide) ?_
              show Steps p.tables e below (s₁.setTop (mkF m 74 #[.val (.int p1), .val (.int (p1 &&& (7 : Int32))), .unset, .unset, .unset, .unset] [])) _
              refine XS.iloadN X0.here hx rfl (hb hby at_74) rfl ?_
              show Steps p.tables e below (s₁.setTop (mkF m 75 #[.val (.int p1), .val (.int (p1 &&& (7 : Int32))), .unset, .unset, .unset, .unset] [(.int (p1 &&& (7 : Int32)))])) _
              refine XS.iconst X0.here hx rfl (hb hby at_75) ?_
              exact k)
            by_cases hc76_59 : (p1 &&& (7 : Int32)) = (5 : Int32)
            · have pre60 : ∀ t, Steps p.tables e below (s₁.setTop (mkF m 79 #[.val (.int p1), .val (.int (p1 &&& (7 : Int32))), .unset, .unset, .unset, .unset] [])) t → Steps p.tables e below (s₁.setTop (entryFrame m #[(.int p1)] maxLocals)) t := fun t k => pre58 t (by
                show Steps p.tables e below (s₁.setTop (mkF m 76 #[.val (.int p1), .val (.int (p1 &&& (7 : Int32))), .unset, .unset, .unset, .unset] [(.int (5 : Int32)), (.int (p1 &&& (7 : Int32)))])) _
                refine XS.icmpNo X0.here hx rfl (hb hby at_76) rfl (teq hc76_59).2 ?_
                exact k)
              obtain ⟨T61, X61, e61, st61⟩ := getS2 X0 hx hZ hown (host := "") (Or.inl (hw _ (List.mem_of_getElem? (i := 33) rfl))) Via.refl e0 (Sta.ext O0 S_G_MONTH) (g := (mkF m 79 #[.val (.int p1), .val (.int (p1 &&& (7 : Int32))), .unset, .unset, .unset, .unset] [])) rfl (hb hby at_79)
              have pre62 : ∀ t, Steps p.tables e below (T61.setTop (mkF m 82 #[.val (.int p1), .val (.int (p1 &&& (7 : Int32))), .unset, .unset, .unset, .unset] [(.ref w_G_MONTH)])) t → Steps p.tables e below (s₁.setTop (entryFrame m #[(.int p1)] maxLocals)) t := fun t k => pre60 t (st61 t k)
              have pre63 : ∀ t, Steps p.tables e below (T61.setTop (mkF m 110 #[.val (.int p1), .val (.int (p1 &&& (7 : Int32))), .val (.ref w_G_MONTH), .val (.int (1 : Int32)), .unset, .unset] [(.ref w_G_MONTH)])) t → Steps p.tables e below (s₁.setTop (entryFrame m #[(.int p1)] maxLocals)) t := fun t k => pre62 t (by
                show Steps p.tables e below (T61.setTop (mkF m 82 #[.val (.int p1), .val (.int (p1 &&& (7 : Int32))), .unset, .unset, .unset, .unset] [(.ref w_G_MONTH)])) _
                refine XS.astoreN X61.here hx rfl (hb hby at_82) rfl rfl (l' := #[.val (.int p1), .val (.int (p1 &&& (7 : Int32))), .val (.ref w_G_MONTH), .unset, .unset, .unset]) rfl ?_
                show Steps p.tables e below (T61.setTop (mkF m 83 #[.val (.int p1), .val (.int (p1 &&& (7 : Int32))), .val (.ref w_G_MONTH), .unset, .unset, .unset] [])) _
                refine XS.iconst X61.here hx rfl (hb hby at_83) ?_
                show Steps p.tables e below (T61.setTop (mkF m 84 #[.val (.int p1), .val (.int (p1 &&& (7 : Int32))), .val (.ref w_G_MONTH), .unset, .unset, .unset] [(.int (1 : Int32))])) _
                refine XS.istoreN X61.here hx rfl (hb hby at_84) rfl (l' := #[.val (.int p1), .val (.int (p1 &&& (7 : Int32))), .val (.ref w_G_MONTH), .val (.int (1 : Int32)), .unset, .unset]) rfl ?_
                show Steps p.tables e below (T61.setTop (mkF m 85 #[.val (.int p1), .val (.int (p1 &&& (7 : Int32))), .val (.ref w_G_MONTH), .val (.int (1 : Int32)), .unset, .unset] [])) _
                refine XS.goto X61.here hx rfl (pc0 := 85) (pc' := 109) rfl (hb hby at_85) (by decide) (by decide) ?_
                show Steps p.tables e below (T61.setTop (mkF m 109 #[.val (.int p1), .val (.int (p1 &&& (7 : Int32))), .val (.ref w_G_MONTH), .val (.int (1 : Int32)), .unset, .unset] [])) _
                refine XS.aloadN X61.here hx rfl (hb hby at_109) rfl rfl ?_
                exact k)
              obtain ⟨cq64, kq64, q64a, q64b, q64c⟩ := isOf hZ e61 (Exa.ext O0 E_G_MONTH)
              obtain ⟨_, _, ⟨T64, L64, k64, n64⟩, -, X64, ⟨Lc64, hQ64, l64, y64, z64⟩, st64⟩ := X61.virtualBack hx (y := (⟨"com/example/knit/knit/exslt/SchemaDateTime$Type", "precision", "()I"⟩ : MethodName)) (z := (⟨"com/example/knit/knit/exslt/SchemaDateTime$Type", "precision", "()I"⟩ : MethodName)) hown (mvT hZ (hw _ (List.mem_of_getElem? (i := 3) rfl))) (mvT hZ (hw _ (List.mem_of_getElem? (i := 4) rfl))) (notFace_of_selects (args := #[]) (mvT hZ (hw _ (List.mem_of_getElem? (i := 6) rfl)))) (mvT hZ (hw _ (List.mem_of_getElem? (i := 6) rfl))) (mvT hZ (hw _ (List.mem_of_getElem? (i := 5) rfl))) (by decide) (backOf (W := 0) (rm_prec l Z a0 hw [] w_G_MONTH (1 : Int32) (0 : Int32) (0 : Int32) h0 n0 Z0 O0 (Fld.ext O0 F_hasMonth_G_MONTH) (Fld.ext O0 F_hasDay_G_MONTH) (Fld.ext O0 F_hasTime_G_MONTH)) hZ (hw _ (List.mem_of_getElem? (i := 7) rfl)) (hw _ (List.mem_of_getElem? (i := 1) rfl)) (by decide) (by decide)) q64a q64c (g := (mkF m 110 #[.val (.int p1), .val (.int (p1 &&& (7 : Int32))), .val (.ref w_G_MONTH), .val (.int (1 : Int32)), .unset, .unset] [(.ref w_G_MONTH)])) rfl (by rw [hml]; rfl) (Steps.refl _) (argsL := []) (rest := []) (lenOf pd_0 rfl) rfl (by show 2 * 0 + _ ≤ _; exact Nat.le_of_eq rfl) (hb hby at_110) (fun _ _ => ⟨rfl, e61, (by decide : 0 + 0 ≤ _), (by decide : 0 + 0 ≤ _)⟩)
              dsimp only [Pt.U, Pt.locs, Pt.cells, Pt.slots] at X64 l64 y64 z64 st64 hQ64
              subst l64 y64 z64
              obtain ⟨hv64, N64q, e64⟩ := hQ64
              rw [(show ((bF (1 : Int32) + bF (0 : Int32)) + bF (0 : Int32)) = (1 : Int32) from by decide)] at hv64
              subst hv64
              have N64 := Fr.app N0 N64q
              have pre65 : ∀ t, Steps p.tables e below (T64.setTop (mkF m 113 #[.val (.int p1), .val (.int (p1 &&& (7 : Int32))), .val (.ref w_G_MONTH), .val (.int (1 : Int32)), .unset, .unset] [(.int (1 : Int32))])) t → Steps p.tables e below (s₁.setTop (entryFrame m #[(.int p1)] maxLocals)) t := fun t k => pre63 t (st64.trans k)
              have pre66 : ∀ t, Steps p.tables e below (T64.setTop (mkF m 152 #[.val (.int p1), .val (.int (p1 &&& (7 : Int32))), .val (.ref w_G_MONTH), .val (.int (1 : Int32)), .val (.int (1 : Int32)), .val (.int (1 : Int32))] [(.int (1 : Int32))])) t → Steps p.tables e below (s₁.setTop (entryFrame m #[(.int p1)] maxLocals)) t := fun t k => pre65 t (by
                show Steps p.tables e below (T64.setTop (mkF m 113 #[.val (.int p1), .val (.int (p1 &&& (7 : Int32))), .val (.ref w_G_MONTH), .val (.int (1 : Int32)), .unset, .unset] [(.int (1 : Int32))])) _
                refine XS.istore X64.here hx rfl (hb hby at_113) rfl (l' := #[.val (.int p1), .val (.int (p1 &&& (7 : Int32))), .val (.ref w_G_MONTH), .val (.int (1 : Int32)), .val (.int (1 : Int32)), .unset]) rfl ?_
                show Steps p.tables e below (T64.setTop (mkF m 115 #[.val (.int p1), .val (.int (p1 &&& (7 : Int32))), .val (.ref w_G_MONTH), .val (.int (1 : Int32)), .val (.int (1 : Int32)), .unset] [])) _
                refine XS.iloadN X64.here hx rfl (hb hby at_115) rfl ?_
                show Steps p.tables e below (T64.setTop (mkF m 116 #[.val (.int p1), .val (.int (p1 &&& (7 : Int32))), .val (.ref w_G_MONTH), .val (.int (1 : Int32)), .val (.int (1 : Int32)), .unset] [(.int (p1 &&& (7 : Int32)))])) _
                refine XS.iconst X64.here hx rfl (hb hby at_116) ?_
                show Steps p.tables e below (T64.setTop (mkF m 117 #[.val (.int p1), .val (.int (p1 &&& (7 : Int32))), .val (.ref w_G_MONTH), .val (.int (1 : Int32)), .val (.int (1 : Int32)), .unset] [(.int (3 : Int32)), (.int (p1 &&& (7 : Int32)))])) _
                refine XS.icmpYes X64.here hx rfl (pc0 := 117) (pc' := 129) rfl (hb hby at_117) rfl (tlt (show (3 : Int32) < (p1 &&& (7 : Int32)) from by rw [hc76_59]; decide)).2.2.1 (by decide) (by decide) ?_
                show Steps p.tables e below (T64.setTop (mkF m 129 #[.val (.int p1), .val (.int (p1 &&& (7 : Int32))), .val (.ref w_G_MONTH), .val (.int (1 : Int32)), .val (.int (1 : Int32)), .unset] [])) _
                refine XS.iconst X64.here hx rfl (hb hby at_129) ?_
                show Steps p.tables e below (T64.setTop (mkF m 130 #[.val (.int p1), .val (.int (p1 &&& (7 : Int32))), .val (.ref w_G_MONTH), .val (.int (1 : Int32)), .val (.int (1 : Int32)), .unset] [(.int (1 : Int32))])) _
                refine XS.goto X64.here hx rfl (pc0 := 130) (pc' := 134) rfl (hb hby at_130) (by decide) (by decide) ?_
                show Steps p.tables e below (T64.setTop (mkF m 134 #[.val (.int p1), .val (.int (p1 &&& (7 : Int32))), .val (.ref w_G_MONTH), .val (.int (1 : Int32)), .val (.int (1 : Int32)), .unset] [(.int (1 : Int32))])) _
                refine XS.istore X64.here hx rfl (hb hby at_134) rfl (l' := #[.val (.int p1), .val (.int (p1 &&& (7 : Int32))), .val (.ref w_G_MONTH), .val (.int (1 : Int32)), .val (.int (1 : Int32)), .val (.int (1 : Int32))]) rfl ?_
                show Steps p.tables e below (T64.setTop (mkF m 136 #[.val (.int p1), .val (.int (p1 &&& (7 : Int32))), .val (.ref w_G_MONTH), .val (.int (1 : Int32)), .val (.int (1 : Int32)), .val (.int (1 : Int32))] [])) _
                refine XS.iload X64.here hx rfl (hb hby at_136) rfl ?_
                show Steps p.tables e below (T64.setTop (mkF m 138 #[.val (.int p1), .val (.int (p1 &&& (7 : Int32))), .val (.ref w_G_MONTH), .val (.int (1 : Int32)), .val (.int (1 : Int32)), .val (.int (1 : Int32))] [(.int (1 : Int32))])) _
                refine XS.iloadN X64.here hx rfl (hb hby at_138) rfl ?_
                show Steps p.tables e below (T64.setTop (mkF m 139 #[.val (.int p1), .val (.int (p1 &&& (7 : Int32))), .val (.ref w_G_MONTH), .val (.int (1 : Int32)), .val (.int (1 : Int32)), .val (.int (1 : Int32))] [(.int (1 : Int32)), (.int (1 : Int32))])) _
                refine XS.icmpNo X64.here hx rfl (hb hby at_139) rfl (teq (by decide : (1 : Int32) = (1 : Int32))).2 ?_
                show Steps p.tables e below (T64.setTop (mkF m 142 #[.val (.int p1), .val (.int (p1 &&& (7 : Int32))), .val (.ref w_G_MONTH), .val (.int (1 : Int32)), .val (.int (1 : Int32)), .val (.int (1 : Int32))] [])) _
                refine XS.iload X64.here hx rfl (hb hby at_142) rfl ?_
                show Steps p.tables e below (T64.setTop (mkF m 144 #[.val (.int p1), .val (.int (p1 &&& (7 : Int32))), .val (.ref w_G_MONTH), .val (.int (1 : Int32)), .val (.int (1 : Int32)), .val (.int (1 : Int32))] [(.int (1 : Int32))])) _
                refine XS.ifNo X64.here hx rfl (hb hby at_144) rfl ((if0 _ _).trans (feq (by decide : ¬ ((1 : Int32) = (0 : Int32)))).1) ?_
                show Steps p.tables e below (T64.setTop (mkF m 147 #[.val (.int p1), .val (.int (p1 &&& (7 : Int32))), .val (.ref w_G_MONTH), .val (.int (1 : Int32)), .val (.int (1 : Int32)), .val (.int (1 : Int32))] [])) _
                refine XS.iconst X64.here hx rfl (hb hby at_147) ?_
                show Steps p.tables e below (T64.setTop (mkF m 148 #[.val (.int p1), .val (.int (p1 &&& (7 : Int32))), .val (.ref w_G_MONTH), .val (.int (1 : Int32)), .val (.int (1 : Int32)), .val (.int (1 : Int32))] [(.int (1 : Int32))])) _
                refine XS.goto X64.here hx rfl (pc0 := 148) (pc' := 152) rfl (hb hby at_148) (by decide) (by decide) ?_
                exact k)
              obtain ⟨fs, hr, hrun, hended, hW, hsame⟩ := X64.leave (v := some (.int (1 : Int32))) (fun h => by rw [Bd.returns] at h; cases h)
              refine ⟨_, _, pre66 _ ?_, hrun, hended, _, _, rfl, ?_, ⟨_, rfl⟩, hW, hsame.mono (by decide) (by decide)⟩
              · exact retN X64 hx (t := .boolean) Bd.returns (by simp) (hb hby at_152) hr
              · show Q_rm_law Z p1 w_DATE_TIME w_G_YEAR w_G_DAY w_TIME_OF_DAY w_G_YEAR_MONTH w_DATE w_G_MONTH_DAY w_G_MONTH h0 n0 _ T64.heap _
                rw [e64]
                exact ⟨rfl, N64⟩
            · have pre67 : ∀ t, Steps p.tables e below (s₁.setTop (mkF m 91 #[.val (.int p1), .val (.int (p1 &&& (7 : Int32))), .unset, .unset, .unset, .unset] [(.int (6 : Int32)), (.int (p1 &&& (7 : Int32)))])) t → Steps p.tables e below (s₁.setTop (entryFrame m #[(.int p1)] maxLocals)) t := fun t k => pre58 t (by
                show Steps p.tables e below (s₁.setTop (mkF m 76 #[.val (.int p1), .val (.int (p1 &&& (7 : Int32))), .unset, .unset, .unset, .unset] [(.int (5 : Int32)), (.int (p1 &&& (7 : Int32)))])) _
                refine XS.icmpYes X0.here hx rfl (pc0 := 76) (pc' := 88) rfl (hb hby at_76) rfl (feq hc76_59).2 (by decide) (by decide) ?_
                show Steps p.tables e below (s₁.setTop (mkF m 88 #[.val (.int p1), .val (.int (p1 &&& (7 : Int32))), .unset, .unset, .unset, .unset] [])) _
                refine XS.iloadN X0.here hx rfl (hb hby at_88) rfl ?_
                show Steps p.tables e below (s₁.setTop (mkF m 89 #[.val (.int p1), .val (.int (p1 &&& (7 : Int32))), .unset, .unset, .unset, .unset] [(.int (p1 &&& (7 : Int32)))])) _
                refine XS.bipush X0.here hx rfl (hb hby at_89) ?_
                exact k)
              by_cases hc91_68 : (p1 &&& (7 : Int32)) = (6 : Int32)
              · have pre69 : ∀ t, Steps p.tables e below (s₁.setTop (mkF m 94 #[.val (.int p1), .val (.int (p1 &&& (7 : Int32))), .unset, .unset, .unset, .unset] [])) t → Steps p.tables e below (s₁.setTop (entryFrame m #[(.int p1)] maxLocals)) t := fun t k => pre67 t (by
                  show Steps p.tables e below (s₁.setTop (mkF m 91 #[.val (.int p1), .val (.int (p1 &&& (7 : Int32))), .unset, .unset, .unset, .unset] [(.int (6 : Int32)), (.int (p1 &&& (7 : Int32)))])) _
                  refine XS.icmpNo X0.here hx rfl (hb hby at_91) rfl (teq hc91_68).2 ?_
                  exact k)
                obtain ⟨T70, X70, e70, st70⟩ := getS2 X0 hx hZ hown (host := "") (Or.inl (hw _ (List.mem_of_getElem? (i := 21) rfl))) Via.refl e0 (Sta.ext O0 S_G_DAY) (g := (mkF m 94 #[.val (.int p1), .val (.int (p1 &&& (7 : Int32))), .unset, .unset, .unset, .unset] [])) rfl (hb hby at_94)
                have pre71 : ∀ t, Steps p.tables e below (T70.setTop (mkF m 97 #[.val (.int p1), .val (.int (p1 &&& (7 : Int32))), .unset, .unset, .unset, .unset] [(.ref w_G_DAY)])) t → Steps p.tables e below (s₁.setTop (entryFrame m #[(.int p1)] maxLocals)) t := fun t k => pre69 t (st70 t k)
                have pre72 : ∀ t, Steps p.tables e below (T70.setTop (mkF m 110 #[.val (.int p1), .val (.int (p1 &&& (7 : Int32))), .val (.ref w_G_DAY), .val (.int (1 : Int32)), .unset, .unset] [(.ref w_G_DAY)])) t → Steps p.tables e below (s₁.setTop (entryFrame m #[(.int p1)] maxLocals)) t := fun t k => pre71 t (by
                  show Steps p.tables e below (T70.setTop (mkF m 97 #[.val (.int p1), .val (.int (p1 &&& (7 : Int32))), .unset, .unset, .unset, .unset] [(.ref w_G_DAY)])) _
                  refine XS.astoreN X70.here hx rfl (hb hby at_97) rfl rfl (l' := #[.val (.int p1), .val (.int (p1 &&& (7 : Int32))), .val (.ref w_G_DAY), .unset, .unset, .unset]) rfl ?_
                  show Steps p.tables e below (T70.setTop (mkF m 98 #[.val (.int p1), .val (.int (p1 &&& (7 : Int32))), .val (.ref w_G_DAY), .unset, .unset, .unset] [])) _
                  refine XS.iconst X70.here hx rfl (hb hby at_98) ?_
                  show Steps p.tables e below (T70.setTop (mkF m 99 #[.val (.int p1), .val (.int (p1 &&& (7 : Int32))), .val (.ref w_G_DAY), .unset, .unset, .unset] [(.int (1 : Int32))])) _
                  refine XS.istoreN X70.here hx rfl (hb hby at_99) rfl (l' := #[.val (.int p1), .val (.int (p1 &&& (7 : Int32))), .val (.ref w_G_DAY), .val (.int (1 : Int32)), .unset, .unset]) rfl ?_
                  show Steps p.tables e below (T70.setTop (mkF m 100 #[.val (.int p1), .val (.int (p1 &&& (7 : Int32))), .val (.ref w_G_DAY), .val (.int (1 : Int32)), .unset, .unset] [])) _
                  refine XS.goto X70.here hx rfl (pc0 := 100) (pc' := 109) rfl (hb hby at_100) (by decide) (by decide) ?_
                  show Steps p.tables e below (T70.setTop (mkF m 109 #[.val (.int p1), .val (.int (p1 &&& (7 : Int32))), .val (.ref w_G_DAY), .val (.int (1 : Int32)), .unset, .unset] [])) _
                  refine XS.aloadN X70.here hx rfl (hb hby at_109) rfl rfl ?_
                  exact k)
                obtain ⟨cq73, kq73, q73a, q73b, q73c⟩ := isOf hZ e70 (Exa.ext O0 E_G_DAY)
                obtain ⟨_, _, ⟨T73, L73, k73, n73⟩, -, X73, ⟨Lc73, hQ73, l73, y73, z73⟩, st73⟩ := X70.virtualBack hx (y := (⟨"com/example/knit/knit/exslt/SchemaDateTime$Type", "precision", "()I"⟩ : MethodName)) (z := (⟨"com/example/knit/knit/exslt/SchemaDateTime$Type", "precision", "()I"⟩ : MethodName)) hown (mvT hZ (hw _ (List.mem_of_getElem? (i := 3) rfl))) (mvT hZ (hw _ (List.mem_of_getElem? (i := 4) rfl))) (notFace_of_selects (args := #[]) (mvT hZ (hw _ (List.mem_of_getElem? (i := 6) rfl)))) (mvT hZ (hw _ (List.mem_of_getElem? (i := 6) rfl))) (mvT hZ (hw _ (List.mem_of_getElem? (i := 5) rfl))) (by decide) (backOf (W := 0) (rm_prec l Z a0 hw [] w_G_DAY (0 : Int32) (1 : Int32) (0 : Int32) h0 n0 Z0 O0 (Fld.ext O0 F_hasMonth_G_DAY) (Fld.ext O0 F_hasDay_G_DAY) (Fld.ext O0 F_hasTime_G_DAY)) hZ (hw _ (List.mem_of_getElem? (i := 7) rfl)) (hw _ (List.mem_of_getElem? (i := 1) rfl)) (by decide) (by decide)) q73a q73c (g := (mkF m 110 #[.val (.int p1), .val (.int (p1 &&& (7 : Int32))), .val (.ref w_G_DAY), .val (.int (1 : Int32)), .unset, .unset] [(.ref w_G_DAY)])) rfl (by rw [hml]; rfl) (Steps.refl _) (argsL := []) (rest := []) (lenOf pd_0 rfl) rfl (by show 2 * 0 + _ ≤ _; exact Nat.le_of_eq rfl) (hb hby at_110) (fun _ _ => ⟨rfl, e70, (by decide : 0 + 0 ≤ _), (by decide : 0 + 0 ≤ _)⟩)
                dsimp only [Pt.U, Pt.locs, Pt.cells, Pt.slots] at X73 l73 y73 z73 st73 hQ73
                subst l73 y73 z73
                obtain ⟨hv73, N73q, e73⟩ := hQ73
                rw [(show ((bF (0 : Int32) + bF (1 : Int32)) + bF (0 : Int32)) = (1 : Int32) from by decide)] at hv73
                subst hv73
                have N73 := Fr.app N0 N73q
                have pre74 : ∀ t, Steps p.tables e below (T73.setTop (mkF m 113 #[.val (.int p1), .val (.int (p1 &&& (7 : Int32))), .val (.ref w_G_DAY), .val (.int (1 : Int32)), .unset, .unset] [(.int (1 : Int32))])) t → Steps p.tables e below (s₁.setTop (entryFrame m #[(.int p1)] maxLocals)) t := fun t k => pre72 t (st73.trans k)
                have pre75 : ∀ t, Steps p.tables e below (T73.setTop (mkF m 152 #[.val (.int p1), .val (.int (p1 &&& (7 : Int32))), .val (.ref w_G_DAY), .val (.int (1 : Int32)), .val (.int (1 : Int32)), .val (.int (1 : Int32))] [(.int (1 : Int32))])) t → Steps p.tables e below (s₁.setTop (entryFrame m #[(.int p1)] maxLocals)) t := fun t k => pre74 t (by
                  show Steps p.tables e below (T73.setTop (mkF m 113 #[.val (.int p1), .val (.int (p1 &&& (7 : Int32))), .val (.ref w_G_DAY), .val (.int (1 : Int32)), .unset, .unset] [(.int (1 : Int32))])) _
                  refine XS.istore X73.here hx rfl (hb hby at_113) rfl (l' := #[.val (.int p1), .val (.int (p1 &&& (7 : Int32))), .val (.ref w_G_DAY), .val (.int (1 : Int32)), .val (.int (1 : Int32)), .unset]) rfl ?_
                  show Steps p.tables e below (T73.setTop (mkF m 115 #[.val (.int p1), .val (.int (p1 &&& (7 : Int32))), .val (.ref w_G_DAY), .val (.int (1 : Int32)), .val (.int (1 : Int32)), .unset] [])) _
                  refine XS.iloadN X73.here hx rfl (hb hby at_115) rfl ?_
                  show Steps p.tables e below (T73.setTop (mkF m 116 #[.val (.int p1), .val (.int (p1 &&& (7 : Int32))), .val (.ref w_G_DAY), .val (.int (1 : Int32)), .val (.int (1 : Int32)), .unset] [(.int (p1 &&& (7 : Int32)))])) _
                  refine XS.iconst X73.here hx rfl (hb hby at_116) ?_
                  show Steps p.tables e below (T73.setTop (mkF m 117 #[.val (.int p1), .val (.int (p1 &&& (7 : Int32))), .val (.ref w_G_DAY), .val (.int (1 : Int32)), .val (.int (1 : Int32)), .unset] [(.int (3 : Int32)), (.int (p1 &&& (7 : Int32)))])) _
                  refine XS.icmpYes X73.here hx rfl (pc0 := 117) (pc' := 129) rfl (hb hby at_117) rfl (tlt (show (3 : Int32) < (p1 &&& (7 : Int32)) from by rw [hc91_68]; decide)).2.2.1 (by decide) (by decide) ?_
                  show Steps p.tables e below (T73.setTop (mkF m 129 #[.val (.int p1), .val (.int (p1 &&& (7 : Int32))), .val (.ref w_G_DAY), .val (.int (1 : Int32)), .val (.int (1 : Int32)), .unset] [])) _
                  refine XS.iconst X73.here hx rfl (hb hby at_129) ?_
                  show Steps p.tables e below (T73.setTop (mkF m 130 #[.val (.int p1), .val (.int (p1 &&& (7 : Int32))), .val (.ref w_G_DAY), .val (.int (1 : Int32)), .val (.int (1 : Int32)), .unset] [(.int (1 : Int32))])) _
                  refine XS.goto X73.here hx rfl (pc0 := 130) (pc' := 134) rfl (hb hby at_130) (by decide) (by decide) ?_
                  show Steps p.tables e below (T73.setTop (mkF m 134 #[.val (.int p1), .val (.int (p1 &&& (7 : Int32))), .val (.ref w_G_DAY), .val (.int (1 : Int32)), .val (.int (1 : Int32)), .unset] [(.int (1 : Int32))])) _
                  refine XS.istore X73.here hx rfl (hb hby at_134) rfl (l' := #[.val (.int p1), .val (.int (p1 &&& (7 : Int32))), .val (.ref w_G_DAY), .val (.int (1 : Int32)), .val (.int (1 : Int32)), .val (.int (1 : Int32))]) rfl ?_
                  show Steps p.tables e below (T73.setTop (mkF m 136 #[.val (.int p1), .val (.int (p1 &&& (7 : Int32))), .val (.ref w_G_DAY), .val (.int (1 : Int32)), .val (.int (1 : Int32)), .val (.int (1 : Int32))] [])) _
                  refine XS.iload X73.here hx rfl (hb hby at_136) rfl ?_
                  show Steps p.tables e below (T73.setTop (mkF m 138 #[.val (.int p1), .val (.int (p1 &&& (7 : Int32))), .val (.ref w_G_DAY), .val (.int (1 : Int32)), .val (.int (1 : Int32)), .val (.int (1 : Int32))] [(.int (1 : Int32))])) _
                  refine XS.iloadN X73.here hx rfl (hb hby at_138) rfl ?_
                  show Steps p.tables e below (T73.setTop (mkF m 139 #[.val (.int p1), .val (.int (p1 &&& (7 : Int32))), .val (.ref w_G_DAY), .val (.int (1 : Int32)), .val (.int (1 : Int32)), .val (.int (1 : Int32))] [(.int (1 : Int32)), (.int (1 : Int32))])) _
                  refine XS.icmpNo X73.here hx rfl (hb hby at_139) rfl (teq (by decide : (1 : Int32) = (1 : Int32))).2 ?_
                  show Steps p.tables e below (T73.setTop (mkF m 142 #[.val (.int p1), .val (.int (p1 &&& (7 : Int32))), .val (.ref w_G_DAY), .val (.int (1 : Int32)), .val (.int (1 : Int32)), .val (.int (1 : Int32))] [])) _
                  refine XS.iload X73.here hx rfl (hb hby at_142) rfl ?_
                  show Steps p.tables e below (T73.setTop (mkF m 144 #[.val (.int p1), .val (.int (p1 &&& (7 : Int32))), .val (.ref w_G_DAY), .val (.int (1 : Int32)), .val (.int (1 : Int32)), .val (.int (1 : Int32))] [(.int (1 : Int32))])) _
                  refine XS.ifNo X73.here hx rfl (hb hby at_144) rfl ((if0 _ _).trans (feq (by decide : ¬ ((1 : Int32) = (0 : Int32)))).1) ?_
                  show Steps p.tables e below (T73.setTop (mkF m 147 #[.val (.int p1), .val (.int (p1 &&& (7 : Int32))), .val (.ref w_G_DAY), .val (.int (1 : Int32)), .val (.int (1 : Int32)), .val (.int (1 : Int32))] [])) _
                  refine XS.iconst X73.here hx rfl (hb hby at_147) ?_
                  show Steps p.tables e below (T73.setTop (mkF m 148 #[.val (.int p1), .val (.int (p1 &&& (7 : Int32))), .val (.ref w_G_DAY), .val (.int (1 : Int32)), .val (.int (1 : Int32)), .val (.int (1 : Int32))] [(.int (1 : Int32))])) _
                  refine XS.goto X73.here hx rfl (pc0 := 148) (pc' := 152) rfl (hb hby at_148) (by decide) (by decide) ?_
                  exact k)
                obtain ⟨fs, hr, hrun, hended, hW, hsame⟩ := X73.leave (v := some (.int (1 : Int32))) (fun h => by rw [Bd.returns] at h; cases h)
                refine ⟨_, _, pre75 _ ?_, hrun, hended, _, _, rfl, ?_, ⟨_, rfl⟩, hW, hsame.mono (by decide) (by decide)⟩
                · exact retN X73 hx (t := .boolean) Bd.returns (by simp) (hb hby at_152) hr
                · show Q_rm_law Z p1 w_DATE_TIME w_G_YEAR w_G_DAY w_TIME_OF_DAY w_G_YEAR_MONTH w_DATE w_G_MONTH_DAY w_G_MONTH h0 n0 _ T73.heap _
                  rw [e73]
                  exact ⟨rfl, N73⟩
              · have pre76 : ∀ t, Steps p.tables e below (s₁.setTop (mkF m 103 #[.val (.int p1), .val (.int (p1 &&& (7 : Int32))), .unset, .unset, .unset, .unset] [])) t → Steps p.tables e below (s₁.setTop (entryFrame m #[(.int p1)] maxLocals)) t := fun t k => pre67 t (by
                  show Steps p.tables e below (s₁.setTop (mkF m 91 #[.val (.int p1), .val (.int (p1 &&& (7 : Int32))), .unset, .unset, .unset, .unset] [(.int (6 : Int32)), (.int (p1 &&& (7 : Int32)))])) _
                  refine XS.icmpYes X0.here hx rfl (pc0 := 91) (pc' := 103) rfl (hb hby at_91) rfl (feq hc91_68).2 (by decide) (by decide) ?_
                  exact k)
                obtain ⟨T77, X77, e77, st77⟩ := getS2 X0 hx hZ hown (host := "") (Or.inl (hw _ (List.mem_of_getElem? (i := 23) rfl))) Via.refl e0 (Sta.ext O0 S_TIME_OF_DAY) (g := (mkF m 103 #[.val (.int p1), .val (.int (p1 &&& (7 : Int32))), .unset, .unset, .unset, .unset] [])) rfl (hb hby at_103)
                have pre78 : ∀ t, Steps p.tables e below (T77.setTop (mkF m 106 #[.val (.int p1), .val (.int (p1 &&& (7 : Int32))), .unset, .unset, .unset, .unset] [(.ref w_TIME_OF_DAY)])) t → Steps p.tables e below (s₁.setTop (entryFrame m #[(.int p1)] maxLocals)) t := fun t k => pre76 t (st77 t k)
                have pre79 : ∀ t, Steps p.tables e below (T77.setTop (mkF m 110 #[.val (.int p1), .val (.int (p1 &&& (7 : Int32))), .val (.ref w_TIME_OF_DAY), .val (.int (1 : Int32)), .unset, .unset] [(.ref w_TIME_OF_DAY)])) t → Steps p.tables e below (s₁.setTop (entryFrame m #[(.int p1)] maxLocals)) t := fun t k => pre78 t (by
                  show Steps p.tables e below (T77.setTop (mkF m 106 #[.val (.int p1), .val (.int (p1 &&& (7 : Int32))), .unset, .unset, .unset, .unset] [(.ref w_TIME_OF_DAY)])) _
                  refine XS.astoreN X77.here hx rfl (hb hby at_106) rfl rfl (l' := #[.val (.int p1), .val (.int (p1 &&& (7 : Int32))), .val (.ref w_TIME_OF_DAY), .unset, .unset, .unset]) rfl ?_
                  show Steps p.tables e below (T77.setTop (mkF m 107 #[.val (.int p1), .val (.int (p1 &&& (7 : Int32))), .val (.ref w_TIME_OF_DAY), .unset, .unset, .unset] [])) _
                  refine XS.iconst X77.here hx rfl (hb hby at_107) ?_
                  show Steps p.tables e below (T77.setTop (mkF m 108 #[.val (.int p1), .val (.int (p1 &&& (7 : Int32))), .val (.ref w_TIME_OF_DAY), .unset, .unset, .unset] [(.int (1 : Int32))])) _
                  refine XS.istoreN X77.here hx rfl (hb hby at_108) rfl (l' := #[.val (.int p1), .val (.int (p1 &&& (7 : Int32))), .val (.ref w_TIME_OF_DAY), .val (.int (1 : Int32)), .unset, .unset]) rfl ?_
                  show Steps p.tables e below (T77.setTop (mkF m 109 #[.val (.int p1), .val (.int (p1 &&& (7 : Int32))), .val (.ref w_TIME_OF_DAY), .val (.int (1 : Int32)), .unset, .unset] [])) _
                  refine XS.aloadN X77.here hx rfl (hb hby at_109) rfl rfl ?_
                  exact k)
                obtain ⟨cq80, kq80, q80a, q80b, q80c⟩ := isOf hZ e77 (Exa.ext O0 E_TIME_OF_DAY)
                obtain ⟨_, _, ⟨T80, L80, k80, n80⟩, -, X80, ⟨Lc80, hQ80, l80, y80, z80⟩, st80⟩ := X77.virtualBack hx (y := (⟨"com/example/knit/knit/exslt/SchemaDateTime$Type", "precision", "()I"⟩ : MethodName)) (z := (⟨"com/example/knit/knit/exslt/SchemaDateTime$Type", "precision", "()I"⟩ : MethodName)) hown (mvT hZ (hw _ (List.mem_of_getElem? (i := 3) rfl))) (mvT hZ (hw _ (List.mem_of_getElem? (i := 4) rfl))) (notFace_of_selects (args := #[]) (mvT hZ (hw _ (List.mem_of_getElem? (i := 6) rfl)))) (mvT hZ (hw _ (List.mem_of_getElem? (i := 6) rfl))) (mvT hZ (hw _ (List.mem_of_getElem? (i := 5) rfl))) (by decide) (backOf (W := 0) (rm_prec l Z a0 hw [] w_TIME_OF_DAY (0 : Int32) (0 : Int32) (1 : Int32) h0 n0 Z0 O0 (Fld.ext O0 F_hasMonth_TIME_OF_DAY) (Fld.ext O0 F_hasDay_TIME_OF_DAY) (Fld.ext O0 F_hasTime_TIME_OF_DAY)) hZ (hw _ (List.mem_of_getElem? (i := 7) rfl)) (hw _ (List.mem_of_getElem? (i := 1) rfl)) (by decide) (by decide)) q80a q80c (g := (mkF m 110 #[.val (.int p1), .val (.int (p1 &&& (7 : Int32))), .val (.ref w_TIME_OF_DAY), .val (.int (1 : Int32)), .unset, .unset] [(.ref w_TIME_OF_DAY)])) rfl (by rw [hml]; rfl) (Steps.refl _) (argsL := []) (rest := []) (lenOf pd_0 rfl) rfl (by show 2 * 0 + _ ≤ _; exact Nat.le_of_eq rfl) (hb hby at_110) (fun _ _ => ⟨rfl, e77, (by decide : 0 + 0 ≤ _), (by decide : 0 + 0 ≤ _)⟩)
                dsimp only [Pt.U, Pt.locs, Pt.cells, Pt.slots] at X80 l80 y80 z80 st80 hQ80
                subst l80 y80 z80
                obtain ⟨hv80, N80q, e80⟩ := hQ80
                rw [(show ((bF (0 : Int32) + bF (0 : Int32)) + bF (1 : Int32)) = (1 : Int32) from by decide)] at hv80
                subst hv80
                have N80 := Fr.app N0 N80q
                have pre81 : ∀ t, Steps p.tables e below (T80.setTop (mkF m 113 #[.val (.int p1), .val (.int (p1 &&& (7 : Int32))), .val (.ref w_TIME_OF_DAY), .val (.int (1 : Int32)), .unset, .unset] [(.int (1 : Int32))])) t → Steps p.tables e below (s₁.setTop (entryFrame m #[(.int p1)] maxLocals)) t := fun t k => pre79 t (st80.trans k)
                have pre82 : ∀ t, Steps p.tables e below (T80.setTop (mkF m 152 #[.val (.int p1), .val (.int (p1 &&& (7 : Int32))), .val (.ref w_TIME_OF_DAY), .val (.int (1 : Int32)), .val (.int (1 : Int32)), .val (.int (1 : Int32))] [(.int (1 : Int32))])) t → Steps p.tables e below (s₁.setTop (entryFrame m #[(.int p1)] maxLocals)) t := fun t k => pre81 t (by
                  show Steps p.tables e below (T80.setTop (mkF m 113 #[.val (.int p1), .val (.int (p1 &&& (7 : Int32))), .val (.ref w_TIME_OF_DAY), .val (.int (1 : Int32)), .unset, .unset] [(.int (1 : Int32))])) _
                  refine XS.istore X80.here hx rfl (hb hby at_113) rfl (l' := #[.val (.int p1), .val (.int (p1 &&& (7 : Int32))), .val (.ref w_TIME_OF_DAY), .val (.int (1 : Int32)), .val (.int (1 : Int32)), .unset]) rfl ?_
                  show Steps p.tables e below (T80.setTop (mkF m 115 #[.val (.int p1), .val (.int (p1 &&& (7 : Int32))), .val (.ref w_TIME_OF_DAY), .val (.int (1 : Int32)), .val (.int (1 : Int32)), .unset] [])) _
                  refine XS.iloadN X80.here hx rfl (hb hby at_115) rfl ?_
                  show Steps p.tables e below (T80.setTop (mkF m 116 #[.val (.int p1), .val (.int (p1 &&& (7 : Int32))), .val (.ref w_TIME_OF_DAY), .val (.int (1 : Int32)), .val (.int (1 : Int32)), .unset] [(.int (p1 &&& (7 : Int32)))])) _
                  refine XS.iconst X80.here hx rfl (hb hby at_116) ?_
                  show Steps p.tables e below (T80.setTop (mkF m 117 #[.val (.int p1), .val (.int (p1 &&& (7 : Int32))), .val (.ref w_TIME_OF_DAY), .val (.int (1 : Int32)), .val (.int (1 : Int32)), .unset] [(.int (3 : Int32)), (.int (p1 &&& (7 : Int32)))])) _
                  refine XS.icmpYes X80.here hx rfl (pc0 := 117) (pc' := 129) rfl (hb hby at_117) rfl (tlt (own_gt hc6_2 hc20_14 hc34_26 hc48_38)).2.2.1 (by decide) (by decide) ?_
                  show Steps p.tables e below (T80.setTop (mkF m 129 #[.val (.int p1), .val (.int (p1 &&& (7 : Int32))), .val (.ref w_TIME_OF_DAY), .val (.int (1 : Int32)), .val (.int (1 : Int32)), .unset] [])) _
                  refine XS.iconst X80.here hx rfl (hb hby at_129) ?_
                  show Steps p.tables e below (T80.setTop (mkF m 130 #[.val (.int p1), .val (.int (p1 &&& (7 : Int32))), .val (.ref w_TIME_OF_DAY), .val (.int (1 : Int32)), .val (.int (1 : Int32)), .unset] [(.int (1 : Int32))])) _
                  refine XS.goto X80.here hx rfl (pc0 := 130) (pc' := 134) rfl (hb hby at_130) (by decide) (by decide) ?_
                  show Steps p.tables e below (T80.setTop (mkF m 134 #[.val (.int p1), .val (.int (p1 &&& (7 : Int32))), .val (.ref w_TIME_OF_DAY), .val (.int (1 : Int32)), .val (.int (1 : Int32)), .unset] [(.int (1 : Int32))])) _
                  refine XS.istore X80.here hx rfl (hb hby at_134) rfl (l' := #[.val (.int p1), .val (.int (p1 &&& (7 : Int32))), .val (.ref w_TIME_OF_DAY), .val (.int (1 : Int32)), .val (.int (1 : Int32)), .val (.int (1 : Int32))]) rfl ?_
                  show Steps p.tables e below (T80.setTop (mkF m 136 #[.val (.int p1), .val (.int (p1 &&& (7 : Int32))), .val (.ref w_TIME_OF_DAY), .val (.int (1 : Int32)), .val (.int (1 : Int32)), .val (.int (1 : Int32))] [])) _
                  refine XS.iload X80.here hx rfl (hb hby at_136) rfl ?_
                  show Steps p.tables e below (T80.setTop (mkF m 138 #[.val (.int p1), .val (.int (p1 &&& (7 : Int32))), .val (.ref w_TIME_OF_DAY), .val (.int (1 : Int32)), .val (.int (1 : Int32)), .val (.int (1 : Int32))] [(.int (1 : Int32))])) _
                  refine XS.iloadN X80.here hx rfl (hb hby at_138) rfl ?_
                  show Steps p.tables e below (T80.setTop (mkF m 139 #[.val (.int p1), .val (.int (p1 &&& (7 : Int32))), .val (.ref w_TIME_OF_DAY), .val (.int (1 : Int32)), .val (.int (1 : Int32)), .val (.int (1 : Int32))] [(.int (1 : Int32)), (.int (1 : Int32))])) _
                  refine XS.icmpNo X80.here hx rfl (hb hby at_139) rfl (teq (by decide : (1 : Int32) = (1 : Int32))).2 ?_
                  show Steps p.tables e below (T80.setTop (mkF m 142 #[.val (.int p1), .val (.int (p1 &&& (7 : Int32))), .val (.ref w_TIME_OF_DAY), .val (.int (1 : Int32)), .val (.int (1 : Int32)), .val (.int (1 : Int32))] [])) _
                  refine XS.iload X80.here hx rfl (hb hby at_142) rfl ?_
                  show Steps p.tables e below (T80.setTop (mkF m 144 #[.val (.int p1), .val (.int (p1 &&& (7 : Int32))), .val (.ref w_TIME_OF_DAY), .val (.int (1 : Int32)), .val (.int (1 : Int32)), .val (.int (1 : Int32))] [(.int (1 : Int32))])) _
                  refine XS.ifNo X80.here hx rfl (hb hby at_144) rfl ((if0 _ _).trans (feq (by decide : ¬ ((1 : Int32) = (0 : Int32)))).1) ?_
                  show Steps p.tables e below (T80.setTop (mkF m 147 #[.val (.int p1), .val (.int (p1 &&& (7 : Int32))), .val (.ref w_TIME_OF_DAY), .val (.int (1 : Int32)), .val (.int (1 : Int32)), .val (.int (1 : Int32))] [])) _
                  refine XS.iconst X80.here hx rfl (hb hby at_147) ?_
                  show Steps p.tables e below (T80.setTop (mkF m 148 #[.val (.int p1), .val (.int (p1 &&& (7 : Int32))), .val (.ref w_TIME_OF_DAY), .val (.int (1 : Int32)), .val (.int (1 : Int32)), .val (.int (1 : Int32))] [(.int (1 : Int32))])) _
                  refine XS.goto X80.here hx rfl (pc0 := 148) (pc' := 152) rfl (hb hby at_148) (by decide) (by decide) ?_
                  exact k)
                obtain ⟨fs, hr, hrun, hended, hW, hsame⟩ := X80.leave (v := some (.int (1 : Int32))) (fun h => by rw [Bd.returns] at h; cases h)
                refine ⟨_, _, pre82 _ ?_, hrun, hended, _, _, rfl, ?_, ⟨_, rfl⟩, hW, hsame.mono (by decide) (by decide)⟩
                · exact retN X80 hx (t := .boolean) Bd.returns (by simp) (hb hby at_152) hr
                · show Q_rm_law Z p1 w_DATE_TIME w_G_YEAR w_G_DAY w_TIME_OF_DAY w_G_YEAR_MONTH w_DATE w_G_MONTH_DAY w_G_MONTH h0 n0 _ T80.heap _
                  rw [e80]
                  exact ⟨rfl, N80⟩
set_option maxRecDepth 65536 in
set_option maxHeartbeats 40000000 in
theorem comes_1 {Post : Tables → Env → Array Value → State → Outcome → State → Prop} (hpost : ∀ tb e args s v u, (limb_1_1.after args s (.returned v) u = true ∧ limb_1_2.after args s (.returned v) u = true ∧ True) → FrameEnd s (.returned v) u (Jvm.fieldLocs frame_1_writes args s ++ Jvm.arrayLocs frame_1_arrays args s ++ Jvm.staticLocs frame_1_statics s) 0 0 → Post tb e args s (.returned v) u) :
    ArmFor flags0 classFile x code maxLocals ret World_1 tables_1 room_1 Calls_1 rest_1 Pre_1 Post := by
  intro l hfl _ _ p e ha hc hk s m args below hf hA hF happ hP0
  obtain ⟨hcalls, hrest, hpre⟩ := hP0
  obtain ⟨-, -, -, hnamed, -, -, -, hat⟩ := (Spec.applies_iff hf).mp happ
  obtain ⟨hg, hn⟩ := and_e (Cond.before_iff.mp (show (Jvm.Cond.and given_1 narrow_1).before args s = true from hpre))
  obtain ⟨g0a, g0b⟩ := and_e hg
  obtain ⟨w0, rfl⟩ : ∃ w0 : Value, args = #[w0] := by
    have hs : args.size = 1 := by simpa [Cond.value, given_1] using g0a
    obtain ⟨L⟩ := args
    match L, hs with
    | [w0], _ => exact ⟨w0, rfl⟩
  have hw := fun d (hd : d ∈ tables_1) => atoms_spec (ws := Jvm.Cond.code x code maxLocals ret :: tables_1) hat d (List.mem_cons_of_mem _ hd)
  have hfit : Fit s := fun {y c} hc i hi => by
    obtain ⟨ha, rfl⟩ := Array.getElem?_eq_some_iff.mp hc
    have q := List.all_eq_true.mp ((Array.all_eq_true_iff_forall_mem.mp hF) _ (Array.getElem_mem ha)) i (List.mem_range.mpr hi)
    simpa [Array.getElem?_eq_getElem hi] using q
  obtain ⟨i0, ei0⟩ := is_v g0b
  obtain rfl : w0 = (.int i0) := Option.some.inj ei0
  have hn' := hn
  obtain ⟨na0, nb0⟩ := and_e hn
  obtain ⟨na1, nb1⟩ := and_e nb0
  obtain ⟨na2, nb2⟩ := and_e nb1
  obtain ⟨na3, nb3⟩ := and_e nb2
  obtain ⟨na4, nb4⟩ := and_e nb3
  obtain ⟨na5, nb5⟩ := and_e nb4
  obtain ⟨na6, nb6⟩ := and_e nb5
  obtain ⟨na7, nb7⟩ := and_e nb6
  obtain ⟨na8, nb8⟩ := and_e nb7
  obtain ⟨na9, nb9⟩ := and_e nb8
  obtain ⟨na10, nb10⟩ := and_e nb9
  obtain ⟨na11, nb11⟩ := and_e nb10
  obtain ⟨na12, nb12⟩ := and_e nb11
  obtain ⟨na13, nb13⟩ := and_e nb12
  obtain ⟨na14, nb14⟩ := and_e nb13
  obtain ⟨na15, nb15⟩ := and_e nb14
  obtain ⟨na16, nb16⟩ := and_e nb15
  obtain ⟨na17, nb17⟩ := and_e nb16
  obtain ⟨na18, nb18⟩ := and_e nb17
  obtain ⟨na19, nb19⟩ := and_e nb18
  obtain ⟨na20, nb20⟩ := and_e nb19
  obtain ⟨na21, nb21⟩ := and_e nb20
  obtain ⟨na22, nb22⟩ := and_e nb21
  obtain ⟨na23, nb23⟩ := and_e nb22
  obtain ⟨na24, nb24⟩ := and_e nb23
  obtain ⟨na25, nb25⟩ := and_e nb24
  obtain ⟨na26, nb26⟩ := and_e nb25
  obtain ⟨na27, nb27⟩ := and_e nb26
  obtain ⟨na28, nb28⟩ := and_e nb27
  obtain ⟨na29, nb29⟩ := and_e nb28
  obtain ⟨na30, nb30⟩ := and_e nb29
  obtain ⟨w_DATE_TIME, ev_DATE_TIME, E_DATE_TIME⟩ := own_pin na0
  have S_DATE_TIME := Sta.start ev_DATE_TIME (Or.inr ⟨(hw _ (List.mem_of_getElem? (i := 1) rfl)), (hw _ (List.mem_of_getElem? (i := 2) rfl))⟩)
  obtain ⟨w_G_YEAR, ev_G_YEAR, E_G_YEAR⟩ := own_pin na4
  have S_G_YEAR := Sta.start ev_G_YEAR (Or.inr ⟨(hw _ (List.mem_of_getElem? (i := 1) rfl)), (hw _ (List.mem_of_getElem? (i := 19) rfl))⟩)
  obtain ⟨w_G_DAY, ev_G_DAY, E_G_DAY⟩ := own_pin na8
  have S_G_DAY := Sta.start ev_G_DAY (Or.inr ⟨(hw _ (List.mem_of_getElem? (i := 1) rfl)), (hw _ (List.mem_of_getElem? (i := 22) rfl))⟩)
  obtain ⟨w_TIME_OF_DAY, ev_TIME_OF_DAY, E_TIME_OF_DAY⟩ := own_pin na12
  have S_TIME_OF_DAY := Sta.start ev_TIME_OF_DAY (Or.inr ⟨(hw _ (List.mem_of_getElem? (i := 1) rfl)), (hw _ (List.mem_of_getElem? (i := 24) rfl))⟩)
  obtain ⟨w_G_YEAR_MONTH, ev_G_YEAR_MONTH, E_G_YEAR_MONTH⟩ := own_pin na16
  have S_G_YEAR_MONTH := Sta.start ev_G_YEAR_MONTH (Or.inr ⟨(hw _ (List.mem_of_getElem? (i := 1) rfl)), (hw _ (List.mem_of_getElem? (i := 26) rfl))⟩)
  obtain ⟨w_DATE, ev_DATE, E_DATE⟩ := own_pin na20
  have S_DATE := Sta.start ev_DATE (Or.inr ⟨(hw _ (List.mem_of_getElem? (i := 1) rfl)), (hw _ (List.mem_of_getElem? (i := 29) rfl))⟩)
  obtain ⟨w_G_MONTH_DAY, ev_G_MONTH_DAY, E_G_MONTH_DAY⟩ := own_pin na24
  have S_G_MONTH_DAY := Sta.start ev_G_MONTH_DAY (Or.inr ⟨(hw _ (List.mem_of_getElem? (i := 1) rfl)), (hw _ (List.mem_of_getElem? (i := 32) rfl))⟩)
  obtain ⟨w_G_MONTH, ev_G_MONTH, E_G_MONTH⟩ := own_pin na28
  have S_G_MONTH := Sta.start ev_G_MONTH (Or.inr ⟨(hw _ (List.mem_of_getElem? (i := 1) rfl)), (hw _ (List.mem_of_getElem? (i := 34) rfl))⟩)
  have F_hasMonth_DATE_TIME := own_fld ev_DATE_TIME na1
  have F_hasDay_DATE_TIME := own_fld ev_DATE_TIME na2
  have F_hasTime_DATE_TIME := own_fld ev_DATE_TIME na3
  have F_hasMonth_G_YEAR := own_fld ev_G_YEAR na5
  have F_hasDay_G_YEAR := own_fld ev_G_YEAR na6
  have F_hasTime_G_YEAR := own_fld ev_G_YEAR na7
  have F_hasMonth_G_DAY := own_fld ev_G_DAY na9
  have F_hasDay_G_DAY := own_fld ev_G_DAY na10
  have F_hasTime_G_DAY := own_fld ev_G_DAY na11
  have F_hasMonth_TIME_OF_DAY := own_fld ev_TIME_OF_DAY na13
  have F_hasDay_TIME_OF_DAY := own_fld ev_TIME_OF_DAY na14
  have F_hasTime_TIME_OF_DAY := own_fld ev_TIME_OF_DAY na15
  have F_hasMonth_G_YEAR_MONTH := own_fld ev_G_YEAR_MONTH na17
  have F_hasDay_G_YEAR_MONTH := own_fld ev_G_YEAR_MONTH na18
  have F_hasTime_G_YEAR_MONTH := own_fld ev_G_YEAR_MONTH na19
  have F_hasMonth_DATE := own_fld ev_DATE na21
  have F_hasDay_DATE := own_fld ev_DATE na22
  have F_hasTime_DATE := own_fld ev_DATE na23
  have F_hasMonth_G_MONTH_DAY := own_fld ev_G_MONTH_DAY na25
  have F_hasDay_G_MONTH_DAY := own_fld ev_G_MONTH_DAY na26
  have F_hasTime_G_MONTH_DAY := own_fld ev_G_MONTH_DAY na27
  have F_hasMonth_G_MONTH := own_fld ev_G_MONTH na29
  have F_hasDay_G_MONTH := own_fld ev_G_MONTH na30
  have F_hasTime_G_MONTH := own_fld ev_G_MONTH nb30
  have hP : Pins s w_DATE_TIME w_G_YEAR w_G_DAY w_TIME_OF_DAY w_G_YEAR_MONTH w_DATE w_G_MONTH_DAY w_G_MONTH := ⟨S_DATE_TIME, S_G_YEAR, S_G_DAY, S_TIME_OF_DAY, S_G_YEAR_MONTH, S_DATE, S_G_MONTH_DAY, S_G_MONTH, E_DATE_TIME, E_G_YEAR, E_G_DAY, E_TIME_OF_DAY, E_G_YEAR_MONTH, E_DATE, E_G_MONTH_DAY, E_G_MONTH, F_hasMonth_DATE_TIME, F_hasDay_DATE_TIME, F_hasTime_DATE_TIME, F_hasMonth_G_YEAR, F_hasDay_G_YEAR, F_hasTime_G_YEAR, F_hasMonth_G_DAY, F_hasDay_G_DAY, F_hasTime_G_DAY, F_hasMonth_TIME_OF_DAY, F_hasDay_TIME_OF_DAY, F_hasTime_TIME_OF_DAY, F_hasMonth_G_YEAR_MONTH, F_hasDay_G_YEAR_MONTH, F_hasTime_G_YEAR_MONTH, F_hasMonth_DATE, F_hasDay_DATE, F_hasTime_DATE, F_hasMonth_G_MONTH_DAY, F_hasDay_G_MONTH_DAY, F_hasTime_G_MONTH_DAY, F_hasMonth_G_MONTH, F_hasDay_G_MONTH, F_hasTime_G_MONTH⟩
  obtain ⟨n, o, h1, h2, h3, _, L, rfl, ⟨rfl, N⟩, hq⟩ := rm_law l s _ hw tables_1 i0 w_DATE_TIME w_G_YEAR w_G_DAY w_TIME_OF_DAY w_G_YEAR_MONTH w_DATE w_G_MONTH_DAY w_G_MONTH s.heap s.heap.size (Nat.le_refl _) (own_ext_refl _) hP p e ha hc hk s m _ below hf ((Spec.applies_iff_loose hf).mp happ).1 ⟨rfl, State.Warmed39.refl s, rfl⟩ trivial
  refine ⟨n, _, h1, h2, h3, hpost _ _ _ _ _ _ ⟨Cond.after_iff.mpr rfl, Cond.after_iff.mpr (eq_i res_at (Term.int_eval (1)) rfl), trivial⟩ ⟨hq.1, hq.2.1, (hq.2.2.sift fun y hy => Or.inr (N y hy)).mono (by decide) (by decide)⟩⟩
theorem main_1_1 : Claimed_1_1 := comes_1 fun _ _ _ _ _ _ h hF => ⟨h.1, hF⟩
theorem main_1_2 : Claimed_1_2 := comes_1 fun _ _ _ _ _ _ h hF => ⟨h.2.1, hF⟩
end Jvm.Pilot.@@N@@
namespace Jvm.Pilot.@@N@@
open Jvm Jvm.ClassFile Sem Op Lib Jvm.Free Jvm.Stand Jvm.Pilot.@@N@@.Jvm.D
/-! MADE BY PROGRAM (witnessworld.py) out of the Statement's table words and the real class files: 12 classes; the members and pool entries that the words name. The judged class is class 1, her method 1. -/
namespace start1
open Jvm.ClassFile
def u (s : String) : CpInfo := .utf8 (stringToUtf16 s)
/-- a pool by its gaps: so many unusable entries, then the entry; so many at the end -/
def gap : Nat → List CpInfo → List CpInfo
  | 0, r => r
  | n + 1, r => .unusable :: gap n r
def poolList (es : List (Nat × CpInfo)) (last : Nat) : List CpInfo := es.foldr (fun e r => gap e.1 (e.2 :: r)) (gap last [])
def pool (es : List (Nat × CpInfo)) (last : Nat) : Array CpInfo := ⟨poolList es last⟩
def fileOf (pool : Array CpInfo) (this : Nat) (attrs : Array Attribute := #[]) (ms : Array MethodInfo := #[]) (fl : Nat := 33) (sup : Nat := 0) (ifs : Array Nat := #[]) (fds : Array FieldInfo := #[]) : ClassFile where
  minorVersion := 0
  majorVersion := 65
  constantPool := pool
  accessFlags := fl
  thisClass := this
  superClass := sup
  interfaces := ifs
  fields := fds
  methods := ms
  attributes := attrs
def plain (name : String) (sup : Option ClassId) : Class where
  name := name
  kind := .ordinary
  loader := none
  accessFlags := 33
  super := sup
  interfaces := #[]
  cf := none
  fields := #[]
  methods := #[]
  instanceTypes := #[]
  staticTypes := #[]
  resolved := #[]
  callSites := []
  init := .initialized
  statics := none
  mirror := none

def pool0 : Array CpInfo := pool [(5, u "<init>"), (0, u "()V"), (1, .class_ 10), (1, u "java/lang/Object")] 113

def k0m0 : Method := { name := "<init>", desc := "()V", sig := { parameters := [], returnType := none }, accessFlags := 1, code := none }
/-- java/lang/Object -/
def k0 : Class := { plain "java/lang/Object" none with
  accessFlags := 33
  interfaces := #[]
  cf := some (fileOf pool0 8 #[] #[{ accessFlags := 1, nameIndex := 5, descriptorIndex := 6, attributes := #[] }] 33 0 #[] #[])
  fields := #[]
  methods := #[k0m0]
  instanceTypes := #[]
  staticTypes := #[]
  resolved := Array.replicate 124 none
  statics := none }

def pool1 : Array CpInfo := pool [(2, .class_ 4), (1, u "java/lang/Object"), (0, u "<init>"), (0, u "()V"), (0, .fieldref 8 9), (0, .class_ 10), (0, .nameAndType 11 12), (0, u "com/example/knit/knit/exslt/SchemaDateTime$Type"), (0, u "DATE_TIME"), (0, u "Lcom/example/knit/knit/exslt/SchemaDateTime$Type;"), (0, .fieldref 8 14), (0, .nameAndType 15 12), (0, u "DATE"), (0, .fieldref 8 17), (0, .nameAndType 18 12), (0, u "G_YEAR_MONTH"), (0, .fieldref 8 20), (0, .nameAndType 21 12), (0, u "G_YEAR"), (0, .fieldref 8 23), (0, .nameAndType 24 12), (0, u "G_MONTH_DAY"), (0, .fieldref 8 26), (0, .nameAndType 27 12), (0, u "G_MONTH"), (0, .fieldref 8 29), (0, .nameAndType 30 12), (0, u "G_DAY"), (0, .fieldref 8 32), (0, .nameAndType 33 12), (0, u "TIME_OF_DAY"), (0, .methodref 8 35), (0, .nameAndType 36 37), (0, u "precision"), (0, u "()I"), (0, .methodref 8 39), (0, .nameAndType 40 41), (0, u "ofPrecision"), (0, u "(I)Lcom/example/knit/knit/exslt/SchemaDateTime$Type;"), (0, .class_ 43), (0, u "com/example/knit/knit/exslt/TypePrecisionPinLaw"), (2, u "law"), (0, u "(I)Z")] 7

def k1m0 : Method := { name := "<init>", desc := "()V", sig := { parameters := [], returnType := none }, accessFlags := 2, code := none }
def k1c1 : Code := { maxStack := 2, maxLocals := 6, code := code, exceptionTable := #[], attributes := #[] }
def k1m1 : Method := { name := "law", desc := "(I)Z", sig := { parameters := [.int], returnType := some .boolean }, accessFlags := 9, code := some k1c1 }
/-- com/example/knit/knit/exslt/TypePrecisionPinLaw -/
def k1 : Class := { plain "com/example/knit/knit/exslt/TypePrecisionPinLaw" (some 0) with
  accessFlags := 49
  interfaces := #[]
  cf := some (fileOf pool1 42 #[] #[{ accessFlags := 2, nameIndex := 5, descriptorIndex := 6, attributes := #[] }, { accessFlags := 9, nameIndex := 46, descriptorIndex := 47, attributes := #[] }] 49 2 #[] #[])
  fields := #[]
  methods := #[k1m0, k1m1]
  instanceTypes := #[]
  staticTypes := #[]
  resolved := Array.replicate 55 none
  statics := none }

def pool2 : Array CpInfo := pool [(1, .class_ 2), (0, u "java/lang/constant/Constable"), (0, .class_ 4), (0, u "java/lang/Object")] 6

/-- java/lang/constant/Constable -/
def k2 : Class := { plain "java/lang/constant/Constable" (some 0) with
  accessFlags := 1537
  interfaces := #[]
  cf := some (fileOf pool2 1 #[] #[] 1537 3 #[] #[])
  fields := #[]
  methods := #[]
  instanceTypes := #[]
  staticTypes := #[]
  resolved := Array.replicate 11 none
  statics := none }

def pool3 : Array CpInfo := pool [(1, .class_ 2), (0, u "java/lang/Comparable"), (0, .class_ 4), (0, u "java/lang/Object")] 7

/-- java/lang/Comparable -/
def k3 : Class := { plain "java/lang/Comparable" (some 0) with
  accessFlags := 1537
  interfaces := #[]
  cf := some (fileOf pool3 1 #[] #[] 1537 3 #[] #[])
  fields := #[]
  methods := #[]
  instanceTypes := #[]
  staticTypes := #[]
  resolved := Array.replicate 12 none
  statics := none }

def pool4 : Array CpInfo := pool [(1, .class_ 2), (0, u "java/io/Serializable"), (0, .class_ 4), (0, u "java/lang/Object")] 2

/-- java/io/Serializable -/
def k4 : Class := { plain "java/io/Serializable" (some 0) with
  accessFlags := 1537
  interfaces := #[]
  cf := some (fileOf pool4 1 #[] #[] 1537 3 #[] #[])
  fields := #[]
  methods := #[]
  instanceTypes := #[]
  staticTypes := #[]
  resolved := Array.replicate 7 none
  statics := none }

def pool5 : Array CpInfo := pool [(2, .class_ 4), (1, u "java/lang/Enum"), (0, u "name"), (0, u "Ljava/lang/String;"), (2, u "ordinal"), (0, u "I"), (1, .class_ 14), (1, u "java/lang/Object"), (4, u "hash"), (86, .class_ 108), (1, u "java/lang/Enum$EnumDesc"), (2, .class_ 112), (0, u "java/lang/constant/Constable"), (0, .class_ 114), (0, u "java/lang/Comparable"), (0, .class_ 116), (0, u "java/io/Serializable")] 87

/-- java/lang/Enum -/
def k5 : Class := { plain "java/lang/Enum" (some 0) with
  accessFlags := 1057
  interfaces := #[2, 3, 4]
  cf := some (fileOf pool5 2 #[.nestMembers #[106]] #[] 1057 12 #[111, 113, 115] #[{ accessFlags := 18, nameIndex := 5, descriptorIndex := 6, attributes := #[] }, { accessFlags := 18, nameIndex := 9, descriptorIndex := 10, attributes := #[] }, { accessFlags := 2, nameIndex := 19, descriptorIndex := 10, attributes := #[] }])
  fields := #[{ name := "name", type := (.object "java/lang/String"), accessFlags := 18, slot := 0, constantValue := 0 }, { name := "ordinal", type := .int, accessFlags := 18, slot := 1, constantValue := 0 }, { name := "hash", type := .int, accessFlags := 2, slot := 2, constantValue := 0 }]
  methods := #[]
  instanceTypes := #[(.object "java/lang/String"), .int, .int]
  staticTypes := #[]
  resolved := Array.replicate 204 none
  statics := none }

def pool6 : Array CpInfo := pool [(1, .class_ 2), (0, u "com/example/knit/knit/exslt/SchemaDateTime"), (0, .class_ 4), (0, u "com/example/knit/knit/exslt/SchemaDateTime$Type"), (0, .fieldref 3 6), (0, .nameAndType 7 8), (0, u "DATE_TIME"), (0, u "Lcom/example/knit/knit/exslt/SchemaDateTime$Type;"), (0, .fieldref 3 10), (0, .nameAndType 11 8), (0, u "DATE"), (0, .fieldref 3 13), (0, .nameAndType 14 8), (0, u "G_YEAR_MONTH"), (0, .fieldref 3 16), (0, .nameAndType 17 8), (0, u "G_YEAR"), (2, u "G_MONTH_DAY"), (2, u "G_MONTH"), (2, u "G_DAY"), (2, u "TIME_OF_DAY"), (2, u "$VALUES"), (0, u "[Lcom/example/knit/knit/exslt/SchemaDateTime$Type;"), (6, .class_ 42), (1, u "java/lang/Enum"), (18, u "form"), (0, u "Ljava/util/regex/Pattern;"), (2, u "hasYear"), (0, u "Z"), (0, .fieldref 3 68), (0, .nameAndType 69 66), (0, u "hasMonth"), (0, .fieldref 3 71), (0, .nameAndType 72 66), (0, u "hasDay"), (0, .fieldref 3 74), (0, .nameAndType 75 66), (0, u "hasTime"), (38, u "precision"), (0, u "()I"), (1, u "ofPrecision"), (0, u "(I)Lcom/example/knit/knit/exslt/SchemaDateTime$Type;")] 22

def k6c0 : Code := { maxStack := 2, maxLocals := 1, code := prog_13_method_4_code, exceptionTable := #[], attributes := #[] }
def k6m0 : Method := { name := "precision", desc := "()I", sig := { parameters := [], returnType := some .int }, accessFlags := 0, code := some k6c0 }
def k6c1 : Code := { maxStack := 1, maxLocals := 1, code := prog_13_method_5_code, exceptionTable := #[], attributes := #[] }
def k6m1 : Method := { name := "ofPrecision", desc := "(I)Lcom/example/knit/knit/exslt/SchemaDateTime$Type;", sig := { parameters := [.int], returnType := some (.object "com/example/knit/knit/exslt/SchemaDateTime$Type") }, accessFlags := 8, code := some k6c1 }
/-- com/example/knit/knit/exslt/SchemaDateTime$Type -/
def k6 : Class := { plain "com/example/knit/knit/exslt/SchemaDateTime$Type" (some 5) with
  accessFlags := 16432
  interfaces := #[]
  cf := some (fileOf pool6 3 #[.nestHost 1] #[{ accessFlags := 0, nameIndex := 114, descriptorIndex := 115, attributes := #[] }, { accessFlags := 8, nameIndex := 117, descriptorIndex := 118, attributes := #[] }] 16432 40 #[] #[{ accessFlags := 16409, nameIndex := 7, descriptorIndex := 8, attributes := #[] }, { accessFlags := 16409, nameIndex := 11, descriptorIndex := 8, attributes := #[] }, { accessFlags := 16409, nameIndex := 14, descriptorIndex := 8, attributes := #[] }, { accessFlags := 16409, nameIndex := 17, descriptorIndex := 8, attributes := #[] }, { accessFlags := 16409, nameIndex := 20, descriptorIndex := 8, attributes := #[] }, { accessFlags := 16409, nameIndex := 23, descriptorIndex := 8, attributes := #[] }, { accessFlags := 16409, nameIndex := 26, descriptorIndex := 8, attributes := #[] }, { accessFlags := 16409, nameIndex := 29, descriptorIndex := 8, attributes := #[] }, { accessFlags := 18, nameIndex := 61, descriptorIndex := 62, attributes := #[] }, { accessFlags := 18, nameIndex := 65, descriptorIndex := 66, attributes := #[] }, { accessFlags := 18, nameIndex := 69, descriptorIndex := 66, attributes := #[] }, { accessFlags := 18, nameIndex := 72, descriptorIndex := 66, attributes := #[] }, { accessFlags := 18, nameIndex := 75, descriptorIndex := 66, attributes := #[] }, { accessFlags := 4122, nameIndex := 32, descriptorIndex := 33, attributes := #[] }])
  fields := #[{ name := "DATE_TIME", type := (.object "com/example/knit/knit/exslt/SchemaDateTime$Type"), accessFlags := 16409, slot := 0, constantValue := 0 }, { name := "DATE", type := (.object "com/example/knit/knit/exslt/SchemaDateTime$Type"), accessFlags := 16409, slot := 1, constantValue := 0 }, { name := "G_YEAR_MONTH", type := (.object "com/example/knit/knit/exslt/SchemaDateTime$Type"), accessFlags := 16409, slot := 2, constantValue := 0 }, { name := "G_YEAR", type := (.object "com/example/knit/knit/exslt/SchemaDateTime$Type"), accessFlags := 16409, slot := 3, constantValue := 0 }, { name := "G_MONTH_DAY", type := (.object "com/example/knit/knit/exslt/SchemaDateTime$Type"), accessFlags := 16409, slot := 4, constantValue := 0 }, { name := "G_MONTH", type := (.object "com/example/knit/knit/exslt/SchemaDateTime$Type"), accessFlags := 16409, slot := 5, constantValue := 0 }, { name := "G_DAY", type := (.object "com/example/knit/knit/exslt/SchemaDateTime$Type"), accessFlags := 16409, slot := 6, constantValue := 0 }, { name := "TIME_OF_DAY", type := (.object "com/example/knit/knit/exslt/SchemaDateTime$Type"), accessFlags := 16409, slot := 7, constantValue := 0 }, { name := "form", type := (.object "java/util/regex/Pattern"), accessFlags := 18, slot := 3, constantValue := 0 }, { name := "hasYear", type := .boolean, accessFlags := 18, slot := 4, constantValue := 0 }, { name := "hasMonth", type := .boolean, accessFlags := 18, slot := 5, constantValue := 0 }, { name := "hasDay", type := .boolean, accessFlags := 18, slot := 6, constantValue := 0 }, { name := "hasTime", type := .boolean, accessFlags := 18, slot := 7, constantValue := 0 }, { name := "$VALUES", type := (.array (.object "com/example/knit/knit/exslt/SchemaDateTime$Type")), accessFlags := 4122, slot := 8, constantValue := 0 }]
  methods := #[k6m0, k6m1]
  instanceTypes := #[(.object "java/lang/String"), .int, .int, (.object "java/util/regex/Pattern"), .boolean, .boolean, .boolean, .boolean]
  staticTypes := #[(.object "com/example/knit/knit/exslt/SchemaDateTime$Type"), (.object "com/example/knit/knit/exslt/SchemaDateTime$Type"), (.object "com/example/knit/knit/exslt/SchemaDateTime$Type"), (.object "com/example/knit/knit/exslt/SchemaDateTime$Type"), (.object "com/example/knit/knit/exslt/SchemaDateTime$Type"), (.object "com/example/knit/knit/exslt/SchemaDateTime$Type"), (.object "com/example/knit/knit/exslt/SchemaDateTime$Type"), (.object "com/example/knit/knit/exslt/SchemaDateTime$Type"), (.array (.object "com/example/knit/knit/exslt/SchemaDateTime$Type"))]
  resolved := Array.replicate 141 none
  statics := some 0 }

def pool7 : Array CpInfo := pool [(1, u "java/lang/Cloneable"), (0, .class_ 1), (0, u "java/lang/Object"), (0, .class_ 3)] 3

/-- java/lang/Cloneable -/
def k7 : Class := { plain "java/lang/Cloneable" (some 0) with
  accessFlags := 1537
  interfaces := #[]
  cf := some (fileOf pool7 2 #[] #[] 1537 4 #[] #[])
  fields := #[]
  methods := #[]
  instanceTypes := #[]
  staticTypes := #[]
  resolved := Array.replicate 8 none
  statics := none }

/-- the primitive byte -/
def k8 : Class := { plain "byte" none with kind := .primitive 'B', accessFlags := 0x411 }
/-- [B -/
def k9 : Class := { plain "[B" (some 0) with kind := .array 8 .byte, interfaces := #[7, 4], accessFlags := 1041 }

/-- the primitive int -/
def k10 : Class := { plain "int" none with kind := .primitive 'I', accessFlags := 0x411 }
/-- [I -/
def k11 : Class := { plain "[I" (some 0) with kind := .array 10 .int, interfaces := #[7, 4], accessFlags := 1041 }

def heap : Heap := #[{ cls := 6, slots := #[.ref 1, .ref 6, .ref 5, .ref 2, .ref 7, .ref 8, .ref 3, .ref 4, .null], vm := .statics 6 },
  { cls := 6, slots := #[.null, .int 0, .int 0, .null, .int 0, .int 1, .int 1, .int 1], vm := .none },
  { cls := 6, slots := #[.null, .int 0, .int 0, .null, .int 0, .int 0, .int 0, .int 0], vm := .none },
  { cls := 6, slots := #[.null, .int 0, .int 0, .null, .int 0, .int 0, .int 1, .int 0], vm := .none },
  { cls := 6, slots := #[.null, .int 0, .int 0, .null, .int 0, .int 0, .int 0, .int 1], vm := .none },
  { cls := 6, slots := #[.null, .int 0, .int 0, .null, .int 0, .int 1, .int 0, .int 0], vm := .none },
  { cls := 6, slots := #[.null, .int 0, .int 0, .null, .int 0, .int 1, .int 1, .int 0], vm := .none },
  { cls := 6, slots := #[.null, .int 0, .int 0, .null, .int 0, .int 1, .int 1, .int 0], vm := .none },
  { cls := 6, slots := #[.null, .int 0, .int 0, .null, .int 0, .int 1, .int 0, .int 0], vm := .none }]
def classes : Array Class := #[k0, k1, k2, k3, k4, k5, k6, k7, k8, k9, k10, k11]
def interned : List (Array UInt16 × Addr) := []
def slotsUsed : Nat := 73
def theMethod : MethodId := ⟨1, 1⟩
def args0 : Array Value := #[.int 5]
def aboutOver (below : List Frame) : State where
  vm := { classes := classes, interned := interned.toArray }
  heap := heap
  slotsUsed := slotsUsed
  threads := #[{ frames := .invoking theMethod args0 :: below }]
def below0 : List Frame := [.native { method := ⟨0, 0⟩, args := #[] }]
def about1 : State := aboutOver below0
def p0 : Program := .bare "" "" ""
def e0 : Env := launch0.env 0 0 0
theorem w_frames : about1.frames = Frame.invoking theMethod args0 :: below0 := rfl
set_option maxRecDepth 65536 in
theorem w_args : argsFit about1.vm theMethod args0 = true := by decide +kernel
set_option maxRecDepth 65536 in
theorem w_heap : heapFits about1 = true := by decide +kernel
set_option maxRecDepth 65536 in
theorem w_runnable : about1.curStatus? = some .runnable := by decide +kernel
set_option maxRecDepth 65536 in
theorem w_alone : about1.alone = true := by decide +kernel
set_option maxRecDepth 65536 in
theorem w_named : about1.methodNamed? x = some theMethod := by decide +kernel
set_option maxRecDepth 65536 in
theorem w_hears : about1.hears theMethod below0 = true := by decide +kernel
set_option maxRecDepth 65536 in
theorem w_ripe : about1.ripe theMethod args0 below0 = true := by decide +kernel
theorem w_running : about1.status = .running := rfl
set_option maxRecDepth 65536 in
theorem w_room : about1.hasRoom e0.platform room_1 = true :=
  launch0.hasRoom_least _ room_1 (by decide +kernel) (by decide +kernel) (by decide +kernel) (by decide +kernel) (by decide +kernel) (by decide +kernel)
theorem allAtoms_all (ts : List Jvm.Cond) (a : Array Jvm.Value) (st : Jvm.State) : (allAtoms ts).before a st = ts.all (fun c => c.before a st) := by
  induction ts with
  | nil => rfl
  | cons c t ih =>
    show (Jvm.Cond.and c (allAtoms t)).before a st = _
    rw [Jvm.Cond.before_and, ih, List.all_cons]
def words1 : List Jvm.Cond := Jvm.Cond.code x code maxLocals ret :: tables_1
/-- a 'code' word, met by the world's own term for the bytes: nothing is compared byte by byte -/
theorem code_word {y : MethodName} {bytes : ByteArray} {mx : Nat} {rt : Option FieldType} {a : Array Value} {s : State} {m : MethodId} {meth : Method} {c : Code} (h1 : s.methodNamed? y = some m) (h2 : s.vm.method? m = some meth) (h3 : meth.code = some c) (h4 : c.code = bytes)
    (h5 : (c.maxLocals == mx && c.exceptionTable.isEmpty && decide (c.maxStack ≤ mostOperands) && decide (meth.sig.returnType = rt) && !meth.locks && decide (parseMethodDescriptor y.desc = some meth.sig)) = true) : (Jvm.Cond.code y bytes mx rt).before a s = true := by
  simp only [Bool.and_eq_true, beq_iff_eq, Bool.not_eq_true', decide_eq_true_eq] at h5
  obtain ⟨⟨⟨⟨⟨g1, g2⟩, g3⟩, g4⟩, g5⟩, g6⟩ := h5
  simp [Cond.before, Cond.holds, Cond.value, h1, h2, h3, h4, g1, g2, g3, g4, g5, g6]
def isCode : Jvm.Cond → Bool
  | .code _ _ _ _ => true
  | _ => false
theorem all_split {L : List Jvm.Cond} {P : Jvm.Cond → Bool} (h1 : L.all (fun c => isCode c || P c) = true) (h2 : ∀ c ∈ L.filter isCode, P c = true) : L.all P = true := by
  refine List.all_eq_true.mpr fun c hc => ?_
  have h := List.all_eq_true.mp h1 c hc
  rcases Bool.eq_false_or_eq_true (isCode c) with hi | hi
  · exact h2 c (List.mem_filter.mpr ⟨hc, hi⟩)
  · simpa [hi] using h
set_option maxRecDepth 65536 in
theorem w_c0 : (Jvm.Cond.code x code maxLocals ret).before args0 about1 = true := code_word (m := ⟨1, 1⟩) (meth := k1m1) (c := k1c1) (by decide +kernel) rfl rfl rfl (by decide +kernel)
set_option maxRecDepth 65536 in
theorem w_c1 : (Jvm.Cond.code ({ cls := "com/example/knit/knit/exslt/SchemaDateTime$Type", name := "precision", desc := "()I" } : Jvm.MethodName) prog_13_method_4_code (1 : Nat) (Option.some Jvm.ClassFile.FieldType.int)).before args0 about1 = true := code_word (m := ⟨6, 0⟩) (meth := k6m0) (c := k6c0) (by decide +kernel) rfl rfl rfl (by decide +kernel)
set_option maxRecDepth 65536 in
theorem w_c2 : (Jvm.Cond.code ({ cls := "com/example/knit/knit/exslt/SchemaDateTime$Type", name := "ofPrecision", desc := "(I)Lcom/example/knit/knit/exslt/SchemaDateTime$Type;" } : Jvm.MethodName) prog_13_method_5_code (1 : Nat) (Option.some (Jvm.ClassFile.FieldType.object "com/example/knit/knit/exslt/SchemaDateTime$Type"))).before args0 about1 = true := code_word (m := ⟨6, 1⟩) (meth := k6m1) (c := k6c1) (by decide +kernel) rfl rfl rfl (by decide +kernel)
def codes1 : List Jvm.Cond := [Jvm.Cond.code x code maxLocals ret, Jvm.Cond.code ({ cls := "com/example/knit/knit/exslt/SchemaDateTime$Type", name := "precision", desc := "()I" } : Jvm.MethodName) prog_13_method_4_code (1 : Nat) (Option.some Jvm.ClassFile.FieldType.int), Jvm.Cond.code ({ cls := "com/example/knit/knit/exslt/SchemaDateTime$Type", name := "ofPrecision", desc := "(I)Lcom/example/knit/knit/exslt/SchemaDateTime$Type;" } : Jvm.MethodName) prog_13_method_5_code (1 : Nat) (Option.some (Jvm.ClassFile.FieldType.object "com/example/knit/knit/exslt/SchemaDateTime$Type"))]
set_option maxRecDepth 65536 in
theorem codes_eq : words1.filter isCode = codes1 := rfl
theorem w_codes : ∀ c ∈ words1.filter isCode, c.before args0 about1 = true := by
  rw [codes_eq]
  intro c hc
  simp only [codes1, List.mem_cons, List.not_mem_nil, or_false] at hc
  rcases hc with rfl | rfl | rfl
  · exact w_c0
  · exact w_c1
  · exact w_c2
set_option maxRecDepth 65536 in
theorem w_t1 : (words1.take 24).all (fun c => isCode c || c.before args0 about1) = true := by decide +kernel
set_option maxRecDepth 65536 in
theorem w_t2 : (words1.drop 24).all (fun c => isCode c || c.before args0 about1) = true := by decide +kernel
theorem w_tables : (allAtoms (Jvm.Cond.code x code maxLocals ret :: tables_1)).before args0 about1 = true := by
  rw [allAtoms_all]
  show words1.all (fun c => c.before args0 about1) = true
  refine all_split ?_ w_codes
  rw [← List.take_append_drop 24 words1, List.all_append, w_t1, w_t2]
  rfl
set_option maxRecDepth 65536 in
theorem w_case : (Jvm.Cond.and given_1 narrow_1).before args0 about1 = true := by decide +kernel
theorem w_applies : (headSpec (Jvm.Cond.code x code maxLocals ret :: tables_1) room_1).applies x e0.platform about1 = true :=
  (Spec.applies_iff w_frames).mpr ⟨w_running, w_runnable, w_alone, w_named, w_hears, w_ripe, w_room, w_tables⟩
theorem atStart : AtStart classFile x code maxLocals ret World_1 tables_1 room_1 Calls_1 rest_1 Pre_1 launch0 p0 e0 about1 theMethod args0 below0 :=
  ⟨lists_1, trivial, launch0.admits_env _ _ _, launch0.least_env, fairChoices_fair.cas, fairChoices_fair.clock, w_frames, w_args, w_heap, w_applies, trivial, trivial, w_case⟩
end start1
theorem witness_1 : WitnessClaimed_1 := ⟨start1.p0, start1.e0, start1.about1, start1.theMethod, start1.args0, start1.below0, start1.atStart⟩
end Jvm.Pilot.@@N@@
