import JvmDerived
import JvmDerived.Pilot.@@N@@Statement
import JvmDerived.Pilot.@@N@@Code
set_option linter.unusedVariables false
set_option linter.unusedSimpArgs false
namespace Jvm.RoadKit
open Sem ClassFile Op Lib Jvm.Stand Jvm.Free Jvm.LawKit
section New
variable {p : Program} {l : Launch} {e : Env} {R : Room} {s : State} {m : MethodId} {args : Array Value} {below : List Frame} {meth : Method} {c : Code} {T : State} {locs : List Loc} {cells slots : Nat}
theorem retI (X : Stand p l e R s m args below meth c T locs cells slots) (hx : p.tables.exec = Jvm.exec) {pc : Nat} {Ls : Array Slot} {z : Int32} {rest : List Value} (hret : meth.sig.returnType = some .int) (hd : decode c.code pc = .ok (.ireturn, 1)) {fs : List Frame}
    (hl : ∀ (f : JFrame) (acts : List Action), f.method = m → f.locked = none → f.entered = [] → (doReturn e (T.setTop f) acts (some (.int z))).1 = T.setFrames fs) : Steps p.tables e below (T.setTop (mkF m pc Ls (.int z :: rest))) (T.setFrames fs) := by
  have hm' : T.vm.method? m = some meth := X.method'
  have hn : narrow .int (.int z) = .int z := rfl
  show Steps p.tables e below (T.setTop { method := m, pc := pc, locals := Ls, stack := _ :: rest, locked := none }) _
  jvm_step X.here [X.here.top, hx, hd, hm', hret, hn]
  first | (intro acts; rw [hl _ acts rfl rfl rfl]) | rw [hl _ _ rfl rfl rfl]
  exact Steps.refl _
end New
end Jvm.RoadKit
namespace Jvm.Pilot.@@N@@
open Jvm Jvm.ClassFile Sem Op Lib Jvm.Free Jvm.Stand Jvm.LawKit Jvm.RoadKit Bundle Jvm.Pilot.@@N@@.Jvm.D
theorem own_ext_refl (h : Heap) : Ext h h := ⟨Nat.le_refl _, fun _ _ q => q⟩
theorem own_ext_trans {h h' h2 : Heap} (A : Ext h h') (B : Ext h' h2) : Ext h h2 := ⟨Nat.le_trans A.1 B.1, fun a c q => B.2 a c (A.2 a c q)⟩
theorem own_ext_keep {h h' h2 : Heap} {ws : List Addr} (A : Ext h h') (K : Keep h' h2 ws) (q : ∀ x ∈ ws, h.size ≤ x) : Ext h h2 := ⟨Nat.le_trans A.1 K.1, fun a c r => K.2.1 a c (A.2 a c r) fun z => absurd (Array.getElem?_eq_some_iff.mp r).1 (Nat.not_lt.mpr (q a z))⟩
theorem own_pin {args : Array Value} {Z : State} {t : Term} {C : String} (h : (Jvm.Cond.exactly t C).value args Z none Z [] = some true) : ∃ a, t.eval args Z none [] Z = some (.ref a) ∧ Exa Z Z.heap a C := by
  obtain ⟨a, ev⟩ := exa_v h
  exact ⟨a, ev, Exa.start ev h⟩
theorem own_fld {args : Array Value} {Z : State} {t : Term} {a : Addr} {C n d : String} {k : Int32} (ev : t.eval args Z none [] Z = some (.ref a)) (h : (Jvm.Cond.eq (.field t C n d) (.int k)).value args Z none Z [] = some true) : Fld Z Z.heap a C n d (.int k) := by
  obtain ⟨x, y, h1, h2, hk, -⟩ := cmp_v (Or.inl h)
  have h2' : y = .int k := (Option.some.inj h2).symm
  subst h2'
  have hx : ∃ z, x = .int z := by cases x <;> simp [Kin, Value.isRef] at hk ⊢
  obtain ⟨z, rfl⟩ := hx
  have hv : (Jvm.Cond.eq (.field t C n d) (.int k)).value args Z none Z [] = some (decide (z = k)) := by simp only [Jvm.Cond.value, h1, h2]
  have e : z = k := gotT hv h
  subst e
  exact Fld.start (by rw [← fld_at ev]; exact h1)
def Pins (Z : State) (w_G_YEAR w_DATE w_DATE_TIME w_G_YEAR_MONTH : Addr) : Prop := Sta Z Z.heap "com/example/knit/knit/exslt/SchemaDateTime$Type" "G_YEAR" "Lcom/example/knit/knit/exslt/SchemaDateTime$Type;" (.ref w_G_YEAR) ∧ Sta Z Z.heap "com/example/knit/knit/exslt/SchemaDateTime$Type" "DATE" "Lcom/example/knit/knit/exslt/SchemaDateTime$Type;" (.ref w_DATE) ∧ Sta Z Z.heap "com/example/knit/knit/exslt/SchemaDateTime$Type" "DATE_TIME" "Lcom/example/knit/knit/exslt/SchemaDateTime$Type;" (.ref w_DATE_TIME) ∧ Sta Z Z.heap "com/example/knit/knit/exslt/SchemaDateTime$Type" "G_YEAR_MONTH" "Lcom/example/knit/knit/exslt/SchemaDateTime$Type;" (.ref w_G_YEAR_MONTH) ∧ Exa Z Z.heap w_G_YEAR "com/example/knit/knit/exslt/SchemaDateTime$Type" ∧ Exa Z Z.heap w_DATE "com/example/knit/knit/exslt/SchemaDateTime$Type" ∧ Exa Z Z.heap w_DATE_TIME "com/example/knit/knit/exslt/SchemaDateTime$Type" ∧ Exa Z Z.heap w_G_YEAR_MONTH "com/example/knit/knit/exslt/SchemaDateTime$Type" ∧ Fld Z Z.heap w_G_YEAR "com/example/knit/knit/exslt/SchemaDateTime$Type" "hasMonth" "Z" (.int (0 : Int32)) ∧ Fld Z Z.heap w_G_YEAR "com/example/knit/knit/exslt/SchemaDateTime$Type" "hasDay" "Z" (.int (0 : Int32)) ∧ Fld Z Z.heap w_G_YEAR "com/example/knit/knit/exslt/SchemaDateTime$Type" "hasTime" "Z" (.int (0 : Int32)) ∧ Fld Z Z.heap w_G_YEAR "com/example/knit/knit/exslt/SchemaDateTime$Type" "hasYear" "Z" (.int (1 : Int32)) ∧ Fld Z Z.heap w_DATE "com/example/knit/knit/exslt/SchemaDateTime$Type" "hasMonth" "Z" (.int (1 : Int32)) ∧ Fld Z Z.heap w_DATE "com/example/knit/knit/exslt/SchemaDateTime$Type" "hasDay" "Z" (.int (1 : Int32)) ∧ Fld Z Z.heap w_DATE "com/example/knit/knit/exslt/SchemaDateTime$Type" "hasTime" "Z" (.int (0 : Int32)) ∧ Fld Z Z.heap w_DATE "com/example/knit/knit/exslt/SchemaDateTime$Type" "hasYear" "Z" (.int (1 : Int32)) ∧ Fld Z Z.heap w_DATE_TIME "com/example/knit/knit/exslt/SchemaDateTime$Type" "hasMonth" "Z" (.int (1 : Int32)) ∧ Fld Z Z.heap w_DATE_TIME "com/example/knit/knit/exslt/SchemaDateTime$Type" "hasDay" "Z" (.int (1 : Int32)) ∧ Fld Z Z.heap w_DATE_TIME "com/example/knit/knit/exslt/SchemaDateTime$Type" "hasTime" "Z" (.int (1 : Int32)) ∧ Fld Z Z.heap w_DATE_TIME "com/example/knit/knit/exslt/SchemaDateTime$Type" "hasYear" "Z" (.int (1 : Int32)) ∧ Fld Z Z.heap w_G_YEAR_MONTH "com/example/knit/knit/exslt/SchemaDateTime$Type" "hasMonth" "Z" (.int (1 : Int32)) ∧ Fld Z Z.heap w_G_YEAR_MONTH "com/example/knit/knit/exslt/SchemaDateTime$Type" "hasDay" "Z" (.int (0 : Int32)) ∧ Fld Z Z.heap w_G_YEAR_MONTH "com/example/knit/knit/exslt/SchemaDateTime$Type" "hasTime" "Z" (.int (0 : Int32)) ∧ Fld Z Z.heap w_G_YEAR_MONTH "com/example/knit/knit/exslt/SchemaDateTime$Type" "hasYear" "Z" (.int (1 : Int32))
theorem own_getRef {p : Program} {l : Launch} {e : Env} {R : Room} {s : State} {m : MethodId} {args : Array Value} {below : List Frame} {meth : Method} {c : Code} {T : State} {locs : List Loc} {cells slots : Nat} {Z : State} {a0 : Array Value} {h : Heap}
    (X : Stand p l e R s m args below meth c T locs cells slots) (hx : p.tables.exec = Jvm.exec) (hZ : Z.Warmed39 s.vm) {own O n d : String} {index : Nat} (hown : s.vm.findClass own = some m.cls) (w : (Jvm.Cond.fieldRef own index O n d).before a0 Z = true)
    (eT : T.heap = h) {a : Addr} {v : Value} (F : Fld Z h a O n d v) {g : JFrame} (hg : g.method = m) {rest : List Value} (hs : g.stack = .ref a :: rest) (hd : decode c.code g.pc = .ok (.getfield index, 3)) :
    ∀ target, Steps p.tables e below (T.setTop { g with pc := g.pc + 3, stack := v :: rest }) target → Steps p.tables e below (T.setTop g) target := by
  intro target hr
  obtain ⟨cell, cf, k, i, f, h1, h2, h3, h4, -, -, h7⟩ := F
  have hT : Z.Warmed39 T.vm := wtrans hZ X.warmed
  have w' := Cond.fieldRef_warmed39 hT w
  have hcur : (Z.setVm T.vm).vm.findClass own = some m.cls := by
    show T.vm.findClass own = some m.cls
    rw [X.warmed.alike.findClass]; exact hown
  obtain ⟨c1, k1, i1, f1, q1, q2⟩ := Cond.fieldRef_spec hcur w'
  obtain ⟨k2, q3, -⟩ := State.fieldFound?_setVm (s := Z) hT.alike h2
  cases q1.symm.trans q3
  have hready : T.vm.fieldReady m.cls index cf f := q2
  subst hg
  jvm_step X.here [hx, hd, getfield.wp_ready (e := e) (s := T) (f := g) X.here.top hready h3 hs (by rw [eT]; exact h1) h4 h7]
  exact hr
def bF (b : Int32) : Int32 := if b = (0 : Int32) then (0 : Int32) else (1 : Int32)
def minF (x y : Int32) : Int32 := if y < x then y else x
theorem own_nn (x : Int32) : 0 ≤ (x &&& (2147483647 : Int32)).toInt := by
  have h := c_mask x 2147483647 31 (by decide) (by decide)
  omega
theorem own_n3 (x : Int32) : 0 ≤ (x &&& (3 : Int32)).toInt := by
  have h := c_mask x 3 2 (by decide) (by decide)
  omega
theorem own_min3 {x : Int32} (h : 0 ≤ x.toInt) (h0 : ¬ x = (0 : Int32)) (h1 : ¬ x = (1 : Int32)) (h2 : ¬ x = (2 : Int32)) : minF x (3 : Int32) = (3 : Int32) := by
  have k0 : ¬ x.toInt = 0 := fun q => h0 (Int32.toInt_inj.mp (by rw [q]; decide))
  have k1 : ¬ x.toInt = 1 := fun q => h1 (Int32.toInt_inj.mp (by rw [q]; decide))
  have k2 : ¬ x.toInt = 2 := fun q => h2 (Int32.toInt_inj.mp (by rw [q]; decide))
  have e : (3 : Int32).toInt = 3 := by decide
  unfold minF
  split
  · rfl
  · rename_i q
    rw [Int32.lt_iff_toInt_lt, e] at q
    exact Int32.toInt_inj.mp (by rw [e]; omega)
theorem ef_6 (m : MethodId) (x0 : Addr) : entryFrame m #[(.ref x0)] 1 = mkF m 0 #[.val (.ref x0)] [] := by first | (simp [entryFrame, mkF, argsToLocals, Value.category]; done) | rfl
theorem pn_com_example_knit_knit_exslt_SchemaDateTime_Type : plainName "com/example/knit/knit/exslt/SchemaDateTime$Type" = true := by first | (simp [plainName, overriddenIn]; done) | decide +kernel
theorem d6_0 : decode prog_13_method_4_code 0 = .ok (.aload_n 0, 1) := by decide +kernel
theorem d6_1 : decode prog_13_method_4_code 1 = .ok (.getfield 67, 3) := by decide +kernel
theorem d6_4 : decode prog_13_method_4_code 4 = .ok (.ifCond .eq 7, 3) := by decide +kernel
theorem d6_11 : decode prog_13_method_4_code 11 = .ok (.iconst 0, 1) := by decide +kernel
theorem d6_12 : decode prog_13_method_4_code 12 = .ok (.aload_n 0, 1) := by decide +kernel
theorem d6_13 : decode prog_13_method_4_code 13 = .ok (.getfield 70, 3) := by decide +kernel
theorem d6_16 : decode prog_13_method_4_code 16 = .ok (.ifCond .eq 7, 3) := by decide +kernel
theorem d6_23 : decode prog_13_method_4_code 23 = .ok (.iconst 0, 1) := by decide +kernel
theorem d6_24 : decode prog_13_method_4_code 24 = .ok (.iadd, 1) := by decide +kernel
theorem d6_25 : decode prog_13_method_4_code 25 = .ok (.aload_n 0, 1) := by decide +kernel
theorem d6_26 : decode prog_13_method_4_code 26 = .ok (.getfield 73, 3) := by decide +kernel
theorem d6_29 : decode prog_13_method_4_code 29 = .ok (.ifCond .eq 7, 3) := by decide +kernel
theorem d6_36 : decode prog_13_method_4_code 36 = .ok (.iconst 0, 1) := by decide +kernel
theorem d6_37 : decode prog_13_method_4_code 37 = .ok (.iadd, 1) := by decide +kernel
theorem d6_38 : decode prog_13_method_4_code 38 = .ok (.ireturn, 1) := by decide +kernel
theorem d6_32 : decode prog_13_method_4_code 32 = .ok (.iconst 1, 1) := by decide +kernel
theorem d6_33 : decode prog_13_method_4_code 33 = .ok (.goto 4, 3) := by decide +kernel
theorem d6_19 : decode prog_13_method_4_code 19 = .ok (.iconst 1, 1) := by decide +kernel
theorem d6_20 : decode prog_13_method_4_code 20 = .ok (.goto 4, 3) := by decide +kernel
theorem d6_7 : decode prog_13_method_4_code 7 = .ok (.iconst 1, 1) := by decide +kernel
theorem d6_8 : decode prog_13_method_4_code 8 = .ok (.goto 4, 3) := by decide +kernel
def Q_rm_prec (Z : State) (a1 : Addr) (bm bd bt : Int32) (h0 : Heap) (n0 : Nat) (v : Option Value) (h : Heap) (L : List Loc) : Prop := v = some (.int ((bF bm + bF bd) + bF bt)) ∧ Fr n0 L ∧ h = h0
set_option maxRecDepth 65536 in
set_option maxHeartbeats 40000000 in
theorem rm_prec (l : Launch) (Z : State) (a0 : Array Value) (hw : ∀ d ∈ tables_1, d.before a0 Z = true) (ws : List Jvm.Cond) (a1 : Addr) (bm bd bt : Int32) (h0 : Heap) (n0 : Nat) (Z0 : n0 ≤ h0.size) (O0 : Ext Z.heap h0) (F_hasMonth : Fld Z h0 a1 "com/example/knit/knit/exslt/SchemaDateTime$Type" "hasMonth" "Z" (.int bm)) (F_hasDay : Fld Z h0 a1 "com/example/knit/knit/exslt/SchemaDateTime$Type" "hasDay" "Z" (.int bd)) (F_hasTime : Fld Z h0 a1 "com/example/knit/knit/exslt/SchemaDateTime$Type" "hasTime" "Z" (.int bt)) :
    MetFree l (⟨"com/example/knit/knit/exslt/SchemaDateTime$Type", "precision", "()I"⟩ : MethodName) (head1 (Jvm.Cond.code (⟨"com/example/knit/knit/exslt/SchemaDateTime$Type", "precision", "()I"⟩ : MethodName) prog_13_method_4_code 1 (some .int) :: ws) ({ frames := 0, cells := 0, slots := 0, locals := 0 } : Room)) (fun a U => a = #[(.ref a1)] ∧ Z.Warmed39 U.vm ∧ U.heap = h0) (fun _ _ _ _ _ => True) (fun _ U o U' => ∃ v L, o = .returned v ∧ Q_rm_prec Z a1 bm bd bt h0 n0 v U'.heap L ∧ FrameEnd U o U' L ({ frames := 0, cells := 0, slots := 0, locals := 0 } : Room).cells ({ frames := 0, cells := 0, slots := 0, locals := 0 } : Room).slots) := by
  refine MetFree.of_bodySF (plainFor_of_name pn_com_example_knit_knit_exslt_SchemaDateTime_Type) hisR ?_
  intro p e s m args below meth c s₁ Bd hml0 hP hK
  obtain ⟨rfl, hZ, hh⟩ := hP
  have hx := Bd.exec
  have hby := Bd.bytes
  have hml : c.maxLocals = 1 := hml0
  have hown : s.vm.findClass "com/example/knit/knit/exslt/SchemaDateTime$Type" = some m.cls := findClass_of_methodNamed Bd.named
  have hnm := (name_of_methodNamed Bd.named Bd.method).1
  have X0 : Stand p l e ({ frames := 0, cells := 0, slots := 0, locals := 0 } : Room) s m #[(.ref a1)] below meth c s₁ [] 0 0 := Stand.of_body Bd
  have e0 : s₁.heap = h0 := by rw [← hh, Bd.state]; rfl
  have N0 := Fr.nil n0
  have pre0 : ∀ t, Steps p.tables e below (s₁.setTop (mkF m 0 #[.val (.ref a1)] [])) t → Steps p.tables e below (s₁.setTop (entryFrame m #[(.ref a1)] 1)) t := fun t k => castTop (ef_6 m a1) k
  have pre1 : ∀ t, Steps p.tables e below (s₁.setTop (mkF m 1 #[.val (.ref a1)] [(.ref a1)])) t → Steps p.tables e below (s₁.setTop (entryFrame m #[(.ref a1)] 1)) t := fun t k => pre0 t (by
    show Steps p.tables e below (s₁.setTop (mkF m 0 #[.val (.ref a1)] [])) _
    refine XS.aloadN X0.here hx rfl (hb hby d6_0) rfl rfl ?_
    exact k)
  obtain ⟨T2, X2, e2, st2⟩ := getF X0 hx hZ hown (host := "") (Or.inl (hw _ (List.mem_of_getElem? (i := 45) rfl))) Via.refl e0 F_hasMonth (g := (mkF m 1 #[.val (.ref a1)] [(.ref a1)])) rfl rfl (hb hby d6_1)
  have pre3 : ∀ t, Steps p.tables e below (T2.setTop (mkF m 4 #[.val (.ref a1)] [(.int bm)])) t → Steps p.tables e below (s₁.setTop (entryFrame m #[(.ref a1)] 1)) t := fun t k => pre1 t (st2 t k)
  by_cases hc4_4 : bm = (0 : Int32)
  · have pre5 : ∀ t, Steps p.tables e below (T2.setTop (mkF m 13 #[.val (.ref a1)] [(.ref a1), (.int (0 : Int32))])) t → Steps p.tables e below (s₁.setTop (entryFrame m #[(.ref a1)] 1)) t := fun t k => pre3 t (by
      show Steps p.tables e below (T2.setTop (mkF m 4 #[.val (.ref a1)] [(.int bm)])) _
      refine XS.ifYes X2.here hx rfl (pc0 := 4) (pc' := 11) rfl (hb hby d6_4) rfl ((if0 _ _).trans (teq hc4_4).1) (by decide) (by decide) ?_
      show Steps p.tables e below (T2.setTop (mkF m 11 #[.val (.ref a1)] [])) _
      refine XS.iconst X2.here hx rfl (hb hby d6_11) ?_
      show Steps p.tables e below (T2.setTop (mkF m 12 #[.val (.ref a1)] [(.int (0 : Int32))])) _
      refine XS.aloadN X2.here hx rfl (hb hby d6_12) rfl rfl ?_
      exact k)
    obtain ⟨T6, X6, e6, st6⟩ := getF X2 hx hZ hown (host := "") (Or.inl (hw _ (List.mem_of_getElem? (i := 47) rfl))) Via.refl e2 F_hasDay (g := (mkF m 13 #[.val (.ref a1)] [(.ref a1), (.int (0 : Int32))])) rfl rfl (hb hby d6_13)
    have pre7 : ∀ t, Steps p.tables e below (T6.setTop (mkF m 16 #[.val (.ref a1)] [(.int bd), (.int (0 : Int32))])) t → Steps p.tables e below (s₁.setTop (entryFrame m #[(.ref a1)] 1)) t := fun t k => pre5 t (st6 t k)
    by_cases hc16_8 : bd = (0 : Int32)
    · have pre9 : ∀ t, Steps p.tables e below (T6.setTop (mkF m 26 #[.val (.ref a1)] [(.ref a1), (.int ((0 : Int32) + (0 : Int32)))])) t → Steps p.tables e below (s₁.setTop (entryFrame m #[(.ref a1)] 1)) t := fun t k => pre7 t (by
        show Steps p.tables e below (T6.setTop (mkF m 16 #[.val (.ref a1)] [(.int bd), (.int (0 : Int32))])) _
        refine XS.ifYes X6.here hx rfl (pc0 := 16) (pc' := 23) rfl (hb hby d6_16) rfl ((if0 _ _).trans (teq hc16_8).1) (by decide) (by decide) ?_
        show Steps p.tables e below (T6.setTop (mkF m 23 #[.val (.ref a1)] [(.int (0 : Int32))])) _
        refine XS.iconst X6.here hx rfl (hb hby d6_23) ?_
        show Steps p.tables e below (T6.setTop (mkF m 24 #[.val (.ref a1)] [(.int (0 : Int32)), (.int (0 : Int32))])) _
        refine XS.iadd X6.here hx rfl (hb hby d6_24) rfl ?_
        show Steps p.tables e below (T6.setTop (mkF m 25 #[.val (.ref a1)] [(.int ((0 : Int32) + (0 : Int32)))])) _
        refine XS.aloadN X6.here hx rfl (hb hby d6_25) rfl rfl ?_
        exact k)
      obtain ⟨T10, X10, e10, st10⟩ := getF X6 hx hZ hown (host := "") (Or.inl (hw _ (List.mem_of_getElem? (i := 49) rfl))) Via.refl e6 F_hasTime (g := (mkF m 26 #[.val (.ref a1)] [(.ref a1), (.int ((0 : Int32) + (0 : Int32)))])) rfl rfl (hb hby d6_26)
      have pre11 : ∀ t, Steps p.tables e below (T10.setTop (mkF m 29 #[.val (.ref a1)] [(.int bt), (.int ((0 : Int32) + (0 : Int32)))])) t → Steps p.tables e below (s₁.setTop (entryFrame m #[(.ref a1)] 1)) t := fun t k => pre9 t (st10 t k)
      by_cases hc29_12 : bt = (0 : Int32)
      · have pre13 : ∀ t, Steps p.tables e below (T10.setTop (mkF m 38 #[.val (.ref a1)] [(.int (((0 : Int32) + (0 : Int32)) + (0 : Int32)))])) t → Steps p.tables e below (s₁.setTop (entryFrame m #[(.ref a1)] 1)) t := fun t k => pre11 t (by
          show Steps p.tables e below (T10.setTop (mkF m 29 #[.val (.ref a1)] [(.int bt), (.int ((0 : Int32) + (0 : Int32)))])) _
          refine XS.ifYes X10.here hx rfl (pc0 := 29) (pc' := 36) rfl (hb hby d6_29) rfl ((if0 _ _).trans (teq hc29_12).1) (by decide) (by decide) ?_
          show Steps p.tables e below (T10.setTop (mkF m 36 #[.val (.ref a1)] [(.int ((0 : Int32) + (0 : Int32)))])) _
          refine XS.iconst X10.here hx rfl (hb hby d6_36) ?_
          show Steps p.tables e below (T10.setTop (mkF m 37 #[.val (.ref a1)] [(.int (0 : Int32)), (.int ((0 : Int32) + (0 : Int32)))])) _
          refine XS.iadd X10.here hx rfl (hb hby d6_37) rfl ?_
          exact k)
        obtain ⟨fs, hr, hrun, hended, hW, hsame⟩ := X10.leave (v := some (.int (((0 : Int32) + (0 : Int32)) + (0 : Int32)))) (fun h => by rw [Bd.returns] at h; cases h)
        refine ⟨_, _, pre13 _ ?_, hrun, hended, _, _, rfl, ?_, ⟨_, rfl⟩, hW, hsame.mono (by decide) (by decide)⟩
        · exact retI X10 hx Bd.returns (hb hby d6_38) hr
        · show Q_rm_prec Z a1 bm bd bt h0 n0 _ T10.heap _
          rw [e10]
          exact ⟨(by simp [bF, hc4_4, hc16_8, hc29_12]), N0, rfl⟩
      · have pre14 : ∀ t, Steps p.tables e below (T10.setTop (mkF m 38 #[.val (.ref a1)] [(.int (((0 : Int32) + (0 : Int32)) + (1 : Int32)))])) t → Steps p.tables e below (s₁.setTop (entryFrame m #[(.ref a1)] 1)) t := fun t k => pre11 t (by
          show Steps p.tables e below (T10.setTop (mkF m 29 #[.val (.ref a1)] [(.int bt), (.int ((0 : Int32) + (0 : Int32)))])) _
          refine XS.ifNo X10.here hx rfl (hb hby d6_29) rfl ((if0 _ _).trans (feq hc29_12).1) ?_
          show Steps p.tables e below (T10.setTop (mkF m 32 #[.val (.ref a1)] [(.int ((0 : Int32) + (0 : Int32)))])) _
          refine XS.iconst X10.here hx rfl (hb hby d6_32) ?_
          show Steps p.tables e below (T10.setTop (mkF m 33 #[.val (.ref a1)] [(.int (1 : Int32)), (.int ((0 : Int32) + (0 : Int32)))])) _
          refine XS.goto X10.here hx rfl (pc0 := 33) (pc' := 37) rfl (hb hby d6_33) (by decide) (by decide) ?_
          show Steps p.tables e below (T10.setTop (mkF m 37 #[.val (.ref a1)] [(.int (1 : Int32)), (.int ((0 : Int32) + (0 : Int32)))])) _
          refine XS.iadd X10.here hx rfl (hb hby d6_37) rfl ?_
          exact k)
        obtain ⟨fs, hr, hrun, hended, hW, hsame⟩ := X10.leave (v := some (.int (((0 : Int32) + (0 : Int32)) + (1 : Int32)))) (fun h => by rw [Bd.returns] at h; cases h)
        refine ⟨_, _, pre14 _ ?_, hrun, hended, _, _, rfl, ?_, ⟨_, rfl⟩, hW, hsame.mono (by decide) (by decide)⟩
        · exact retI X10 hx Bd.returns (hb hby d6_38) hr
        · show Q_rm_prec Z a1 bm bd bt h0 n0 _ T10.heap _
          rw [e10]
          exact ⟨(by simp [bF, hc4_4, hc16_8, hc29_12]), N0, rfl⟩
    · have pre15 : ∀ t, Steps p.tables e below (T6.setTop (mkF m 26 #[.val (.ref a1)] [(.ref a1), (.int ((0 : Int32) + (1 : Int32)))])) t → Steps p.tables e below (s₁.setTop (entryFrame m #[(.ref a1)] 1)) t := fun t k => pre7 t (by
        show Steps p.tables e below (T6.setTop (mkF m 16 #[.val (.ref a1)] [(.int bd), (.int (0 : Int32))])) _
        refine XS.ifNo X6.here hx rfl (hb hby d6_16) rfl ((if0 _ _).trans (feq hc16_8).1) ?_
        show Steps p.tables e below (T6.setTop (mkF m 19 #[.val (.ref a1)] [(.int (0 : Int32))])) _
        refine XS.iconst X6.here hx rfl (hb hby d6_19) ?_
        show Steps p.tables e below (T6.setTop (mkF m 20 #[.val (.ref a1)] [(.int (1 : Int32)), (.int (0 : Int32))])) _
        refine XS.goto X6.here hx rfl (pc0 := 20) (pc' := 24) rfl (hb hby d6_20) (by decide) (by decide) ?_
        show Steps p.tables e below (T6.setTop (mkF m 24 #[.val (.ref a1)] [(.int (1 : Int32)), (.int (0 : Int32))])) _
        refine XS.iadd X6.here hx rfl (hb hby d6_24) rfl ?_
        show Steps p.tables e below (T6.setTop (mkF m 25 #[.val (.ref a1)] [(.int ((0 : Int32) + (1 : Int32)))])) _
        refine XS.aloadN X6.here hx rfl (hb hby d6_25) rfl rfl ?_
        exact k)
      obtain ⟨T16, X16, e16, st16⟩ := getF X6 hx hZ hown (host := "") (Or.inl (hw _ (List.mem_of_getElem? (i := 49) rfl))) Via.refl e6 F_hasTime (g := (mkF m 26 #[.val (.ref a1)] [(.ref a1), (.int ((0 : Int32) + (1 : Int32)))])) rfl rfl (hb hby d6_26)
      have pre17 : ∀ t, Steps p.tables e below (T16.setTop (mkF m 29 #[.val (.ref a1)] [(.int bt), (.int ((0 : Int32) + (1 : Int32)))])) t → Steps p.tables e below (s₁.setTop (entryFrame m #[(.ref a1)] 1)) t := fun t k => pre15 t (st16 t k)
      by_cases hc29_18 : bt = (0 : Int32)
      · have pre19 : ∀ t, Steps p.tables e below (T16.setTop (mkF m 38 #[.val (.ref a1)] [(.int (((0 : Int32) + (1 : Int32)) + (0 : Int32)))])) t → Steps p.tables e below (s₁.setTop (entryFrame m #[(.ref a1)] 1)) t := fun t k => pre17 t (by
          show Steps p.tables e below (T16.setTop (mkF m 29 #[.val (.ref a1)] [(.int bt), (.int ((0 : Int32) + (1 : Int32)))])) _
          refine XS.ifYes X16.here hx rfl (pc0 := 29) (pc' := 36) rfl (hb hby d6_29) rfl ((if0 _ _).trans (teq hc29_18).1) (by decide) (by decide) ?_
          show Steps p.tables e below (T16.setTop (mkF m 36 #[.val (.ref a1)] [(.int ((0 : Int32) + (1 : Int32)))])) _
          refine XS.iconst X16.here hx rfl (hb hby d6_36) ?_
          show Steps p.tables e below (T16.setTop (mkF m 37 #[.val (.ref a1)] [(.int (0 : Int32)), (.int ((0 : Int32) + (1 : Int32)))])) _
          refine XS.iadd X16.here hx rfl (hb hby d6_37) rfl ?_
          exact k)
        obtain ⟨fs, hr, hrun, hended, hW, hsame⟩ := X16.leave (v := some (.int (((0 : Int32) + (1 : Int32)) + (0 : Int32)))) (fun h => by rw [Bd.returns] at h; cases h)
        refine ⟨_, _, pre19 _ ?_, hrun, hended, _, _, rfl, ?_, ⟨_, rfl⟩, hW, hsame.mono (by decide) (by decide)⟩
        · exact retI X16 hx Bd.returns (hb hby d6_38) hr
        · show Q_rm_prec Z a1 bm bd bt h0 n0 _ T16.heap _
          rw [e16]
          exact ⟨(by simp [bF, hc4_4, hc16_8, hc29_18]), N0, rfl⟩
      · have pre20 : ∀ t, Steps p.tables e below (T16.setTop (mkF m 38 #[.val (.ref a1)] [(.int (((0 : Int32) + (1 : Int32)) + (1 : Int32)))])) t → Steps p.tables e below (s₁.setTop (entryFrame m #[(.ref a1)] 1)) t := fun t k => pre17 t (by
          show Steps p.tables e below (T16.setTop (mkF m 29 #[.val (.ref a1)] [(.int bt), (.int ((0 : Int32) + (1 : Int32)))])) _
          refine XS.ifNo X16.here hx rfl (hb hby d6_29) rfl ((if0 _ _).trans (feq hc29_18).1) ?_
          show Steps p.tables e below (T16.setTop (mkF m 32 #[.val (.ref a1)] [(.int ((0 : Int32) + (1 : Int32)))])) _
          refine XS.iconst X16.here hx rfl (hb hby d6_32) ?_
          show Steps p.tables e below (T16.setTop (mkF m 33 #[.val (.ref a1)] [(.int (1 : Int32)), (.int ((0 : Int32) + (1 : Int32)))])) _
          refine XS.goto X16.here hx rfl (pc0 := 33) (pc' := 37) rfl (hb hby d6_33) (by decide) (by decide) ?_
          show Steps p.tables e below (T16.setTop (mkF m 37 #[.val (.ref a1)] [(.int (1 : Int32)), (.int ((0 : Int32) + (1 : Int32)))])) _
          refine XS.iadd X16.here hx rfl (hb hby d6_37) rfl ?_
          exact k)
        obtain ⟨fs, hr, hrun, hended, hW, hsame⟩ := X16.leave (v := some (.int (((0 : Int32) + (1 : Int32)) + (1 : Int32)))) (fun h => by rw [Bd.returns] at h; cases h)
        refine ⟨_, _, pre20 _ ?_, hrun, hended, _, _, rfl, ?_, ⟨_, rfl⟩, hW, hsame.mono (by decide) (by decide)⟩
        · exact retI X16 hx Bd.returns (hb hby d6_38) hr
        · show Q_rm_prec Z a1 bm bd bt h0 n0 _ T16.heap _
          rw [e16]
          exact ⟨(by simp [bF, hc4_4, hc16_8, hc29_18]), N0, rfl⟩
  · have pre21 : ∀ t, Steps p.tables e below (T2.setTop (mkF m 13 #[.val (.ref a1)] [(.ref a1), (.int (1 : Int32))])) t → Steps p.tables e below (s₁.setTop (entryFrame m #[(.ref a1)] 1)) t := fun t k => pre3 t (by
      show Steps p.tables e below (T2.setTop (mkF m 4 #[.val (.ref a1)] [(.int bm)])) _
      refine XS.ifNo X2.here hx rfl (hb hby d6_4) rfl ((if0 _ _).trans (feq hc4_4).1) ?_
      show Steps p.tables e below (T2.setTop (mkF m 7 #[.val (.ref a1)] [])) _
      refine XS.iconst X2.here hx rfl (hb hby d6_7) ?_
      show Steps p.tables e below (T2.setTop (mkF m 8 #[.val (.ref a1)] [(.int (1 : Int32))])) _
      refine XS.goto X2.here hx rfl (pc0 := 8) (pc' := 12) rfl (hb hby d6_8) (by decide) (by decide) ?_
      show Steps p.tables e below (T2.setTop (mkF m 12 #[.val (.ref a1)] [(.int (1 : Int32))])) _
      refine XS.aloadN X2.here hx rfl (hb hby d6_12) rfl rfl ?_
      exact k)
    obtain ⟨T22, X22, e22, st22⟩ := getF X2 hx hZ hown (host := "") (Or.inl (hw _ (List.mem_of_getElem? (i := 47) rfl))) Via.refl e2 F_hasDay (g := (mkF m 13 #[.val (.ref a1)] [(.ref a1), (.int (1 : Int32))])) rfl rfl (hb hby d6_13)
    have pre23 : ∀ t, Steps p.tables e below (T22.setTop (mkF m 16 #[.val (.ref a1)] [(.int bd), (.int (1 : Int32))])) t → Steps p.tables e below (s₁.setTop (entryFrame m #[(.ref a1)] 1)) t := fun t k => pre21 t (st22 t k)
    by_cases hc16_24 : bd = (0 : Int32)
    · have pre25 : ∀ t, Steps p.tables e below (T22.setTop (mkF m 26 #[.val (.ref a1)] [(.ref a1), (.int ((1 : Int32) + (0 : Int32)))])) t → Steps p.tables e below (s₁.setTop (entryFrame m #[(.ref a1)] 1)) t := fun t k => pre23 t (by
        show Steps p.tables e below (T22.setTop (mkF m 16 #[.val (.ref a1)] [(.int bd), (.int (1 : Int32))])) _
        refine XS.ifYes X22.here hx rfl (pc0 := 16) (pc' := 23) rfl (hb hby d6_16) rfl ((if0 _ _).trans (teq hc16_24).1) (by decide) (by decide) ?_
        show Steps p.tables e below (T22.setTop (mkF m 23 #[.val (.ref a1)] [(.int (1 : Int32))])) _
        refine XS.iconst X22.here hx rfl (hb hby d6_23) ?_
        show Steps p.tables e below (T22.setTop (mkF m 24 #[.val (.ref a1)] [(.int (0 : Int32)), (.int (1 : Int32))])) _
        refine XS.iadd X22.here hx rfl (hb hby d6_24) rfl ?_
        show Steps p.tables e below (T22.setTop (mkF m 25 #[.val (.ref a1)] [(.int ((1 : Int32) + (0 : Int32)))])) _
        refine XS.aloadN X22.here hx rfl (hb hby d6_25) rfl rfl ?_
        exact k)
      obtain ⟨T26, X26, e26, st26⟩ := getF X22 hx hZ hown (host := "") (Or.inl (hw _ (List.mem_of_getElem? (i := 49) rfl))) Via.refl e22 F_hasTime (g := (mkF m 26 #[.val (.ref a1)] [(.ref a1), (.int ((1 : Int32) + (0 : Int32)))])) rfl rfl (hb hby d6_26)
      have pre27 : ∀ t, Steps p.tables e below (T26.setTop (mkF m 29 #[.val (.ref a1)] [(.int bt), (.int ((1 : Int32) + (0 : Int32)))])) t → Steps p.tables e below (s₁.setTop (entryFrame m #[(.ref a1)] 1)) t := fun t k => pre25 t (st26 t k)
      by_cases hc29_28 : bt = (0 : Int32)
      · have pre29 : ∀ t, Steps p.tables e below (T26.setTop (mkF m 38 #[.val (.ref a1)] [(.int (((1 : Int32) + (0 : Int32)) + (0 : Int32)))])) t → Steps p.tables e below (s₁.setTop (entryFrame m #[(.ref a1)] 1)) t := fun t k => pre27 t (by
          show Steps p.tables e below (T26.setTop (mkF m 29 #[.val (.ref a1)] [(.int bt), (.int ((1 : Int32) + (0 : Int32)))])) _
          refine XS.ifYes X26.here hx rfl (pc0 := 29) (pc' := 36) rfl (hb hby d6_29) rfl ((if0 _ _).trans (teq hc29_28).1) (by decide) (by decide) ?_
          show Steps p.tables e below (T26.setTop (mkF m 36 #[.val (.ref a1)] [(.int ((1 : Int32) + (0 : Int32)))])) _
          refine XS.iconst X26.here hx rfl (hb hby d6_36) ?_
          show Steps p.tables e below (T26.setTop (mkF m 37 #[.val (.ref a1)] [(.int (0 : Int32)), (.int ((1 : Int32) + (0 : Int32)))])) _
          refine XS.iadd X26.here hx rfl (hb hby d6_37) rfl ?_
          exact k)
        obtain ⟨fs, hr, hrun, hended, hW, hsame⟩ := X26.leave (v := some (.int (((1 : Int32) + (0 : Int32)) + (0 : Int32)))) (fun h => by rw [Bd.returns] at h; cases h)
        refine ⟨_, _, pre29 _ ?_, hrun, hended, _, _, rfl, ?_, ⟨_, rfl⟩, hW, hsame.mono (by decide) (by decide)⟩
        · exact retI X26 hx Bd.returns (hb hby d6_38) hr
        · show Q_rm_prec Z a1 bm bd bt h0 n0 _ T26.heap _
          rw [e26]
          exact ⟨(by simp [bF, hc4_4, hc16_24, hc29_28]), N0, rfl⟩
      · have pre30 : ∀ t, Steps p.tables e below (T26.setTop (mkF m 38 #[.val (.ref a1)] [(.int (((1 : Int32) + (0 : Int32)) + (1 : Int32)))])) t → Steps p.tables e below (s₁.setTop (entryFrame m #[(.ref a1)] 1)) t := fun t k => pre27 t (by
          show Steps p.tables e below (T26.setTop (mkF m 29 #[.val (.ref a1)] [(.int bt), (.int ((1 : Int32) + (0 : Int32)))])) _
          refine XS.ifNo X26.here hx rfl (hb hby d6_29) rfl ((if0 _ _).trans (feq hc29_28).1) ?_
          show Steps p.tables e below (T26.setTop (mkF m 32 #[.val (.ref a1)] [(.int ((1 : Int32) + (0 : Int32)))])) _
          refine XS.iconst X26.here hx rfl (hb hby d6_32) ?_
          show Steps p.tables e below (T26.setTop (mkF m 33 #[.val (.ref a1)] [(.int (1 : Int32)), (.int ((1 : Int32) + (0 : Int32)))])) _
          refine XS.goto X26.here hx rfl (pc0 := 33) (pc' := 37) rfl (hb hby d6_33) (by decide) (by decide) ?_
          show Steps p.tables e below (T26.setTop (mkF m 37 #[.val (.ref a1)] [(.int (1 : Int32)), (.int ((1 : Int32) + (0 : Int32)))])) _
          refine XS.iadd X26.here hx rfl (hb hby d6_37) rfl ?_
          exact k)
        obtain ⟨fs, hr, hrun, hended, hW, hsame⟩ := X26.leave (v := some (.int (((1 : Int32) + (0 : Int32)) + (1 : Int32)))) (fun h => by rw [Bd.returns] at h; cases h)
        refine ⟨_, _, pre30 _ ?_, hrun, hended, _, _, rfl, ?_, ⟨_, rfl⟩, hW, hsame.mono (by decide) (by decide)⟩
        · exact retI X26 hx Bd.returns (hb hby d6_38) hr
        · show Q_rm_prec Z a1 bm bd bt h0 n0 _ T26.heap _
          rw [e26]
          exact ⟨(by simp [bF, hc4_4, hc16_24, hc29_28]), N0, rfl⟩
    · have pre31 : ∀ t, Steps p.tables e below (T22.setTop (mkF m 26 #[.val (.ref a1)] [(.ref a1), (.int ((1 : Int32) + (1 : Int32)))])) t → Steps p.tables e below (s₁.setTop (entryFrame m #[(.ref a1)] 1)) t := fun t k => pre23 t (by
        show Steps p.tables e below (T22.setTop (mkF m 16 #[.val (.ref a1)] [(.int bd), (.int (1 : Int32))])) _
        refine XS.ifNo X22.here hx rfl (hb hby d6_16) rfl ((if0 _ _).trans (feq hc16_24).1) ?_
        show Steps p.tables e below (T22.setTop (mkF m 19 #[.val (.ref a1)] [(.int (1 : Int32))])) _
        refine XS.iconst X22.here hx rfl (hb hby d6_19) ?_
        show Steps p.tables e below (T22.setTop (mkF m 20 #[.val (.ref a1)] [(.int (1 : Int32)), (.int (1 : Int32))])) _
        refine XS.goto X22.here hx rfl (pc0 := 20) (pc' := 24) rfl (hb hby d6_20) (by decide) (by decide) ?_
        show Steps p.tables e below (T22.setTop (mkF m 24 #[.val (.ref a1)] [(.int (1 : Int32)), (.int (1 : Int32))])) _
        refine XS.iadd X22.here hx rfl (hb hby d6_24) rfl ?_
        show Steps p.tables e below (T22.setTop (mkF m 25 #[.val (.ref a1)] [(.int ((1 : Int32) + (1 : Int32)))])) _
        refine XS.aloadN X22.here hx rfl (hb hby d6_25) rfl rfl ?_
        exact k)
      obtain ⟨T32, X32, e32, st32⟩ := getF X22 hx hZ hown (host := "") (Or.inl (hw _ (List.mem_of_getElem? (i := 49) rfl))) Via.refl e22 F_hasTime (g := (mkF m 26 #[.val (.ref a1)] [(.ref a1), (.int ((1 : Int32) + (1 : Int32)))])) rfl rfl (hb hby d6_26)
      have pre33 : ∀ t, Steps p.tables e below (T32.setTop (mkF m 29 #[.val (.ref a1)] [(.int bt), (.int ((1 : Int32) + (1 : Int32)))])) t → Steps p.tables e below (s₁.setTop (entryFrame m #[(.ref a1)] 1)) t := fun t k => pre31 t (st32 t k)
      by_cases hc29_34 : bt = (0 : Int32)
      · have pre35 : ∀ t, Steps p.tables e below (T32.setTop (mkF m 38 #[.val (.ref a1)] [(.int (((1 : Int32) + (1 : Int32)) + (0 : Int32)))])) t → Steps p.tables e below (s₁.setTop (entryFrame m #[(.ref a1)] 1)) t := fun t k => pre33 t (by
          show Steps p.tables e below (T32.setTop (mkF m 29 #[.val (.ref a1)] [(.int bt), (.int ((1 : Int32) + (1 : Int32)))])) _
          refine XS.ifYes X32.here hx rfl (pc0 := 29) (pc' := 36) rfl (hb hby d6_29) rfl ((if0 _ _).trans (teq hc29_34).1) (by decide) (by decide) ?_
          show Steps p.tables e below (T32.setTop (mkF m 36 #[.val (.ref a1)] [(.int ((1 : Int32) + (1 : Int32)))])) _
          refine XS.iconst X32.here hx rfl (hb hby d6_36) ?_
          show Steps p.tables e below (T32.setTop (mkF m 37 #[.val (.ref a1)] [(.int (0 : Int32)), (.int ((1 : Int32) + (1 : Int32)))])) _
          refine XS.iadd X32.here hx rfl (hb hby d6_37) rfl ?_
          exact k)
        obtain ⟨fs, hr, hrun, hended, hW, hsame⟩ := X32.leave (v := some (.int (((1 : Int32) + (1 : Int32)) + (0 : Int32)))) (fun h => by rw [Bd.returns] at h; cases h)
        refine ⟨_, _, pre35 _ ?_, hrun, hended, _, _, rfl, ?_, ⟨_, rfl⟩, hW, hsame.mono (by decide) (by decide)⟩
        · exact retI X32 hx Bd.returns (hb hby d6_38) hr
        · show Q_rm_prec Z a1 bm bd bt h0 n0 _ T32.heap _
          rw [e32]
          exact ⟨(by simp [bF, hc4_4, hc16_24, hc29_34]), N0, rfl⟩
      · have pre36 : ∀ t, Steps p.tables e below (T32.setTop (mkF m 38 #[.val (.ref a1)] [(.int (((1 : Int32) + (1 : Int32)) + (1 : Int32)))])) t → Steps p.tables e below (s₁.setTop (entryFrame m #[(.ref a1)] 1)) t := fun t k => pre33 t (by
          show Steps p.tables e below (T32.setTop (mkF m 29 #[.val (.ref a1)] [(.int bt), (.int ((1 : Int32) + (1 : Int32)))])) _
          refine XS.ifNo X32.here hx rfl (hb hby d6_29) rfl ((if0 _ _).trans (feq hc29_34).1) ?_
          show Steps p.tables e below (T32.setTop (mkF m 32 #[.val (.ref a1)] [(.int ((1 : Int32) + (1 : Int32)))])) _
          refine XS.iconst X32.here hx rfl (hb hby d6_32) ?_
          show Steps p.tables e below (T32.setTop (mkF m 33 #[.val (.ref a1)] [(.int (1 : Int32)), (.int ((1 : Int32) + (1 : Int32)))])) _
          refine XS.goto X32.here hx rfl (pc0 := 33) (pc' := 37) rfl (hb hby d6_33) (by decide) (by decide) ?_
          show Steps p.tables e below (T32.setTop (mkF m 37 #[.val (.ref a1)] [(.int (1 : Int32)), (.int ((1 : Int32) + (1 : Int32)))])) _
          refine XS.iadd X32.here hx rfl (hb hby d6_37) rfl ?_
          exact k)
        obtain ⟨fs, hr, hrun, hended, hW, hsame⟩ := X32.leave (v := some (.int (((1 : Int32) + (1 : Int32)) + (1 : Int32)))) (fun h => by rw [Bd.returns] at h; cases h)
        refine ⟨_, _, pre36 _ ?_, hrun, hended, _, _, rfl, ?_, ⟨_, rfl⟩, hW, hsame.mono (by decide) (by decide)⟩
        · exact retI X32 hx Bd.returns (hb hby d6_38) hr
        · show Q_rm_prec Z a1 bm bd bt h0 n0 _ T32.heap _
          rw [e32]
          exact ⟨(by simp [bF, hc4_4, hc16_24, hc29_34]), N0, rfl⟩
theorem ef_1 (m : MethodId) (x0 : Int32) : entryFrame m #[(.int x0)] 1 = mkF m 0 #[.val (.int x0)] [] := by first | (simp [entryFrame, mkF, argsToLocals, Value.category]; done) | rfl
theorem d1_0 : decode prog_13_method_5_code 0 = .ok (.iload_n 0, 1) := by decide +kernel
theorem own_out_0_2 {x : Int32} (h0 : ¬ x = (0 : Int32)) (h1 : ¬ x = (1 : Int32)) (h2 : ¬ x = (2 : Int32)) : x.toInt < 0 ∨ x.toInt > 2 := by
  have k0 : ¬ x.toInt = 0 := fun q => h0 (Int32.toInt_inj.mp (by rw [q]; decide))
  have k1 : ¬ x.toInt = 1 := fun q => h1 (Int32.toInt_inj.mp (by rw [q]; decide))
  have k2 : ¬ x.toInt = 2 := fun q => h2 (Int32.toInt_inj.mp (by rw [q]; decide))
  omega
theorem d1_1 : decode prog_13_method_5_code 1 = .ok (.tableswitch 45 0 2 #[27, 33, 39], 27) := by decide +kernel
theorem d1_28 : decode prog_13_method_5_code 28 = .ok (.getstatic 15, 3) := by decide +kernel
theorem d1_31 : decode prog_13_method_5_code 31 = .ok (.goto 18, 3) := by decide +kernel
theorem d1_49 : decode prog_13_method_5_code 49 = .ok (.areturn, 1) := by decide +kernel
theorem d1_34 : decode prog_13_method_5_code 34 = .ok (.getstatic 12, 3) := by decide +kernel
theorem d1_37 : decode prog_13_method_5_code 37 = .ok (.goto 12, 3) := by decide +kernel
theorem d1_40 : decode prog_13_method_5_code 40 = .ok (.getstatic 9, 3) := by decide +kernel
theorem d1_43 : decode prog_13_method_5_code 43 = .ok (.goto 6, 3) := by decide +kernel
theorem d1_46 : decode prog_13_method_5_code 46 = .ok (.getstatic 5, 3) := by decide +kernel
def Q_rm_ofp (Z : State) (p1 : Int32) (w_G_YEAR w_DATE w_DATE_TIME w_G_YEAR_MONTH : Addr) (h0 : Heap) (n0 : Nat) (v : Option Value) (h : Heap) (L : List Loc) : Prop := v = some (.ref (if p1 = (0 : Int32) then w_G_YEAR else if p1 = (1 : Int32) then w_G_YEAR_MONTH else if p1 = (2 : Int32) then w_DATE else w_DATE_TIME)) ∧ Fr n0 L ∧ h = h0
set_option maxRecDepth 65536 in
set_option maxHeartbeats 40000000 in
theorem rm_ofp (l : Launch) (Z : State) (a0 : Array Value) (hw : ∀ d ∈ tables_1, d.before a0 Z = true) (ws : List Jvm.Cond) (p1 : Int32) (w_G_YEAR w_DATE w_DATE_TIME w_G_YEAR_MONTH : Addr) (h0 : Heap) (n0 : Nat) (Z0 : n0 ≤ h0.size) (O0 : Ext Z.heap h0) (P : Pins Z w_G_YEAR w_DATE w_DATE_TIME w_G_YEAR_MONTH) :
    MetFree l (⟨"com/example/knit/knit/exslt/SchemaDateTime$Type", "ofPrecision", "(I)Lcom/example/knit/knit/exslt/SchemaDateTime$Type;"⟩ : MethodName) (head1 (Jvm.Cond.code (⟨"com/example/knit/knit/exslt/SchemaDateTime$Type", "ofPrecision", "(I)Lcom/example/knit/knit/exslt/SchemaDateTime$Type;"⟩ : MethodName) prog_13_method_5_code 1 (some (.object "com/example/knit/knit/exslt/SchemaDateTime$Type")) :: ws) ({ frames := 0, cells := 0, slots := 0, locals := 0 } : Room)) (fun a U => a = #[(.int p1)] ∧ Z.Warmed39 U.vm ∧ U.heap = h0) (fun _ _ _ _ _ => True) (fun _ U o U' => ∃ v L, o = .returned v ∧ Q_rm_ofp Z p1 w_G_YEAR w_DATE w_DATE_TIME w_G_YEAR_MONTH h0 n0 v U'.heap L ∧ FrameEnd U o U' L ({ frames := 0, cells := 0, slots := 0, locals := 0 } : Room).cells ({ frames := 0, cells := 0, slots := 0, locals := 0 } : Room).slots) := by
  refine MetFree.of_bodySF (plainFor_of_name pn_com_example_knit_knit_exslt_SchemaDateTime_Type) hisR ?_
  intro p e s m args below meth c s₁ Bd hml0 hP hK
  obtain ⟨rfl, hZ, hh⟩ := hP
  have hx := Bd.exec
  have hby := Bd.bytes
  have hml : c.maxLocals = 1 := hml0
  have hown : s.vm.findClass "com/example/knit/knit/exslt/SchemaDateTime$Type" = some m.cls := findClass_of_methodNamed Bd.named
  have hnm := (name_of_methodNamed Bd.named Bd.method).1
  have X0 : Stand p l e ({ frames := 0, cells := 0, slots := 0, locals := 0 } : Room) s m #[(.int p1)] below meth c s₁ [] 0 0 := Stand.of_body Bd
  have e0 : s₁.heap = h0 := by rw [← hh, Bd.state]; rfl
  have N0 := Fr.nil n0
  have pre0 : ∀ t, Steps p.tables e below (s₁.setTop (mkF m 0 #[.val (.int p1)] [])) t → Steps p.tables e below (s₁.setTop (entryFrame m #[(.int p1)] 1)) t := fun t k => castTop (ef_1 m p1) k
  obtain ⟨S_G_YEAR, S_DATE, S_DATE_TIME, S_G_YEAR_MONTH, E_G_YEAR, E_DATE, E_DATE_TIME, E_G_YEAR_MONTH, F_hasMonth_G_YEAR, F_hasDay_G_YEAR, F_hasTime_G_YEAR, F_hasYear_G_YEAR, F_hasMonth_DATE, F_hasDay_DATE, F_hasTime_DATE, F_hasYear_DATE, F_hasMonth_DATE_TIME, F_hasDay_DATE_TIME, F_hasTime_DATE_TIME, F_hasYear_DATE_TIME, F_hasMonth_G_YEAR_MONTH, F_hasDay_G_YEAR_MONTH, F_hasTime_G_YEAR_MONTH, F_hasYear_G_YEAR_MONTH⟩ := P
  have pre1 : ∀ t, Steps p.tables e below (s₁.setTop (mkF m 1 #[.val (.int p1)] [(.int p1)])) t → Steps p.tables e below (s₁.setTop (entryFrame m #[(.int p1)] 1)) t := fun t k => pre0 t (by
    show Steps p.tables e below (s₁.setTop (mkF m 0 #[.val (.int p1)] [])) _
    refine XS.iloadN X0.here hx rfl (hb hby d1_0) rfl ?_
    exact k)
  by_cases ht1_2 : p1 = (0 : Int32)
  · have pre3 : ∀ t, Steps p.tables e below (s₁.setTop (mkF m 28 #[.val (.int p1)] [])) t → Steps p.tables e below (s₁.setTop (entryFrame m #[(.int p1)] 1)) t := fun t k => pre1 t (by
      show Steps p.tables e below (s₁.setTop (mkF m 1 #[.val (.int p1)] [(.int p1)])) _
      refine XS.tswIn X0.here hx rfl (pc0 := 1) (pc' := 28) (o := 27) rfl (hb hby d1_1) rfl (by rw [ht1_2]; decide) (by rw [ht1_2]; rfl) (by decide) (by decide) ?_
      exact k)
    obtain ⟨T4, X4, e4, st4⟩ := getS2 X0 hx hZ hown (host := "") (Or.inl (hw _ (List.mem_of_getElem? (i := 4) rfl))) Via.refl e0 (Sta.ext O0 S_G_YEAR) (g := (mkF m 28 #[.val (.int p1)] [])) rfl (hb hby d1_28)
    have pre5 : ∀ t, Steps p.tables e below (T4.setTop (mkF m 31 #[.val (.int p1)] [(.ref w_G_YEAR)])) t → Steps p.tables e below (s₁.setTop (entryFrame m #[(.int p1)] 1)) t := fun t k => pre3 t (st4 t k)
    have pre6 : ∀ t, Steps p.tables e below (T4.setTop (mkF m 49 #[.val (.int p1)] [(.ref w_G_YEAR)])) t → Steps p.tables e below (s₁.setTop (entryFrame m #[(.int p1)] 1)) t := fun t k => pre5 t (by
      show Steps p.tables e below (T4.setTop (mkF m 31 #[.val (.int p1)] [(.ref w_G_YEAR)])) _
      refine XS.goto X4.here hx rfl (pc0 := 31) (pc' := 49) rfl (hb hby d1_31) (by decide) (by decide) ?_
      exact k)
    obtain ⟨fs, hr, hrun, hended, hW, hsame⟩ := X4.leave (v := some (.ref w_G_YEAR)) (fun h => by rw [Bd.returns] at h; cases h)
    refine ⟨_, _, pre6 _ ?_, hrun, hended, _, _, rfl, ?_, ⟨_, rfl⟩, hW, hsame.mono (by decide) (by decide)⟩
    · show Steps p.tables e below (T4.setTop (mkF m 49 #[.val (.int p1)] [(.ref w_G_YEAR)])) _
      jvm_step X4.here [X4.here.top, hx, (hb hby d1_49), X4.method', Bd.returns, Value.isRef, FieldType.isReference]
      first | (intro acts; rw [hr _ acts rfl rfl rfl]) | rw [hr _ _ rfl rfl rfl]
      exact Steps.refl _
    · show Q_rm_ofp Z p1 w_G_YEAR w_DATE w_DATE_TIME w_G_YEAR_MONTH h0 n0 _ T4.heap _
      rw [e4]
      exact ⟨(by simp only [if_pos ht1_2]), N0, rfl⟩
  · by_cases ht1_7 : p1 = (1 : Int32)
    · have pre8 : ∀ t, Steps p.tables e below (s₁.setTop (mkF m 34 #[.val (.int p1)] [])) t → Steps p.tables e below (s₁.setTop (entryFrame m #[(.int p1)] 1)) t := fun t k => pre1 t (by
        show Steps p.tables e below (s₁.setTop (mkF m 1 #[.val (.int p1)] [(.int p1)])) _
        refine XS.tswIn X0.here hx rfl (pc0 := 1) (pc' := 34) (o := 33) rfl (hb hby d1_1) rfl (by rw [ht1_7]; decide) (by rw [ht1_7]; rfl) (by decide) (by decide) ?_
        exact k)
      obtain ⟨T9, X9, e9, st9⟩ := getS2 X0 hx hZ hown (host := "") (Or.inl (hw _ (List.mem_of_getElem? (i := 63) rfl))) Via.refl e0 (Sta.ext O0 S_G_YEAR_MONTH) (g := (mkF m 34 #[.val (.int p1)] [])) rfl (hb hby d1_34)
      have pre10 : ∀ t, Steps p.tables e below (T9.setTop (mkF m 37 #[.val (.int p1)] [(.ref w_G_YEAR_MONTH)])) t → Steps p.tables e below (s₁.setTop (entryFrame m #[(.int p1)] 1)) t := fun t k => pre8 t (st9 t k)
      have pre11 : ∀ t, Steps p.tables e below (T9.setTop (mkF m 49 #[.val (.int p1)] [(.ref w_G_YEAR_MONTH)])) t → Steps p.tables e below (s₁.setTop (entryFrame m #[(.int p1)] 1)) t := fun t k => pre10 t (by
        show Steps p.tables e below (T9.setTop (mkF m 37 #[.val (.int p1)] [(.ref w_G_YEAR_MONTH)])) _
        refine XS.goto X9.here hx rfl (pc0 := 37) (pc' := 49) rfl (hb hby d1_37) (by decide) (by decide) ?_
        exact k)
      obtain ⟨fs, hr, hrun, hended, hW, hsame⟩ := X9.leave (v := some (.ref w_G_YEAR_MONTH)) (fun h => by rw [Bd.returns] at h; cases h)
      refine ⟨_, _, pre11 _ ?_, hrun, hended, _, _, rfl, ?_, ⟨_, rfl⟩, hW, hsame.mono (by decide) (by decide)⟩
      · show Steps p.tables e below (T9.setTop (mkF m 49 #[.val (.int p1)] [(.ref w_G_YEAR_MONTH)])) _
        jvm_step X9.here [X9.here.top, hx, (hb hby d1_49), X9.method', Bd.returns, Value.isRef, FieldType.isReference]
        first | (intro acts; rw [hr _ acts rfl rfl rfl]) | rw [hr _ _ rfl rfl rfl]
        exact Steps.refl _
      · show Q_rm_ofp Z p1 w_G_YEAR w_DATE w_DATE_TIME w_G_YEAR_MONTH h0 n0 _ T9.heap _
        rw [e9]
        exact ⟨(by simp only [if_neg ht1_2, if_pos ht1_7]), N0, rfl⟩
    · by_cases ht1_12 : p1 = (2 : Int32)
      · have pre13 : ∀ t, Steps p.tables e below (s₁.setTop (mkF m 40 #[.val (.int p1)] [])) t → Steps p.tables e below (s₁.setTop (entryFrame m #[(.int p1)] 1)) t := fun t k => pre1 t (by
          show Steps p.tables e below (s₁.setTop (mkF m 1 #[.val (.int p1)] [(.int p1)])) _
          refine XS.tswIn X0.here hx rfl (pc0 := 1) (pc' := 40) (o := 39) rfl (hb hby d1_1) rfl (by rw [ht1_12]; decide) (by rw [ht1_12]; rfl) (by decide) (by decide) ?_
          exact k)
        obtain ⟨T14, X14, e14, st14⟩ := getS2 X0 hx hZ hown (host := "") (Or.inl (hw _ (List.mem_of_getElem? (i := 58) rfl))) Via.refl e0 (Sta.ext O0 S_DATE) (g := (mkF m 40 #[.val (.int p1)] [])) rfl (hb hby d1_40)
        have pre15 : ∀ t, Steps p.tables e below (T14.setTop (mkF m 43 #[.val (.int p1)] [(.ref w_DATE)])) t → Steps p.tables e below (s₁.setTop (entryFrame m #[(.int p1)] 1)) t := fun t k => pre13 t (st14 t k)
        have pre16 : ∀ t, Steps p.tables e below (T14.setTop (mkF m 49 #[.val (.int p1)] [(.ref w_DATE)])) t → Steps p.tables e below (s₁.setTop (entryFrame m #[(.int p1)] 1)) t := fun t k => pre15 t (by
          show Steps p.tables e below (T14.setTop (mkF m 43 #[.val (.int p1)] [(.ref w_DATE)])) _
          refine XS.goto X14.here hx rfl (pc0 := 43) (pc' := 49) rfl (hb hby d1_43) (by decide) (by decide) ?_
          exact k)
        obtain ⟨fs, hr, hrun, hended, hW, hsame⟩ := X14.leave (v := some (.ref w_DATE)) (fun h => by rw [Bd.returns] at h; cases h)
        refine ⟨_, _, pre16 _ ?_, hrun, hended, _, _, rfl, ?_, ⟨_, rfl⟩, hW, hsame.mono (by decide) (by decide)⟩
        · show Steps p.tables e below (T14.setTop (mkF m 49 #[.val (.int p1)] [(.ref w_DATE)])) _
          jvm_step X14.here [X14.here.top, hx, (hb hby d1_49), X14.method', Bd.returns, Value.isRef, FieldType.isReference]
          first | (intro acts; rw [hr _ acts rfl rfl rfl]) | rw [hr _ _ rfl rfl rfl]
          exact Steps.refl _
        · show Q_rm_ofp Z p1 w_G_YEAR w_DATE w_DATE_TIME w_G_YEAR_MONTH h0 n0 _ T14.heap _
          rw [e14]
          exact ⟨(by simp only [if_neg ht1_2, if_neg ht1_7, if_pos ht1_12]), N0, rfl⟩
      · have pre17 : ∀ t, Steps p.tables e below (s₁.setTop (mkF m 46 #[.val (.int p1)] [])) t → Steps p.tables e below (s₁.setTop (entryFrame m #[(.int p1)] 1)) t := fun t k => pre1 t (by
          show Steps p.tables e below (s₁.setTop (mkF m 1 #[.val (.int p1)] [(.int p1)])) _
          refine XS.tswOut X0.here hx rfl (pc0 := 1) (pc' := 46) rfl (hb hby d1_1) rfl (own_out_0_2 ht1_2 ht1_7 ht1_12) (by decide) (by decide) ?_
          exact k)
        obtain ⟨T18, X18, e18, st18⟩ := getS2 X0 hx hZ hown (host := "") (Or.inl (hw _ (List.mem_of_getElem? (i := 61) rfl))) Via.refl e0 (Sta.ext O0 S_DATE_TIME) (g := (mkF m 46 #[.val (.int p1)] [])) rfl (hb hby d1_46)
        have pre19 : ∀ t, Steps p.tables e below (T18.setTop (mkF m 49 #[.val (.int p1)] [(.ref w_DATE_TIME)])) t → Steps p.tables e below (s₁.setTop (entryFrame m #[(.int p1)] 1)) t := fun t k => pre17 t (st18 t k)
        obtain ⟨fs, hr, hrun, hended, hW, hsame⟩ := X18.leave (v := some (.ref w_DATE_TIME)) (fun h => by rw [Bd.returns] at h; cases h)
        refine ⟨_, _, pre19 _ ?_, hrun, hended, _, _, rfl, ?_, ⟨_, rfl⟩, hW, hsame.mono (by decide) (by decide)⟩
        · show Steps p.tables e below (T18.setTop (mkF m 49 #[.val (.int p1)] [(.ref w_DATE_TIME)])) _
          jvm_step X18.here [X18.here.top, hx, (hb hby d1_49), X18.method', Bd.returns, Value.isRef, FieldType.isReference]
          first | (intro acts; rw [hr _ acts rfl rfl rfl]) | rw [hr _ _ rfl rfl rfl]
          exact Steps.refl _
        · show Q_rm_ofp Z p1 w_G_YEAR w_DATE w_DATE_TIME w_G_YEAR_MONTH h0 n0 _ T18.heap _
          rw [e18]
          exact ⟨(by simp only [if_neg ht1_2, if_neg ht1_7, if_neg ht1_12]), N0, rfl⟩
theorem ef_2 (m : MethodId) (x0 : Int32) (x1 : Int32) : entryFrame m #[(.int x0), (.int x1)] 2 = mkF m 0 #[.val (.int x0), .val (.int x1)] [] := by first | (simp [entryFrame, mkF, argsToLocals, Value.category]; done) | rfl
theorem d2_0 : decode jdk_29_method_69_code 0 = .ok (.iload_n 0, 1) := by decide +kernel
theorem d2_1 : decode jdk_29_method_69_code 1 = .ok (.iload_n 1, 1) := by decide +kernel
theorem d2_2 : decode jdk_29_method_69_code 2 = .ok (.if_icmp .gt 7, 3) := by decide +kernel
theorem d2_9 : decode jdk_29_method_69_code 9 = .ok (.iload_n 1, 1) := by decide +kernel
theorem d2_10 : decode jdk_29_method_69_code 10 = .ok (.ireturn, 1) := by decide +kernel
theorem d2_5 : decode jdk_29_method_69_code 5 = .ok (.iload_n 0, 1) := by decide +kernel
theorem d2_6 : decode jdk_29_method_69_code 6 = .ok (.goto 4, 3) := by decide +kernel
def Q_rm_min (Z : State) (p1 : Int32) (p2 : Int32) (h0 : Heap) (n0 : Nat) (v : Option Value) (h : Heap) (L : List Loc) : Prop := v = some (.int (minF p1 p2)) ∧ Fr n0 L ∧ h = h0
set_option maxRecDepth 65536 in
set_option maxHeartbeats 40000000 in
theorem rm_min (l : Launch) (Z : State) (a0 : Array Value) (hw : ∀ d ∈ tables_1, d.before a0 Z = true) (ws : List Jvm.Cond) (p1 : Int32) (p2 : Int32) (h0 : Heap) (n0 : Nat) (Z0 : n0 ≤ h0.size) (O0 : Ext Z.heap h0) :
    MetFree l (⟨"java/lang/Math", "min", "(II)I"⟩ : MethodName) (head1 (Jvm.Cond.code (⟨"java/lang/Math", "min", "(II)I"⟩ : MethodName) jdk_29_method_69_code 2 (some .int) :: ws) ({ frames := 0, cells := 0, slots := 0, locals := 0 } : Room)) (fun a U => a = #[(.int p1), (.int p2)] ∧ Z.Warmed39 U.vm ∧ U.heap = h0) (fun _ _ _ _ _ => True) (fun _ U o U' => ∃ v L, o = .returned v ∧ Q_rm_min Z p1 p2 h0 n0 v U'.heap L ∧ FrameEnd U o U' L ({ frames := 0, cells := 0, slots := 0, locals := 0 } : Room).cells ({ frames := 0, cells := 0, slots := 0, locals := 0 } : Room).slots) := by
  refine MetFree.of_bodySF (Jvm.Free.JP.mathPlain rfl (by decide +kernel)) hisR ?_
  intro p e s m args below meth c s₁ Bd hml0 hP hK
  obtain ⟨rfl, hZ, hh⟩ := hP
  have hx := Bd.exec
  have hby := Bd.bytes
  have hml : c.maxLocals = 2 := hml0
  have hown : s.vm.findClass "java/lang/Math" = some m.cls := findClass_of_methodNamed Bd.named
  have hnm := (name_of_methodNamed Bd.named Bd.method).1
  have X0 : Stand p l e ({ frames := 0, cells := 0, slots := 0, locals := 0 } : Room) s m #[(.int p1), (.int p2)] below meth c s₁ [] 0 0 := Stand.of_body Bd
  have e0 : s₁.heap = h0 := by rw [← hh, Bd.state]; rfl
  have N0 := Fr.nil n0
  have pre0 : ∀ t, Steps p.tables e below (s₁.setTop (mkF m 0 #[.val (.int p1), .val (.int p2)] [])) t → Steps p.tables e below (s₁.setTop (entryFrame m #[(.int p1), (.int p2)] 2)) t := fun t k => castTop (ef_2 m p1 p2) k
  have pre1 : ∀ t, Steps p.tables e below (s₁.setTop (mkF m 2 #[.val (.int p1), .val (.int p2)] [(.int p2), (.int p1)])) t → Steps p.tables e below (s₁.setTop (entryFrame m #[(.int p1), (.int p2)] 2)) t := fun t k => pre0 t (by
    show Steps p.tables e below (s₁.setTop (mkF m 0 #[.val (.int p1), .val (.int p2)] [])) _
    refine XS.iloadN X0.here hx rfl (hb hby d2_0) rfl ?_
    show Steps p.tables e below (s₁.setTop (mkF m 1 #[.val (.int p1), .val (.int p2)] [(.int p1)])) _
    refine XS.iloadN X0.here hx rfl (hb hby d2_1) rfl ?_
    exact k)
  by_cases hc2_2 : p2 < p1
  · have pre3 : ∀ t, Steps p.tables e below (s₁.setTop (mkF m 10 #[.val (.int p1), .val (.int p2)] [(.int p2)])) t → Steps p.tables e below (s₁.setTop (entryFrame m #[(.int p1), (.int p2)] 2)) t := fun t k => pre1 t (by
      show Steps p.tables e below (s₁.setTop (mkF m 2 #[.val (.int p1), .val (.int p2)] [(.int p2), (.int p1)])) _
      refine XS.icmpYes X0.here hx rfl (pc0 := 2) (pc' := 9) rfl (hb hby d2_2) rfl (tlt hc2_2).2.2.1 (by decide) (by decide) ?_
      show Steps p.tables e below (s₁.setTop (mkF m 9 #[.val (.int p1), .val (.int p2)] [])) _
      refine XS.iloadN X0.here hx rfl (hb hby d2_9) rfl ?_
      exact k)
    obtain ⟨fs, hr, hrun, hended, hW, hsame⟩ := X0.leave (v := some (.int p2)) (fun h => by rw [Bd.returns] at h; cases h)
    refine ⟨_, _, pre3 _ ?_, hrun, hended, _, _, rfl, ?_, ⟨_, rfl⟩, hW, hsame.mono (by decide) (by decide)⟩
    · exact retI X0 hx Bd.returns (hb hby d2_10) hr
    · show Q_rm_min Z p1 p2 h0 n0 _ s₁.heap _
      rw [e0]
      exact ⟨(by simp only [minF, if_pos hc2_2]), N0, rfl⟩
  · have pre4 : ∀ t, Steps p.tables e below (s₁.setTop (mkF m 10 #[.val (.int p1), .val (.int p2)] [(.int p1)])) t → Steps p.tables e below (s₁.setTop (entryFrame m #[(.int p1), (.int p2)] 2)) t := fun t k => pre1 t (by
      show Steps p.tables e below (s₁.setTop (mkF m 2 #[.val (.int p1), .val (.int p2)] [(.int p2), (.int p1)])) _
      refine XS.icmpNo X0.here hx rfl (hb hby d2_2) rfl (flt hc2_2).2.2.1 ?_
      show Steps p.tables e below (s₁.setTop (mkF m 5 #[.val (.int p1), .val (.int p2)] [])) _
      refine XS.iloadN X0.here hx rfl (hb hby d2_5) rfl ?_
      show Steps p.tables e below (s₁.setTop (mkF m 6 #[.val (.int p1), .val (.int p2)] [(.int p1)])) _
      refine XS.goto X0.here hx rfl (pc0 := 6) (pc' := 10) rfl (hb hby d2_6) (by decide) (by decide) ?_
      exact k)
    obtain ⟨fs, hr, hrun, hended, hW, hsame⟩ := X0.leave (v := some (.int p1)) (fun h => by rw [Bd.returns] at h; cases h)
    refine ⟨_, _, pre4 _ ?_, hrun, hended, _, _, rfl, ?_, ⟨_, rfl⟩, hW, hsame.mono (by decide) (by decide)⟩
    · exact retI X0 hx Bd.returns (hb hby d2_10) hr
    · show Q_rm_min Z p1 p2 h0 n0 _ s₁.heap _
      rw [e0]
      exact ⟨(by simp only [minF, if_neg hc2_2]), N0, rfl⟩
theorem ef_4 (m : MethodId) (x0 : Addr) : entryFrame m #[(.ref x0)] 1 = mkF m 0 #[.val (.ref x0)] [] := by first | (simp [entryFrame, mkF, argsToLocals, Value.category]; done) | rfl
theorem pn_java_lang_Record : plainName "java/lang/Record" = true := by first | (simp [plainName, overriddenIn]; done) | decide +kernel
theorem d4_0 : decode jdk_30_method_1_code 0 = .ok (.aload_n 0, 1) := by decide +kernel
theorem d4_1 : decode jdk_30_method_1_code 1 = .ok (.invokespecial 1, 3) := by decide +kernel
theorem d4_4 : decode jdk_30_method_1_code 4 = .ok (.return_, 1) := by decide +kernel
def Q_rm_rec (Z : State) (a1 : Addr) (h0 : Heap) (n0 : Nat) (v : Option Value) (h : Heap) (L : List Loc) : Prop := v = none ∧ Fr n0 L ∧ h = h0
set_option maxRecDepth 65536 in
set_option maxHeartbeats 40000000 in
theorem rm_rec (l : Launch) (Z : State) (a0 : Array Value) (hw : ∀ d ∈ tables_1, d.before a0 Z = true) (ws : List Jvm.Cond) (a1 : Addr) (h0 : Heap) (n0 : Nat) (Z0 : n0 ≤ h0.size) (O0 : Ext Z.heap h0) :
    MetFree l (⟨"java/lang/Record", "<init>", "()V"⟩ : MethodName) (head1 (Jvm.Cond.code (⟨"java/lang/Record", "<init>", "()V"⟩ : MethodName) jdk_30_method_1_code 1 none :: ws) ({ frames := 1, cells := 0, slots := 0, locals := 12 } : Room)) (fun a U => a = #[(.ref a1)] ∧ Z.Warmed39 U.vm ∧ U.heap = h0) (fun _ _ _ _ _ => True) (fun _ U o U' => ∃ v L, o = .returned v ∧ Q_rm_rec Z a1 h0 n0 v U'.heap L ∧ FrameEnd U o U' L ({ frames := 1, cells := 0, slots := 0, locals := 12 } : Room).cells ({ frames := 1, cells := 0, slots := 0, locals := 12 } : Room).slots) := by
  refine MetFree.of_bodySF (plainFor_of_name pn_java_lang_Record) hisR ?_
  intro p e s m args below meth c s₁ Bd hml0 hP hK
  obtain ⟨rfl, hZ, hh⟩ := hP
  have hx := Bd.exec
  have hby := Bd.bytes
  have hml : c.maxLocals = 1 := hml0
  have hown : s.vm.findClass "java/lang/Record" = some m.cls := findClass_of_methodNamed Bd.named
  have hnm := (name_of_methodNamed Bd.named Bd.method).1
  have X0 : Stand p l e ({ frames := 1, cells := 0, slots := 0, locals := 12 } : Room) s m #[(.ref a1)] below meth c s₁ [] 0 0 := Stand.of_body Bd
  have e0 : s₁.heap = h0 := by rw [← hh, Bd.state]; rfl
  have N0 := Fr.nil n0
  have pre0 : ∀ t, Steps p.tables e below (s₁.setTop (mkF m 0 #[.val (.ref a1)] [])) t → Steps p.tables e below (s₁.setTop (entryFrame m #[(.ref a1)] 1)) t := fun t k => castTop (ef_4 m a1) k
  have pre1 : ∀ t, Steps p.tables e below (s₁.setTop (mkF m 1 #[.val (.ref a1)] [(.ref a1)])) t → Steps p.tables e below (s₁.setTop (entryFrame m #[(.ref a1)] 1)) t := fun t k => pre0 t (by
    show Steps p.tables e below (s₁.setTop (mkF m 0 #[.val (.ref a1)] [])) _
    refine XS.aloadN X0.here hx rfl (hb hby d4_0) rfl rfl ?_
    exact k)
  obtain ⟨T2, X2, e2, st2⟩ := initO X0 hx hZ hown (hw _ (List.mem_of_getElem? (i := 21) rfl)) (hw _ (List.mem_of_getElem? (i := 22) rfl)) (hw _ (List.mem_of_getElem? (i := 23) rfl)) e0 (g := (mkF m 1 #[.val (.ref a1)] [(.ref a1)])) rfl (by rw [hml]; rfl) rfl (hb hby d4_1) (by decide) (W := 0) (by show 2 * 0 + _ ≤ _; exact Nat.le_of_eq rfl) (by decide)
  have pre3 : ∀ t, Steps p.tables e below (T2.setTop (mkF m 4 #[.val (.ref a1)] [])) t → Steps p.tables e below (s₁.setTop (entryFrame m #[(.ref a1)] 1)) t := fun t k => pre1 t (st2 t k)
  obtain ⟨fs, hr, hrun, hended, hW, hsame⟩ := X2.leave (v := none) (fun _ => rfl)
  refine ⟨_, _, pre3 _ ?_, hrun, hended, _, _, rfl, ?_, ⟨_, rfl⟩, hW, hsame.mono (by decide) (by decide)⟩
  · exact X2.returnOut hx Bd.returns (hb hby d4_4) hr
  · show Q_rm_rec Z a1 h0 n0 _ T2.heap _
    rw [e2]
    exact ⟨rfl, N0, rfl⟩
theorem ef_3_RRJIIIInI (m : MethodId) (x0 : Addr) (x1 : Addr) (x2 : Int64) (x3 : Int32) (x4 : Int32) (x5 : Int32) (x6 : Int32) (x8 : Int32) : entryFrame m #[(.ref x0), (.ref x1), (.long x2), (.int x3), (.int x4), (.int x5), (.int x6), .null, (.int x8)] 10 = mkF m 0 #[.val (.ref x0), .val (.ref x1), .val (.long x2), .second, .val (.int x3), .val (.int x4), .val (.int x5), .val (.int x6), .val .null, .val (.int x8)] [] := by first | (simp [entryFrame, mkF, argsToLocals, Value.category]; done) | rfl
theorem pn_com_example_knit_knit_exslt_SchemaDateTime : plainName "com/example/knit/knit/exslt/SchemaDateTime" = true := by first | (simp [plainName, overriddenIn]; done) | decide +kernel
theorem d3_0 : decode prog_12_method_1_code 0 = .ok (.aload_n 0, 1) := by decide +kernel
theorem pd_0 : parseMethodDescriptor "()V" = some ⟨[], none⟩ := by decide +kernel
theorem d3_1 : decode prog_12_method_1_code 1 = .ok (.invokespecial 3, 3) := by decide +kernel
theorem d3_4 : decode prog_12_method_1_code 4 = .ok (.aload_n 0, 1) := by decide +kernel
theorem d3_5 : decode prog_12_method_1_code 5 = .ok (.aload_n 1, 1) := by decide +kernel
theorem d3_6 : decode prog_12_method_1_code 6 = .ok (.putfield 9, 3) := by decide +kernel
theorem d3_9 : decode prog_12_method_1_code 9 = .ok (.aload_n 0, 1) := by decide +kernel
theorem d3_10 : decode prog_12_method_1_code 10 = .ok (.lload_n 2, 1) := by decide +kernel
theorem d3_11 : decode prog_12_method_1_code 11 = .ok (.putfield 15, 3) := by decide +kernel
theorem d3_14 : decode prog_12_method_1_code 14 = .ok (.aload_n 0, 1) := by decide +kernel
theorem d3_15 : decode prog_12_method_1_code 15 = .ok (.iload 4, 2) := by decide +kernel
theorem d3_17 : decode prog_12_method_1_code 17 = .ok (.putfield 19, 3) := by decide +kernel
theorem d3_20 : decode prog_12_method_1_code 20 = .ok (.aload_n 0, 1) := by decide +kernel
theorem d3_21 : decode prog_12_method_1_code 21 = .ok (.iload 5, 2) := by decide +kernel
theorem d3_23 : decode prog_12_method_1_code 23 = .ok (.putfield 23, 3) := by decide +kernel
theorem d3_26 : decode prog_12_method_1_code 26 = .ok (.aload_n 0, 1) := by decide +kernel
theorem d3_27 : decode prog_12_method_1_code 27 = .ok (.iload 6, 2) := by decide +kernel
theorem d3_29 : decode prog_12_method_1_code 29 = .ok (.putfield 26, 3) := by decide +kernel
theorem d3_32 : decode prog_12_method_1_code 32 = .ok (.aload_n 0, 1) := by decide +kernel
theorem d3_33 : decode prog_12_method_1_code 33 = .ok (.iload 7, 2) := by decide +kernel
theorem d3_35 : decode prog_12_method_1_code 35 = .ok (.putfield 29, 3) := by decide +kernel
theorem d3_38 : decode prog_12_method_1_code 38 = .ok (.aload_n 0, 1) := by decide +kernel
theorem d3_39 : decode prog_12_method_1_code 39 = .ok (.aload 8, 2) := by decide +kernel
theorem d3_41 : decode prog_12_method_1_code 41 = .ok (.putfield 32, 3) := by decide +kernel
theorem d3_44 : decode prog_12_method_1_code 44 = .ok (.aload_n 0, 1) := by decide +kernel
theorem d3_45 : decode prog_12_method_1_code 45 = .ok (.iload 9, 2) := by decide +kernel
theorem d3_47 : decode prog_12_method_1_code 47 = .ok (.putfield 36, 3) := by decide +kernel
theorem d3_50 : decode prog_12_method_1_code 50 = .ok (.return_, 1) := by decide +kernel
def Q_rm_sd (Z : State) (a1 : Addr) (a2 : Addr) (q1 : Int64) (p1 : Int32) (p2 : Int32) (p3 : Int32) (p4 : Int32) (p5 : Int32) (h0 : Heap) (n0 : Nat) (v : Option Value) (h : Heap) (L : List Loc) : Prop := v = none ∧ Fr n0 L ∧ Keep h0 h [a1] ∧ Exa Z h a1 "com/example/knit/knit/exslt/SchemaDateTime" ∧ Fld Z h a1 "com/example/knit/knit/exslt/SchemaDateTime" "type" "Lcom/example/knit/knit/exslt/SchemaDateTime$Type;" (.ref a2)
set_option maxRecDepth 65536 in
set_option maxHeartbeats 40000000 in
theorem rm_sd (l : Launch) (Z : State) (a0 : Array Value) (hw : ∀ d ∈ tables_1, d.before a0 Z = true) (ws : List Jvm.Cond) (a1 : Addr) (a2 : Addr) (q1 : Int64) (p1 : Int32) (p2 : Int32) (p3 : Int32) (p4 : Int32) (p5 : Int32) (h0 : Heap) (n0 : Nat) (Z0 : n0 ≤ h0.size) (O0 : Ext Z.heap h0) (E_a1 : Exa Z h0 a1 "com/example/knit/knit/exslt/SchemaDateTime") (F_type : Fld Z h0 a1 "com/example/knit/knit/exslt/SchemaDateTime" "type" "Lcom/example/knit/knit/exslt/SchemaDateTime$Type;" .null) (F_year : Fld Z h0 a1 "com/example/knit/knit/exslt/SchemaDateTime" "year" "J" (.long (0 : Int64))) (F_month : Fld Z h0 a1 "com/example/knit/knit/exslt/SchemaDateTime" "month" "I" (.int (0 : Int32))) (F_day : Fld Z h0 a1 "com/example/knit/knit/exslt/SchemaDateTime" "day" "I" (.int (0 : Int32))) (F_hour : Fld Z h0 a1 "com/example/knit/knit/exslt/SchemaDateTime" "hour" "I" (.int (0 : Int32))) (F_minute : Fld Z h0 a1 "com/example/knit/knit/exslt/SchemaDateTime" "minute" "I" (.int (0 : Int32))) (F_second : Fld Z h0 a1 "com/example/knit/knit/exslt/SchemaDateTime" "second" "Ljava/math/BigDecimal;" .null) (F_zone : Fld Z h0 a1 "com/example/knit/knit/exslt/SchemaDateTime" "zone" "I" (.int (0 : Int32))) (g_a1 : n0 ≤ a1) (z_a1 : Z.heap.size ≤ a1) :
    MetFree l (⟨"com/example/knit/knit/exslt/SchemaDateTime", "<init>", "(Lcom/example/knit/knit/exslt/SchemaDateTime$Type;JIIIILjava/math/BigDecimal;I)V"⟩ : MethodName) (head1 (Jvm.Cond.code (⟨"com/example/knit/knit/exslt/SchemaDateTime", "<init>", "(Lcom/example/knit/knit/exslt/SchemaDateTime$Type;JIIIILjava/math/BigDecimal;I)V"⟩ : MethodName) prog_12_method_1_code 10 none :: ws) ({ frames := 2, cells := 0, slots := 0, locals := 24 } : Room)) (fun a U => a = #[(.ref a1), (.ref a2), (.long q1), (.int p1), (.int p2), (.int p3), (.int p4), .null, (.int p5)] ∧ Z.Warmed39 U.vm ∧ U.heap = h0) (fun _ _ _ _ _ => True) (fun _ U o U' => ∃ v L, o = .returned v ∧ Q_rm_sd Z a1 a2 q1 p1 p2 p3 p4 p5 h0 n0 v U'.heap L ∧ FrameEnd U o U' L ({ frames := 2, cells := 0, slots := 0, locals := 24 } : Room).cells ({ frames := 2, cells := 0, slots := 0, locals := 24 } : Room).slots) := by
  refine MetFree.of_bodySF (plainFor_of_name pn_com_example_knit_knit_exslt_SchemaDateTime) hisR ?_
  intro p e s m args below meth c s₁ Bd hml0 hP hK
  obtain ⟨rfl, hZ, hh⟩ := hP
  have hx := Bd.exec
  have hby := Bd.bytes
  have hml : c.maxLocals = 10 := hml0
  have hown : s.vm.findClass "com/example/knit/knit/exslt/SchemaDateTime" = some m.cls := findClass_of_methodNamed Bd.named
  have hnm := (name_of_methodNamed Bd.named Bd.method).1
  have X0 : Stand p l e ({ frames := 2, cells := 0, slots := 0, locals := 24 } : Room) s m #[(.ref a1), (.ref a2), (.long q1), (.int p1), (.int p2), (.int p3), (.int p4), .null, (.int p5)] below meth c s₁ [] 0 0 := Stand.of_body Bd
  have e0 : s₁.heap = h0 := by rw [← hh, Bd.state]; rfl
  have N0 := Fr.nil n0
  have pre0 : ∀ t, Steps p.tables e below (s₁.setTop (mkF m 0 #[.val (.ref a1), .val (.ref a2), .val (.long q1), .second, .val (.int p1), .val (.int p2), .val (.int p3), .val (.int p4), .val .null, .val (.int p5)] [])) t → Steps p.tables e below (s₁.setTop (entryFrame m #[(.ref a1), (.ref a2), (.long q1), (.int p1), (.int p2), (.int p3), (.int p4), .null, (.int p5)] 10)) t := fun t k => castTop (ef_3_RRJIIIInI m a1 a2 q1 p1 p2 p3 p4 p5) k
  have pre1 : ∀ t, Steps p.tables e below (s₁.setTop (mkF m 1 #[.val (.ref a1), .val (.ref a2), .val (.long q1), .second, .val (.int p1), .val (.int p2), .val (.int p3), .val (.int p4), .val .null, .val (.int p5)] [(.ref a1)])) t → Steps p.tables e below (s₁.setTop (entryFrame m #[(.ref a1), (.ref a2), (.long q1), (.int p1), (.int p2), (.int p3), (.int p4), .null, (.int p5)] 10)) t := fun t k => pre0 t (by
    show Steps p.tables e below (s₁.setTop (mkF m 0 #[.val (.ref a1), .val (.ref a2), .val (.long q1), .second, .val (.int p1), .val (.int p2), .val (.int p3), .val (.int p4), .val .null, .val (.int p5)] [])) _
    refine XS.aloadN X0.here hx rfl (hb hby d3_0) rfl rfl ?_
    exact k)
  obtain ⟨_, _, ⟨T2, L2, k2, n2⟩, -, X2, ⟨Lc2, hQ2, l2, y2, z2⟩, st2⟩ := X0.specialBack hx (y := (⟨"java/lang/Record", "<init>", "()V"⟩ : MethodName)) rfl hown (mvT hZ (hw _ (List.mem_of_getElem? (i := 16) rfl))) (mvT hZ (hw _ (List.mem_of_getElem? (i := 17) rfl))) (mvT hZ (hw _ (List.mem_of_getElem? (i := 20) rfl))) (by decide) (backOf (W := 0) (rm_rec l Z a0 hw [] a1 h0 n0 Z0 O0) hZ (hw _ (List.mem_of_getElem? (i := 20) rfl)) (hw _ (List.mem_of_getElem? (i := 19) rfl)) (by decide) (by decide)) (g := (mkF m 1 #[.val (.ref a1), .val (.ref a2), .val (.long q1), .second, .val (.int p1), .val (.int p2), .val (.int p3), .val (.int p4), .val .null, .val (.int p5)] [(.ref a1)])) rfl (by rw [hml]; rfl) (Steps.refl _) (a := a1) (argsL := []) (rest := []) (lenOf pd_0 rfl) rfl (by show 2 * 0 + _ ≤ _; exact Nat.le_of_eq rfl) (hb hby d3_1) (fun _ _ => ⟨rfl, e0, (by decide : 0 + 0 ≤ _), (by decide : 0 + 0 ≤ _)⟩)
  dsimp only [Pt.U, Pt.locs, Pt.cells, Pt.slots] at X2 l2 y2 z2 st2 hQ2
  subst l2 y2 z2
  obtain ⟨rfl, N2q, e2⟩ := hQ2
  have N2 := Fr.app N0 N2q
  have pre3 : ∀ t, Steps p.tables e below (T2.setTop (mkF m 4 #[.val (.ref a1), .val (.ref a2), .val (.long q1), .second, .val (.int p1), .val (.int p2), .val (.int p3), .val (.int p4), .val .null, .val (.int p5)] [])) t → Steps p.tables e below (s₁.setTop (entryFrame m #[(.ref a1), (.ref a2), (.long q1), (.int p1), (.int p2), (.int p3), (.int p4), .null, (.int p5)] 10)) t := fun t k => pre1 t (st2.trans k)
  have pre4 : ∀ t, Steps p.tables e below (T2.setTop (mkF m 6 #[.val (.ref a1), .val (.ref a2), .val (.long q1), .second, .val (.int p1), .val (.int p2), .val (.int p3), .val (.int p4), .val .null, .val (.int p5)] [(.ref a2), (.ref a1)])) t → Steps p.tables e below (s₁.setTop (entryFrame m #[(.ref a1), (.ref a2), (.long q1), (.int p1), (.int p2), (.int p3), (.int p4), .null, (.int p5)] 10)) t := fun t k => pre3 t (by
    show Steps p.tables e below (T2.setTop (mkF m 4 #[.val (.ref a1), .val (.ref a2), .val (.long q1), .second, .val (.int p1), .val (.int p2), .val (.int p3), .val (.int p4), .val .null, .val (.int p5)] [])) _
    refine XS.aloadN X2.here hx rfl (hb hby d3_4) rfl rfl ?_
    show Steps p.tables e below (T2.setTop (mkF m 5 #[.val (.ref a1), .val (.ref a2), .val (.long q1), .second, .val (.int p1), .val (.int p2), .val (.int p3), .val (.int p4), .val .null, .val (.int p5)] [(.ref a1)])) _
    refine XS.aloadN X2.here hx rfl (hb hby d3_5) rfl rfl ?_
    exact k)
  obtain ⟨T5, h5, X5, e5, W5, st5⟩ := putF X2 hx hZ hown (host := "") (Or.inl (hw _ (List.mem_of_getElem? (i := 24) rfl))) Via.refl e2 F_type E_a1 (Or.inr ⟨(hw _ (List.mem_of_getElem? (i := 25) rfl)), rfl, hnm⟩) (hw _ (List.mem_of_getElem? (i := 11) rfl)) (ty := (.object "com/example/knit/knit/exslt/SchemaDateTime$Type")) (by decide) rfl rfl (g := (mkF m 6 #[.val (.ref a1), .val (.ref a2), .val (.long q1), .second, .val (.int p1), .val (.int p2), .val (.int p3), .val (.int p4), .val .null, .val (.int p5)] [(.ref a2), (.ref a1)])) rfl rfl (hb hby d3_6)
  have Fw5 := F_type.same W5
  have f6 := (E_a1.wr W5)
  have f7 := (F_year.other W5 (Or.inr (slot_ne (Or.inr (hw _ (List.mem_of_getElem? (i := 27) rfl))) (Or.inr (hw _ (List.mem_of_getElem? (i := 25) rfl))) (by decide) (t := .long) (t' := (.object "com/example/knit/knit/exslt/SchemaDateTime$Type")) (by decide) (by decide))))
  have f8 := (F_month.other W5 (Or.inr (slot_ne (Or.inr (hw _ (List.mem_of_getElem? (i := 29) rfl))) (Or.inr (hw _ (List.mem_of_getElem? (i := 25) rfl))) (by decide) (t := .int) (t' := (.object "com/example/knit/knit/exslt/SchemaDateTime$Type")) (by decide) (by decide))))
  have f9 := (F_day.other W5 (Or.inr (slot_ne (Or.inr (hw _ (List.mem_of_getElem? (i := 31) rfl))) (Or.inr (hw _ (List.mem_of_getElem? (i := 25) rfl))) (by decide) (t := .int) (t' := (.object "com/example/knit/knit/exslt/SchemaDateTime$Type")) (by decide) (by decide))))
  have f10 := (F_hour.other W5 (Or.inr (slot_ne (Or.inr (hw _ (List.mem_of_getElem? (i := 33) rfl))) (Or.inr (hw _ (List.mem_of_getElem? (i := 25) rfl))) (by decide) (t := .int) (t' := (.object "com/example/knit/knit/exslt/SchemaDateTime$Type")) (by decide) (by decide))))
  have f11 := (F_minute.other W5 (Or.inr (slot_ne (Or.inr (hw _ (List.mem_of_getElem? (i := 35) rfl))) (Or.inr (hw _ (List.mem_of_getElem? (i := 25) rfl))) (by decide) (t := .int) (t' := (.object "com/example/knit/knit/exslt/SchemaDateTime$Type")) (by decide) (by decide))))
  have f12 := (F_second.other W5 (Or.inr (slot_ne (Or.inr (hw _ (List.mem_of_getElem? (i := 37) rfl))) (Or.inr (hw _ (List.mem_of_getElem? (i := 25) rfl))) (by decide) (t := (.object "java/math/BigDecimal")) (t' := (.object "com/example/knit/knit/exslt/SchemaDateTime$Type")) (by decide) (by decide))))
  have f13 := (F_zone.other W5 (Or.inr (slot_ne (Or.inr (hw _ (List.mem_of_getElem? (i := 39) rfl))) (Or.inr (hw _ (List.mem_of_getElem? (i := 25) rfl))) (by decide) (t := .int) (t' := (.object "com/example/knit/knit/exslt/SchemaDateTime$Type")) (by decide) (by decide))))
  have N5 := Fr.snoc X5 N2 g_a1
  have K5 := (Keep.refl h0 [a1]).wr W5 (Or.inl (List.mem_of_getElem? (i := 0) rfl))
  have O5 : Ext Z.heap h5 := own_ext_keep O0 (Keep.of_wr W5) (allS z_a1 all0)
  have Z5 : n0 ≤ h5.size := Nat.le_trans Z0 (Keep.of_wr W5).1
  have pre14 : ∀ t, Steps p.tables e below (T5.setTop (mkF m 9 #[.val (.ref a1), .val (.ref a2), .val (.long q1), .second, .val (.int p1), .val (.int p2), .val (.int p3), .val (.int p4), .val .null, .val (.int p5)] [])) t → Steps p.tables e below (s₁.setTop (entryFrame m #[(.ref a1), (.ref a2), (.long q1), (.int p1), (.int p2), (.int p3), (.int p4), .null, (.int p5)] 10)) t := fun t k => pre4 t (st5 t k)
  have pre15 : ∀ t, Steps p.tables e below (T5.setTop (mkF m 11 #[.val (.ref a1), .val (.ref a2), .val (.long q1), .second, .val (.int p1), .val (.int p2), .val (.int p3), .val (.int p4), .val .null, .val (.int p5)] [(.long q1), (.ref a1)])) t → Steps p.tables e below (s₁.setTop (entryFrame m #[(.ref a1), (.ref a2), (.long q1), (.int p1), (.int p2), (.int p3), (.int p4), .null, (.int p5)] 10)) t := fun t k => pre14 t (by
    show Steps p.tables e below (T5.setTop (mkF m 9 #[.val (.ref a1), .val (.ref a2), .val (.long q1), .second, .val (.int p1), .val (.int p2), .val (.int p3), .val (.int p4), .val .null, .val (.int p5)] [])) _
    refine XS.aloadN X5.here hx rfl (hb hby d3_9) rfl rfl ?_
    show Steps p.tables e below (T5.setTop (mkF m 10 #[.val (.ref a1), .val (.ref a2), .val (.long q1), .second, .val (.int p1), .val (.int p2), .val (.int p3), .val (.int p4), .val .null, .val (.int p5)] [(.ref a1)])) _
    refine XS.lloadN X5.here hx rfl (hb hby d3_10) rfl ?_
    exact k)
  obtain ⟨T16, h16, X16, e16, W16, st16⟩ := putF X5 hx hZ hown (host := "") (Or.inl (hw _ (List.mem_of_getElem? (i := 26) rfl))) Via.refl e5 f7 f6 (Or.inr ⟨(hw _ (List.mem_of_getElem? (i := 27) rfl)), rfl, hnm⟩) (hw _ (List.mem_of_getElem? (i := 11) rfl)) (ty := .long) (by decide) rfl rfl (g := (mkF m 11 #[.val (.ref a1), .val (.ref a2), .val (.long q1), .second, .val (.int p1), .val (.int p2), .val (.int p3), .val (.int p4), .val .null, .val (.int p5)] [(.long q1), (.ref a1)])) rfl rfl (hb hby d3_11)
  have Fw16 := f7.same W16
  have f17 := (f6.wr W16)
  have f18 := (Fw5.other W16 (Or.inr (slot_ne (Or.inr (hw _ (List.mem_of_getElem? (i := 25) rfl))) (Or.inr (hw _ (List.mem_of_getElem? (i := 27) rfl))) (by decide) (t := (.object "com/example/knit/knit/exslt/SchemaDateTime$Type")) (t' := .long) (by decide) (by decide))))
  have f19 := (f8.other W16 (Or.inr (slot_ne (Or.inr (hw _ (List.mem_of_getElem? (i := 29) rfl))) (Or.inr (hw _ (List.mem_of_getElem? (i := 27) rfl))) (by decide) (t := .int) (t' := .long) (by decide) (by decide))))
  have f20 := (f9.other W16 (Or.inr (slot_ne (Or.inr (hw _ (List.mem_of_getElem? (i := 31) rfl))) (Or.inr (hw _ (List.mem_of_getElem? (i := 27) rfl))) (by decide) (t := .int) (t' := .long) (by decide) (by decide))))
  have f21 := (f10.other W16 (Or.inr (slot_ne (Or.inr (hw _ (List.mem_of_getElem? (i := 33) rfl))) (Or.inr (hw _ (List.mem_of_getElem? (i := 27) rfl))) (by decide) (t := .int) (t' := .long) (by decide) (by decide))))
  have f22 := (f11.other W16 (Or.inr (slot_ne (Or.inr (hw _ (List.mem_of_getElem? (i := 35) rfl))) (Or.inr (hw _ (List.mem_of_getElem? (i := 27) rfl))) (by decide) (t := .int) (t' := .long) (by decide) (by decide))))
  have f23 := (f12.other W16 (Or.inr (slot_ne (Or.inr (hw _ (List.mem_of_getElem? (i := 37) rfl))) (Or.inr (hw _ (List.mem_of_getElem? (i := 27) rfl))) (by decide) (t := (.object "java/math/BigDecimal")) (t' := .long) (by decide) (by decide))))
  have f24 := (f13.other W16 (Or.inr (slot_ne (Or.inr (hw _ (List.mem_of_getElem? (i := 39) rfl))) (Or.inr (hw _ (List.mem_of_getElem? (i := 27) rfl))) (by decide) (t := .int) (t' := .long) (by decide) (by decide))))
  have N16 := Fr.snoc X16 N5 g_a1
  have K16 := K5.wr W16 (Or.inl (List.mem_of_getElem? (i := 0) rfl))
  have O16 : Ext Z.heap h16 := own_ext_keep O5 (Keep.of_wr W16) (allS z_a1 all0)
  have Z16 : n0 ≤ h16.size := Nat.le_trans Z5 (Keep.of_wr W16).1
  have pre25 : ∀ t, Steps p.tables e below (T16.setTop (mkF m 14 #[.val (.ref a1), .val (.ref a2), .val (.long q1), .second, .val (.int p1), .val (.int p2), .val (.int p3), .val (.int p4), .val .null, .val (.int p5)] [])) t → Steps p.tables e below (s₁.setTop (entryFrame m #[(.ref a1), (.ref a2), (.long q1), (.int p1), (.int p2), (.int p3), (.int p4), .null, (.int p5)] 10)) t := fun t k => pre15 t (st16 t k)
  have pre26 : ∀ t, Steps p.tables e below (T16.setTop (mkF m 17 #[.val (.ref a1), .val (.ref a2), .val (.long q1), .second, .val (.int p1), .val (.int p2), .val (.int p3), .val (.int p4), .val .null, .val (.int p5)] [(.int p1), (.ref a1)])) t → Steps p.tables e below (s₁.setTop (entryFrame m #[(.ref a1), (.ref a2), (.long q1), (.int p1), (.int p2), (.int p3), (.int p4), .null, (.int p5)] 10)) t := fun t k => pre25 t (by
    show Steps p.tables e below (T16.setTop (mkF m 14 #[.val (.ref a1), .val (.ref a2), .val (.long q1), .second, .val (.int p1), .val (.int p2), .val (.int p3), .val (.int p4), .val .null, .val (.int p5)] [])) _
    refine XS.aloadN X16.here hx rfl (hb hby d3_14) rfl rfl ?_
    show Steps p.tables e below (T16.setTop (mkF m 15 #[.val (.ref a1), .val (.ref a2), .val (.long q1), .second, .val (.int p1), .val (.int p2), .val (.int p3), .val (.int p4), .val .null, .val (.int p5)] [(.ref a1)])) _
    refine XS.iload X16.here hx rfl (hb hby d3_15) rfl ?_
    exact k)
  obtain ⟨T27, h27, X27, e27, W27, st27⟩ := putF X16 hx hZ hown (host := "") (Or.inl (hw _ (List.mem_of_getElem? (i := 28) rfl))) Via.refl e16 f19 f17 (Or.inr ⟨(hw _ (List.mem_of_getElem? (i := 29) rfl)), rfl, hnm⟩) (hw _ (List.mem_of_getElem? (i := 11) rfl)) (ty := .int) (by decide) rfl rfl (g := (mkF m 17 #[.val (.ref a1), .val (.ref a2), .val (.long q1), .second, .val (.int p1), .val (.int p2), .val (.int p3), .val (.int p4), .val .null, .val (.int p5)] [(.int p1), (.ref a1)])) rfl rfl (hb hby d3_17)
  have Fw27 := f19.same W27
  have f28 := (f17.wr W27)
  have f29 := (f18.other W27 (Or.inr (slot_ne (Or.inr (hw _ (List.mem_of_getElem? (i := 25) rfl))) (Or.inr (hw _ (List.mem_of_getElem? (i := 29) rfl))) (by decide) (t := (.object "com/example/knit/knit/exslt/SchemaDateTime$Type")) (t' := .int) (by decide) (by decide))))
  have f30 := (Fw16.other W27 (Or.inr (slot_ne (Or.inr (hw _ (List.mem_of_getElem? (i := 27) rfl))) (Or.inr (hw _ (List.mem_of_getElem? (i := 29) rfl))) (by decide) (t := .long) (t' := .int) (by decide) (by decide))))
  have f31 := (f20.other W27 (Or.inr (slot_ne (Or.inr (hw _ (List.mem_of_getElem? (i := 31) rfl))) (Or.inr (hw _ (List.mem_of_getElem? (i := 29) rfl))) (by decide) (t := .int) (t' := .int) (by decide) (by decide))))
  have f32 := (f21.other W27 (Or.inr (slot_ne (Or.inr (hw _ (List.mem_of_getElem? (i := 33) rfl))) (Or.inr (hw _ (List.mem_of_getElem? (i := 29) rfl))) (by decide) (t := .int) (t' := .int) (by decide) (by decide))))
  have f33 := (f22.other W27 (Or.inr (slot_ne (Or.inr (hw _ (List.mem_of_getElem? (i := 35) rfl))) (Or.inr (hw _ (List.mem_of_getElem? (i := 29) rfl))) (by decide) (t := .int) (t' := .int) (by decide) (by decide))))
  have f34 := (f23.other W27 (Or.inr (slot_ne (Or.inr (hw _ (List.mem_of_getElem? (i := 37) rfl))) (Or.inr (hw _ (List.mem_of_getElem? (i := 29) rfl))) (by decide) (t := (.object "java/math/BigDecimal")) (t' := .int) (by decide) (by decide))))
  have f35 := (f24.other W27 (Or.inr (slot_ne (Or.inr (hw _ (List.mem_of_getElem? (i := 39) rfl))) (Or.inr (hw _ (List.mem_of_getElem? (i := 29) rfl))) (by decide) (t := .int) (t' := .int) (by decide) (by decide))))
  have N27 := Fr.snoc X27 N16 g_a1
  have K27 := K16.wr W27 (Or.inl (List.mem_of_getElem? (i := 0) rfl))
  have O27 : Ext Z.heap h27 := own_ext_keep O16 (Keep.of_wr W27) (allS z_a1 all0)
  have Z27 : n0 ≤ h27.size := Nat.le_trans Z16 (Keep.of_wr W27).1
  have pre36 : ∀ t, Steps p.tables e below (T27.setTop (mkF m 20 #[.val (.ref a1), .val (.ref a2), .val (.long q1), .second, .val (.int p1), .val (.int p2), .val (.int p3), .val (.int p4), .val .null, .val (.int p5)] [])) t → Steps p.tables e below (s₁.setTop (entryFrame m #[(.ref a1), (.ref a2), (.long q1), (.int p1), (.int p2), (.int p3), (.int p4), .null, (.int p5)] 10)) t := fun t k => pre26 t (st27 t k)
  have pre37 : ∀ t, Steps p.tables e below (T27.setTop (mkF m 23 #[.val (.ref a1), .val (.ref a2), .val (.long q1), .second, .val (.int p1), .val (.int p2), .val (.int p3), .val (.int p4), .val .null, .val (.int p5)] [(.int p2), (.ref a1)])) t → Steps p.tables e below (s₁.setTop (entryFrame m #[(.ref a1), (.ref a2), (.long q1), (.int p1), (.int p2), (.int p3), (.int p4), .null, (.int p5)] 10)) t := fun t k => pre36 t (by
    show Steps p.tables e below (T27.setTop (mkF m 20 #[.val (.ref a1), .val (.ref a2), .val (.long q1), .second, .val (.int p1), .val (.int p2), .val (.int p3), .val (.int p4), .val .null, .val (.int p5)] [])) _
    refine XS.aloadN X27.here hx rfl (hb hby d3_20) rfl rfl ?_
    show Steps p.tables e below (T27.setTop (mkF m 21 #[.val (.ref a1), .val (.ref a2), .val (.long q1), .second, .val (.int p1), .val (.int p2), .val (.int p3), .val (.int p4), .val .null, .val (.int p5)] [(.ref a1)])) _
    refine XS.iload X27.here hx rfl (hb hby d3_21) rfl ?_
    exact k)
  obtain ⟨T38, h38, X38, e38, W38, st38⟩ := putF X27 hx hZ hown (host := "") (Or.inl (hw _ (List.mem_of_getElem? (i := 30) rfl))) Via.refl e27 f31 f28 (Or.inr ⟨(hw _ (List.mem_of_getElem? (i := 31) rfl)), rfl, hnm⟩) (hw _ (List.mem_of_getElem? (i := 11) rfl)) (ty := .int) (by decide) rfl rfl (g := (mkF m 23 #[.val (.ref a1), .val (.ref a2), .val (.long q1), .second, .val (.int p1), .val (.int p2), .val (.int p3), .val (.int p4), .val .null, .val (.int p5)] [(.int p2), (.ref a1)])) rfl rfl (hb hby d3_23)
  have Fw38 := f31.same W38
  have f39 := (f28.wr W38)
  have f40 := (f29.other W38 (Or.inr (slot_ne (Or.inr (hw _ (List.mem_of_getElem? (i := 25) rfl))) (Or.inr (hw _ (List.mem_of_getElem? (i := 31) rfl))) (by decide) (t := (.object "com/example/knit/knit/exslt/SchemaDateTime$Type")) (t' := .int) (by decide) (by decide))))
  have f41 := (f30.other W38 (Or.inr (slot_ne (Or.inr (hw _ (List.mem_of_getElem? (i := 27) rfl))) (Or.inr (hw _ (List.mem_of_getElem? (i := 31) rfl))) (by decide) (t := .long) (t' := .int) (by decide) (by decide))))
  have f42 := (Fw27.other W38 (Or.inr (slot_ne (Or.inr (hw _ (List.mem_of_getElem? (i := 29) rfl))) (Or.inr (hw _ (List.mem_of_getElem? (i := 31) rfl))) (by decide) (t := .int) (t' := .int) (by decide) (by decide))))
  have f43 := (f32.other W38 (Or.inr (slot_ne (Or.inr (hw _ (List.mem_of_getElem? (i := 33) rfl))) (Or.inr (hw _ (List.mem_of_getElem? (i := 31) rfl))) (by decide) (t := .int) (t' := .int) (by decide) (by decide))))
  have f44 := (f33.other W38 (Or.inr (slot_ne (Or.inr (hw _ (List.mem_of_getElem? (i := 35) rfl))) (Or.inr (hw _ (List.mem_of_getElem? (i := 31) rfl))) (by decide) (t := .int) (t' := .int) (by decide) (by decide))))
  have f45 := (f34.other W38 (Or.inr (slot_ne (Or.inr (hw _ (List.mem_of_getElem? (i := 37) rfl))) (Or.inr (hw _ (List.mem_of_getElem? (i := 31) rfl))) (by decide) (t := (.object "java/math/BigDecimal")) (t' := .int) (by decide) (by decide))))
  have f46 := (f35.other W38 (Or.inr (slot_ne (Or.inr (hw _ (List.mem_of_getElem? (i := 39) rfl))) (Or.inr (hw _ (List.mem_of_getElem? (i := 31) rfl))) (by decide) (t := .int) (t' := .int) (by decide) (by decide))))
  have N38 := Fr.snoc X38 N27 g_a1
  have K38 := K27.wr W38 (Or.inl (List.mem_of_getElem? (i := 0) rfl))
  have O38 : Ext Z.heap h38 := own_ext_keep O27 (Keep.of_wr W38) (allS z_a1 all0)
  have Z38 : n0 ≤ h38.size := Nat.le_trans Z27 (Keep.of_wr W38).1
  have pre47 : ∀ t, Steps p.tables e below (T38.setTop (mkF m 26 #[.val (.ref a1), .val (.ref a2), .val (.long q1), .second, .val (.int p1), .val (.int p2), .val (.int p3), .val (.int p4), .val .null, .val (.int p5)] [])) t → Steps p.tables e below (s₁.setTop (entryFrame m #[(.ref a1), (.ref a2), (.long q1), (.int p1), (.int p2), (.int p3), (.int p4), .null, (.int p5)] 10)) t := fun t k => pre37 t (st38 t k)
  have pre48 : ∀ t, Steps p.tables e below (T38.setTop (mkF m 29 #[.val (.ref a1), .val (.ref a2), .val (.long q1), .second, .val (.int p1), .val (.int p2), .val (.int p3), .val (.int p4), .val .null, .val (.int p5)] [(.int p3), (.ref a1)])) t → Steps p.tables e below (s₁.setTop (entryFrame m #[(.ref a1), (.ref a2), (.long q1), (.int p1), (.int p2), (.int p3), (.int p4), .null, (.int p5)] 10)) t := fun t k => pre47 t (by
    show Steps p.tables e below (T38.setTop (mkF m 26 #[.val (.ref a1), .val (.ref a2), .val (.long q1), .second, .val (.int p1), .val (.int p2), .val (.int p3), .val (.int p4), .val .null, .val (.int p5)] [])) _
    refine XS.aloadN X38.here hx rfl (hb hby d3_26) rfl rfl ?_
    show Steps p.tables e below (T38.setTop (mkF m 27 #[.val (.ref a1), .val (.ref a2), .val (.long q1), .second, .val (.int p1), .val (.int p2), .val (.int p3), .val (.int p4), .val .null, .val (.int p5)] [(.ref a1)])) _
    refine XS.iload X38.here hx rfl (hb hby d3_27) rfl ?_
    exact k)
  obtain ⟨T49, h49, X49, e49, W49, st49⟩ := putF X38 hx hZ hown (host := "") (Or.inl (hw _ (List.mem_of_getElem? (i := 32) rfl))) Via.refl e38 f43 f39 (Or.inr ⟨(hw _ (List.mem_of_getElem? (i := 33) rfl)), rfl, hnm⟩) (hw _ (List.mem_of_getElem? (i := 11) rfl)) (ty := .int) (by decide) rfl rfl (g := (mkF m 29 #[.val (.ref a1), .val (.ref a2), .val (.long q1), .second, .val (.int p1), .val (.int p2), .val (.int p3), .val (.int p4), .val .null, .val (.int p5)] [(.int p3), (.ref a1)])) rfl rfl (hb hby d3_29)
  have Fw49 := f43.same W49
  have f50 := (f39.wr W49)
  have f51 := (f40.other W49 (Or.inr (slot_ne (Or.inr (hw _ (List.mem_of_getElem? (i := 25) rfl))) (Or.inr (hw _ (List.mem_of_getElem? (i := 33) rfl))) (by decide) (t := (.object "com/example/knit/knit/exslt/SchemaDateTime$Type")) (t' := .int) (by decide) (by decide))))
  have f52 := (f41.other W49 (Or.inr (slot_ne (Or.inr (hw _ (List.mem_of_getElem? (i := 27) rfl))) (Or.inr (hw _ (List.mem_of_getElem? (i := 33) rfl))) (by decide) (t := .long) (t' := .int) (by decide) (by decide))))
  have f53 := (f42.other W49 (Or.inr (slot_ne (Or.inr (hw _ (List.mem_of_getElem? (i := 29) rfl))) (Or.inr (hw _ (List.mem_of_getElem? (i := 33) rfl))) (by decide) (t := .int) (t' := .int) (by decide) (by decide))))
  have f54 := (Fw38.other W49 (Or.inr (slot_ne (Or.inr (hw _ (List.mem_of_getElem? (i := 31) rfl))) (Or.inr (hw _ (List.mem_of_getElem? (i := 33) rfl))) (by decide) (t := .int) (t' := .int) (by decide) (by decide))))
  have f55 := (f44.other W49 (Or.inr (slot_ne (Or.inr (hw _ (List.mem_of_getElem? (i := 35) rfl))) (Or.inr (hw _ (List.mem_of_getElem? (i := 33) rfl))) (by decide) (t := .int) (t' := .int) (by decide) (by decide))))
  have f56 := (f45.other W49 (Or.inr (slot_ne (Or.inr (hw _ (List.mem_of_getElem? (i := 37) rfl))) (Or.inr (hw _ (List.mem_of_getElem? (i := 33) rfl))) (by decide) (t := (.object "java/math/BigDecimal")) (t' := .int) (by decide) (by decide))))
  have f57 := (f46.other W49 (Or.inr (slot_ne (Or.inr (hw _ (List.mem_of_getElem? (i := 39) rfl))) (Or.inr (hw _ (List.mem_of_getElem? (i := 33) rfl))) (by decide) (t := .int) (t' := .int) (by decide) (by decide))))
  have N49 := Fr.snoc X49 N38 g_a1
  have K49 := K38.wr W49 (Or.inl (List.mem_of_getElem? (i := 0) rfl))
  have O49 : Ext Z.heap h49 := own_ext_keep O38 (Keep.of_wr W49) (allS z_a1 all0)
  have Z49 : n0 ≤ h49.size := Nat.le_trans Z38 (Keep.of_wr W49).1
  have pre58 : ∀ t, Steps p.tables e below (T49.setTop (mkF m 32 #[.val (.ref a1), .val (.ref a2), .val (.long q1), .second, .val (.int p1), .val (.int p2), .val (.int p3), .val (.int p4), .val .null, .val (.int p5)] [])) t → Steps p.tables e below (s₁.setTop (entryFrame m #[(.ref a1), (.ref a2), (.long q1), (.int p1), (.int p2), (.int p3), (.int p4), .null, (.int p5)] 10)) t := fun t k => pre48 t (st49 t k)
  have pre59 : ∀ t, Steps p.tables e below (T49.setTop (mkF m 35 #[.val (.ref a1), .val (.ref a2), .val (.long q1), .second, .val (.int p1), .val (.int p2), .val (.int p3), .val (.int p4), .val .null, .val (.int p5)] [(.int p4), (.ref a1)])) t → Steps p.tables e below (s₁.setTop (entryFrame m #[(.ref a1), (.ref a2), (.long q1), (.int p1), (.int p2), (.int p3), (.int p4), .null, (.int p5)] 10)) t := fun t k => pre58 t (by
    show Steps p.tables e below (T49.setTop (mkF m 32 #[.val (.ref a1), .val (.ref a2), .val (.long q1), .second, .val (.int p1), .val (.int p2), .val (.int p3), .val (.int p4), .val .null, .val (.int p5)] [])) _
    refine XS.aloadN X49.here hx rfl (hb hby d3_32) rfl rfl ?_
    show Steps p.tables e below (T49.setTop (mkF m 33 #[.val (.ref a1), .val (.ref a2), .val (.long q1), .second, .val (.int p1), .val (.int p2), .val (.int p3), .val (.int p4), .val .null, .val (.int p5)] [(.ref a1)])) _
    refine XS.iload X49.here hx rfl (hb hby d3_33) rfl ?_
    exact k)
  obtain ⟨T60, h60, X60, e60, W60, st60⟩ := putF X49 hx hZ hown (host := "") (Or.inl (hw _ (List.mem_of_getElem? (i := 34) rfl))) Via.refl e49 f55 f50 (Or.inr ⟨(hw _ (List.mem_of_getElem? (i := 35) rfl)), rfl, hnm⟩) (hw _ (List.mem_of_getElem? (i := 11) rfl)) (ty := .int) (by decide) rfl rfl (g := (mkF m 35 #[.val (.ref a1), .val (.ref a2), .val (.long q1), .second, .val (.int p1), .val (.int p2), .val (.int p3), .val (.int p4), .val .null, .val (.int p5)] [(.int p4), (.ref a1)])) rfl rfl (hb hby d3_35)
  have Fw60 := f55.same W60
  have f61 := (f50.wr W60)
  have f62 := (f51.other W60 (Or.inr (slot_ne (Or.inr (hw _ (List.mem_of_getElem? (i := 25) rfl))) (Or.inr (hw _ (List.mem_of_getElem? (i := 35) rfl))) (by decide) (t := (.object "com/example/knit/knit/exslt/SchemaDateTime$Type")) (t' := .int) (by decide) (by decide))))
  have f63 := (f52.other W60 (Or.inr (slot_ne (Or.inr (hw _ (List.mem_of_getElem? (i := 27) rfl))) (Or.inr (hw _ (List.mem_of_getElem? (i := 35) rfl))) (by decide) (t := .long) (t' := .int) (by decide) (by decide))))
  have f64 := (f53.other W60 (Or.inr (slot_ne (Or.inr (hw _ (List.mem_of_getElem? (i := 29) rfl))) (Or.inr (hw _ (List.mem_of_getElem? (i := 35) rfl))) (by decide) (t := .int) (t' := .int) (by decide) (by decide))))
  have f65 := (f54.other W60 (Or.inr (slot_ne (Or.inr (hw _ (List.mem_of_getElem? (i := 31) rfl))) (Or.inr (hw _ (List.mem_of_getElem? (i := 35) rfl))) (by decide) (t := .int) (t' := .int) (by decide) (by decide))))
  have f66 := (Fw49.other W60 (Or.inr (slot_ne (Or.inr (hw _ (List.mem_of_getElem? (i := 33) rfl))) (Or.inr (hw _ (List.mem_of_getElem? (i := 35) rfl))) (by decide) (t := .int) (t' := .int) (by decide) (by decide))))
  have f67 := (f56.other W60 (Or.inr (slot_ne (Or.inr (hw _ (List.mem_of_getElem? (i := 37) rfl))) (Or.inr (hw _ (List.mem_of_getElem? (i := 35) rfl))) (by decide) (t := (.object "java/math/BigDecimal")) (t' := .int) (by decide) (by decide))))
  have f68 := (f57.other W60 (Or.inr (slot_ne (Or.inr (hw _ (List.mem_of_getElem? (i := 39) rfl))) (Or.inr (hw _ (List.mem_of_getElem? (i := 35) rfl))) (by decide) (t := .int) (t' := .int) (by decide) (by decide))))
  have N60 := Fr.snoc X60 N49 g_a1
  have K60 := K49.wr W60 (Or.inl (List.mem_of_getElem? (i := 0) rfl))
  have O60 : Ext Z.heap h60 := own_ext_keep O49 (Keep.of_wr W60) (allS z_a1 all0)
  have Z60 : n0 ≤ h60.size := Nat.le_trans Z49 (Keep.of_wr W60).1
  have pre69 : ∀ t, Steps p.tables e below (T60.setTop (mkF m 38 #[.val (.ref a1), .val (.ref a2), .val (.long q1), .second, .val (.int p1), .val (.int p2), .val (.int p3), .val (.int p4), .val .null, .val (.int p5)] [])) t → Steps p.tables e below (s₁.setTop (entryFrame m #[(.ref a1), (.ref a2), (.long q1), (.int p1), (.int p2), (.int p3), (.int p4), .null, (.int p5)] 10)) t := fun t k => pre59 t (st60 t k)
  have pre70 : ∀ t, Steps p.tables e below (T60.setTop (mkF m 41 #[.val (.ref a1), .val (.ref a2), .val (.long q1), .second, .val (.int p1), .val (.int p2), .val (.int p3), .val (.int p4), .val .null, .val (.int p5)] [.null, (.ref a1)])) t → Steps p.tables e below (s₁.setTop (entryFrame m #[(.ref a1), (.ref a2), (.long q1), (.int p1), (.int p2), (.int p3), (.int p4), .null, (.int p5)] 10)) t := fun t k => pre69 t (by
    show Steps p.tables e below (T60.setTop (mkF m 38 #[.val (.ref a1), .val (.ref a2), .val (.long q1), .second, .val (.int p1), .val (.int p2), .val (.int p3), .val (.int p4), .val .null, .val (.int p5)] [])) _
    refine XS.aloadN X60.here hx rfl (hb hby d3_38) rfl rfl ?_
    show Steps p.tables e below (T60.setTop (mkF m 39 #[.val (.ref a1), .val (.ref a2), .val (.long q1), .second, .val (.int p1), .val (.int p2), .val (.int p3), .val (.int p4), .val .null, .val (.int p5)] [(.ref a1)])) _
    refine XS.aload X60.here hx rfl (hb hby d3_39) rfl rfl ?_
    exact k)
  obtain ⟨T71, h71, X71, e71, W71, st71⟩ := putF X60 hx hZ hown (host := "") (Or.inl (hw _ (List.mem_of_getElem? (i := 36) rfl))) Via.refl e60 f67 f61 (Or.inr ⟨(hw _ (List.mem_of_getElem? (i := 37) rfl)), rfl, hnm⟩) (hw _ (List.mem_of_getElem? (i := 11) rfl)) (ty := (.object "java/math/BigDecimal")) (by decide) rfl rfl (g := (mkF m 41 #[.val (.ref a1), .val (.ref a2), .val (.long q1), .second, .val (.int p1), .val (.int p2), .val (.int p3), .val (.int p4), .val .null, .val (.int p5)] [.null, (.ref a1)])) rfl rfl (hb hby d3_41)
  have Fw71 := f67.same W71
  have f72 := (f61.wr W71)
  have f73 := (f62.other W71 (Or.inr (slot_ne (Or.inr (hw _ (List.mem_of_getElem? (i := 25) rfl))) (Or.inr (hw _ (List.mem_of_getElem? (i := 37) rfl))) (by decide) (t := (.object "com/example/knit/knit/exslt/SchemaDateTime$Type")) (t' := (.object "java/math/BigDecimal")) (by decide) (by decide))))
  have f74 := (f63.other W71 (Or.inr (slot_ne (Or.inr (hw _ (List.mem_of_getElem? (i := 27) rfl))) (Or.inr (hw _ (List.mem_of_getElem? (i := 37) rfl))) (by decide) (t := .long) (t' := (.object "java/math/BigDecimal")) (by decide) (by decide))))
  have f75 := (f64.other W71 (Or.inr (slot_ne (Or.inr (hw _ (List.mem_of_getElem? (i := 29) rfl))) (Or.inr (hw _ (List.mem_of_getElem? (i := 37) rfl))) (by decide) (t := .int) (t' := (.object "java/math/BigDecimal")) (by decide) (by decide))))
  have f76 := (f65.other W71 (Or.inr (slot_ne (Or.inr (hw _ (List.mem_of_getElem? (i := 31) rfl))) (Or.inr (hw _ (List.mem_of_getElem? (i := 37) rfl))) (by decide) (t := .int) (t' := (.object "java/math/BigDecimal")) (by decide) (by decide))))
  have f77 := (f66.other W71 (Or.inr (slot_ne (Or.inr (hw _ (List.mem_of_getElem? (i := 33) rfl))) (Or.inr (hw _ (List.mem_of_getElem? (i := 37) rfl))) (by decide) (t := .int) (t' := (.object "java/math/BigDecimal")) (by decide) (by decide))))
  have f78 := (Fw60.other W71 (Or.inr (slot_ne (Or.inr (hw _ (List.mem_of_getElem? (i := 35) rfl))) (Or.inr (hw _ (List.mem_of_getElem? (i := 37) rfl))) (by decide) (t := .int) (t' := (.object "java/math/BigDecimal")) (by decide) (by decide))))
  have f79 := (f68.other W71 (Or.inr (slot_ne (Or.inr (hw _ (List.mem_of_getElem? (i := 39) rfl))) (Or.inr (hw _ (List.mem_of_getElem? (i := 37) rfl))) (by decide) (t := .int) (t' := (.object "java/math/BigDecimal")) (by decide) (by decide))))
  have N71 := Fr.snoc X71 N60 g_a1
  have K71 := K60.wr W71 (Or.inl (List.mem_of_getElem? (i := 0) rfl))
  have O71 : Ext Z.heap h71 := own_ext_keep O60 (Keep.of_wr W71) (allS z_a1 all0)
  have Z71 : n0 ≤ h71.size := Nat.le_trans Z60 (Keep.of_wr W71).1
  have pre80 : ∀ t, Steps p.tables e below (T71.setTop (mkF m 44 #[.val (.ref a1), .val (.ref a2), .val (.long q1), .second, .val (.int p1), .val (.int p2), .val (.int p3), .val (.int p4), .val .null, .val (.int p5)] [])) t → Steps p.tables e below (s₁.setTop (entryFrame m #[(.ref a1), (.ref a2), (.long q1), (.int p1), (.int p2), (.int p3), (.int p4), .null, (.int p5)] 10)) t := fun t k => pre70 t (st71 t k)
  have pre81 : ∀ t, Steps p.tables e below (T71.setTop (mkF m 47 #[.val (.ref a1), .val (.ref a2), .val (.long q1), .second, .val (.int p1), .val (.int p2), .val (.int p3), .val (.int p4), .val .null, .val (.int p5)] [(.int p5), (.ref a1)])) t → Steps p.tables e below (s₁.setTop (entryFrame m #[(.ref a1), (.ref a2), (.long q1), (.int p1), (.int p2), (.int p3), (.int p4), .null, (.int p5)] 10)) t := fun t k => pre80 t (by
    show Steps p.tables e below (T71.setTop (mkF m 44 #[.val (.ref a1), .val (.ref a2), .val (.long q1), .second, .val (.int p1), .val (.int p2), .val (.int p3), .val (.int p4), .val .null, .val (.int p5)] [])) _
    refine XS.aloadN X71.here hx rfl (hb hby d3_44) rfl rfl ?_
    show Steps p.tables e below (T71.setTop (mkF m 45 #[.val (.ref a1), .val (.ref a2), .val (.long q1), .second, .val (.int p1), .val (.int p2), .val (.int p3), .val (.int p4), .val .null, .val (.int p5)] [(.ref a1)])) _
    refine XS.iload X71.here hx rfl (hb hby d3_45) rfl ?_
    exact k)
  obtain ⟨T82, h82, X82, e82, W82, st82⟩ := putF X71 hx hZ hown (host := "") (Or.inl (hw _ (List.mem_of_getElem? (i := 38) rfl))) Via.refl e71 f79 f72 (Or.inr ⟨(hw _ (List.mem_of_getElem? (i := 39) rfl)), rfl, hnm⟩) (hw _ (List.mem_of_getElem? (i := 11) rfl)) (ty := .int) (by decide) rfl rfl (g := (mkF m 47 #[.val (.ref a1), .val (.ref a2), .val (.long q1), .second, .val (.int p1), .val (.int p2), .val (.int p3), .val (.int p4), .val .null, .val (.int p5)] [(.int p5), (.ref a1)])) rfl rfl (hb hby d3_47)
  have Fw82 := f79.same W82
  have f83 := (f72.wr W82)
  have f84 := (f73.other W82 (Or.inr (slot_ne (Or.inr (hw _ (List.mem_of_getElem? (i := 25) rfl))) (Or.inr (hw _ (List.mem_of_getElem? (i := 39) rfl))) (by decide) (t := (.object "com/example/knit/knit/exslt/SchemaDateTime$Type")) (t' := .int) (by decide) (by decide))))
  have f85 := (f74.other W82 (Or.inr (slot_ne (Or.inr (hw _ (List.mem_of_getElem? (i := 27) rfl))) (Or.inr (hw _ (List.mem_of_getElem? (i := 39) rfl))) (by decide) (t := .long) (t' := .int) (by decide) (by decide))))
  have f86 := (f75.other W82 (Or.inr (slot_ne (Or.inr (hw _ (List.mem_of_getElem? (i := 29) rfl))) (Or.inr (hw _ (List.mem_of_getElem? (i := 39) rfl))) (by decide) (t := .int) (t' := .int) (by decide) (by decide))))
  have f87 := (f76.other W82 (Or.inr (slot_ne (Or.inr (hw _ (List.mem_of_getElem? (i := 31) rfl))) (Or.inr (hw _ (List.mem_of_getElem? (i := 39) rfl))) (by decide) (t := .int) (t' := .int) (by decide) (by decide))))
  have f88 := (f77.other W82 (Or.inr (slot_ne (Or.inr (hw _ (List.mem_of_getElem? (i := 33) rfl))) (Or.inr (hw _ (List.mem_of_getElem? (i := 39) rfl))) (by decide) (t := .int) (t' := .int) (by decide) (by decide))))
  have f89 := (f78.other W82 (Or.inr (slot_ne (Or.inr (hw _ (List.mem_of_getElem? (i := 35) rfl))) (Or.inr (hw _ (List.mem_of_getElem? (i := 39) rfl))) (by decide) (t := .int) (t' := .int) (by decide) (by decide))))
  have f90 := (Fw71.other W82 (Or.inr (slot_ne (Or.inr (hw _ (List.mem_of_getElem? (i := 37) rfl))) (Or.inr (hw _ (List.mem_of_getElem? (i := 39) rfl))) (by decide) (t := (.object "java/math/BigDecimal")) (t' := .int) (by decide) (by decide))))
  have N82 := Fr.snoc X82 N71 g_a1
  have K82 := K71.wr W82 (Or.inl (List.mem_of_getElem? (i := 0) rfl))
  have O82 : Ext Z.heap h82 := own_ext_keep O71 (Keep.of_wr W82) (allS z_a1 all0)
  have Z82 : n0 ≤ h82.size := Nat.le_trans Z71 (Keep.of_wr W82).1
  have pre91 : ∀ t, Steps p.tables e below (T82.setTop (mkF m 50 #[.val (.ref a1), .val (.ref a2), .val (.long q1), .second, .val (.int p1), .val (.int p2), .val (.int p3), .val (.int p4), .val .null, .val (.int p5)] [])) t → Steps p.tables e below (s₁.setTop (entryFrame m #[(.ref a1), (.ref a2), (.long q1), (.int p1), (.int p2), (.int p3), (.int p4), .null, (.int p5)] 10)) t := fun t k => pre81 t (st82 t k)
  obtain ⟨fs, hr, hrun, hended, hW, hsame⟩ := X82.leave (v := none) (fun _ => rfl)
  refine ⟨_, _, pre91 _ ?_, hrun, hended, _, _, rfl, ?_, ⟨_, rfl⟩, hW, hsame.mono (by decide) (by decide)⟩
  · exact X82.returnOut hx Bd.returns (hb hby d3_50) hr
  · show Q_rm_sd Z a1 a2 q1 p1 p2 p3 p4 p5 h0 n0 _ T82.heap _
    rw [e82]
    exact ⟨rfl, N82, K82, f83, f84⟩
theorem ef_7 (m : MethodId) (x0 : Addr) : entryFrame m #[(.ref x0)] 1 = mkF m 0 #[.val (.ref x0)] [] := by first | (simp [entryFrame, mkF, argsToLocals, Value.category]; done) | rfl
theorem d7_0 : decode prog_12_method_6_code 0 = .ok (.aload_n 0, 1) := by decide +kernel
theorem d7_1 : decode prog_12_method_6_code 1 = .ok (.getfield 9, 3) := by decide +kernel
theorem d7_4 : decode prog_12_method_6_code 4 = .ok (.getfield 94, 3) := by decide +kernel
theorem d7_7 : decode prog_12_method_6_code 7 = .ok (.ireturn, 1) := by decide +kernel
def Q_rm_hy (Z : State) (a1 : Addr) (t1 : Addr) (h0 : Heap) (n0 : Nat) (v : Option Value) (h : Heap) (L : List Loc) : Prop := v = some (.int (1 : Int32)) ∧ Fr n0 L ∧ h = h0
set_option maxRecDepth 65536 in
set_option maxHeartbeats 40000000 in
theorem rm_hy (l : Launch) (Z : State) (a0 : Array Value) (hw : ∀ d ∈ tables_1, d.before a0 Z = true) (ws : List Jvm.Cond) (a1 : Addr) (t1 : Addr) (h0 : Heap) (n0 : Nat) (Z0 : n0 ≤ h0.size) (O0 : Ext Z.heap h0) (Ft : Fld Z h0 a1 "com/example/knit/knit/exslt/SchemaDateTime" "type" "Lcom/example/knit/knit/exslt/SchemaDateTime$Type;" (.ref t1)) (Fy : Fld Z h0 t1 "com/example/knit/knit/exslt/SchemaDateTime$Type" "hasYear" "Z" (.int (1 : Int32))) :
    MetFree l (⟨"com/example/knit/knit/exslt/SchemaDateTime", "hasYear", "()Z"⟩ : MethodName) (head1 (Jvm.Cond.code (⟨"com/example/knit/knit/exslt/SchemaDateTime", "hasYear", "()Z"⟩ : MethodName) prog_12_method_6_code 1 (some .boolean) :: ws) ({ frames := 0, cells := 0, slots := 0, locals := 0 } : Room)) (fun a U => a = #[(.ref a1)] ∧ Z.Warmed39 U.vm ∧ U.heap = h0) (fun _ _ _ _ _ => True) (fun _ U o U' => ∃ v L, o = .returned v ∧ Q_rm_hy Z a1 t1 h0 n0 v U'.heap L ∧ FrameEnd U o U' L ({ frames := 0, cells := 0, slots := 0, locals := 0 } : Room).cells ({ frames := 0, cells := 0, slots := 0, locals := 0 } : Room).slots) := by
  refine MetFree.of_bodySF (plainFor_of_name pn_com_example_knit_knit_exslt_SchemaDateTime) hisR ?_
  intro p e s m args below meth c s₁ Bd hml0 hP hK
  obtain ⟨rfl, hZ, hh⟩ := hP
  have hx := Bd.exec
  have hby := Bd.bytes
  have hml : c.maxLocals = 1 := hml0
  have hown : s.vm.findClass "com/example/knit/knit/exslt/SchemaDateTime" = some m.cls := findClass_of_methodNamed Bd.named
  have hnm := (name_of_methodNamed Bd.named Bd.method).1
  have X0 : Stand p l e ({ frames := 0, cells := 0, slots := 0, locals := 0 } : Room) s m #[(.ref a1)] below meth c s₁ [] 0 0 := Stand.of_body Bd
  have e0 : s₁.heap = h0 := by rw [← hh, Bd.state]; rfl
  have N0 := Fr.nil n0
  have pre0 : ∀ t, Steps p.tables e below (s₁.setTop (mkF m 0 #[.val (.ref a1)] [])) t → Steps p.tables e below (s₁.setTop (entryFrame m #[(.ref a1)] 1)) t := fun t k => castTop (ef_7 m a1) k
  have pre1 : ∀ t, Steps p.tables e below (s₁.setTop (mkF m 1 #[.val (.ref a1)] [(.ref a1)])) t → Steps p.tables e below (s₁.setTop (entryFrame m #[(.ref a1)] 1)) t := fun t k => pre0 t (by
    show Steps p.tables e below (s₁.setTop (mkF m 0 #[.val (.ref a1)] [])) _
    refine XS.aloadN X0.here hx rfl (hb hby d7_0) rfl rfl ?_
    exact k)
  obtain ⟨T2, X2, e2, st2⟩ := getF X0 hx hZ hown (host := "") (Or.inl (hw _ (List.mem_of_getElem? (i := 24) rfl))) Via.refl e0 Ft (g := (mkF m 1 #[.val (.ref a1)] [(.ref a1)])) rfl rfl (hb hby d7_1)
  have pre3 : ∀ t, Steps p.tables e below (T2.setTop (mkF m 4 #[.val (.ref a1)] [(.ref t1)])) t → Steps p.tables e below (s₁.setTop (entryFrame m #[(.ref a1)] 1)) t := fun t k => pre1 t (st2 t k)
  have pre4 : ∀ t, Steps p.tables e below (T2.setTop (mkF m 7 #[.val (.ref a1)] [(.int (1 : Int32))])) t → Steps p.tables e below (s₁.setTop (entryFrame m #[(.ref a1)] 1)) t := fun t k => pre3 t (by
    show Steps p.tables e below (T2.setTop (mkF m 4 #[.val (.ref a1)] [(.ref t1)])) _
    refine own_getRef X2 hx hZ hown (hw _ (List.mem_of_getElem? (i := 56) rfl)) e2 Fy (g := (mkF m 4 #[.val (.ref a1)] [(.ref t1)])) rfl rfl (hb hby d7_4) _ ?_
    exact k)
  obtain ⟨fs, hr, hrun, hended, hW, hsame⟩ := X2.leave (v := some (.int (1 : Int32))) (fun h => by rw [Bd.returns] at h; cases h)
  refine ⟨_, _, pre4 _ ?_, hrun, hended, _, _, rfl, ?_, ⟨_, rfl⟩, hW, hsame.mono (by decide) (by decide)⟩
  · exact retN X2 hx (t := .boolean) Bd.returns (by simp) (hb hby d7_7) hr
  · show Q_rm_hy Z a1 t1 h0 n0 _ T2.heap _
    rw [e2]
    exact ⟨rfl, N0, rfl⟩
theorem ef_0 (m : MethodId) (x0 : Int32) (x1 : Int32) : entryFrame m #[(.int x0), (.int x1)] maxLocals = mkF m 0 #[.val (.int x0), .val (.int x1), .unset, .unset, .unset, .unset] [] := by first | (simp [entryFrame, mkF, argsToLocals, Value.category, maxLocals]; done) | rfl
theorem pn_com_example_knit_knit_exslt_TypeOfPrecisionPinLaw : plainName "com/example/knit/knit/exslt/TypeOfPrecisionPinLaw" = true := by first | (simp [plainName, overriddenIn]; done) | decide +kernel
theorem pd_1 : parseMethodDescriptor "(I)Lcom/example/knit/knit/exslt/SchemaDateTime$Type;" = some ⟨[.int], some (.object "com/example/knit/knit/exslt/SchemaDateTime$Type")⟩ := by decide +kernel
theorem pd_2 : parseMethodDescriptor "(II)I" = some ⟨[.int, .int], some .int⟩ := by decide +kernel
theorem pd_3 : parseMethodDescriptor "(Lcom/example/knit/knit/exslt/SchemaDateTime$Type;JIIIILjava/math/BigDecimal;I)V" = some ⟨[(.object "com/example/knit/knit/exslt/SchemaDateTime$Type"), .long, .int, .int, .int, .int, (.object "java/math/BigDecimal"), .int], none⟩ := by decide +kernel
theorem pd_4 : parseMethodDescriptor "()I" = some ⟨[], some .int⟩ := by decide +kernel
theorem pd_5 : parseMethodDescriptor "()Z" = some ⟨[], some .boolean⟩ := by decide +kernel
def Q_rm_law (Z : State) (p1 : Int32) (p2 : Int32) (w_G_YEAR w_DATE w_DATE_TIME w_G_YEAR_MONTH : Addr) (h0 : Heap) (n0 : Nat) (v : Option Value) (h : Heap) (L : List Loc) : Prop := v = some (.int (1 : Int32)) ∧ Fr n0 L
set_option maxRecDepth 65536 in
set_option maxHeartbeats 40000000 in
theorem rm_law (l : Launch) (Z : State) (a0 : Array Value) (hw : ∀ d ∈ tables_1, d.before a0 Z = true) (ws : List Jvm.Cond) (p1 : Int32) (p2 : Int32) (w_G_YEAR w_DATE w_DATE_TIME w_G_YEAR_MONTH : Addr) (h0 : Heap) (n0 : Nat) (Z0 : n0 ≤ h0.size) (O0 : Ext Z.heap h0) (P : Pins Z w_G_YEAR w_DATE w_DATE_TIME w_G_YEAR_MONTH) :
    MetFree l x (head1 (Jvm.Cond.code x code maxLocals ret :: ws) room_1) (fun a U => a = #[(.int p1), (.int p2)] ∧ Z.Warmed39 U.vm ∧ U.heap = h0) (fun _ _ _ _ _ => True) (fun _ U o U' => ∃ v L, o = .returned v ∧ Q_rm_law Z p1 p2 w_G_YEAR w_DATE w_DATE_TIME w_G_YEAR_MONTH h0 n0 v U'.heap L ∧ FrameEnd U o U' L room_1.cells room_1.slots) := by
  refine MetFree.of_bodySF (plainFor_of_name pn_com_example_knit_knit_exslt_TypeOfPrecisionPinLaw) hisR ?_
  intro p e s m args below meth c s₁ Bd hml0 hP hK
  obtain ⟨rfl, hZ, hh⟩ := hP
  have hx := Bd.exec
  have hby := Bd.bytes
  have hml : c.maxLocals = 6 := hml0
  have hown : s.vm.findClass "com/example/knit/knit/exslt/TypeOfPrecisionPinLaw" = some m.cls := findClass_of_methodNamed Bd.named
  have hnm := (name_of_methodNamed Bd.named Bd.method).1
  have X0 : Stand p l e room_1 s m #[(.int p1), (.int p2)] below meth c s₁ [] 0 0 := Stand.of_body Bd
  have e0 : s₁.heap = h0 := by rw [← hh, Bd.state]; rfl
  have N0 := Fr.nil n0
  have pre0 : ∀ t, Steps p.tables e below (s₁.setTop (mkF m 0 #[.val (.int p1), .val (.int p2), .unset, .unset, .unset, .unset] [])) t → Steps p.tables e below (s₁.setTop (entryFrame m #[(.int p1), (.int p2)] maxLocals)) t := fun t k => castTop (ef_0 m p1 p2) k
  have P' := P
  obtain ⟨S_G_YEAR, S_DATE, S_DATE_TIME, S_G_YEAR_MONTH, E_G_YEAR, E_DATE, E_DATE_TIME, E_G_YEAR_MONTH, F_hasMonth_G_YEAR, F_hasDay_G_YEAR, F_hasTime_G_YEAR, F_hasYear_G_YEAR, F_hasMonth_DATE, F_hasDay_DATE, F_hasTime_DATE, F_hasYear_DATE, F_hasMonth_DATE_TIME, F_hasDay_DATE_TIME, F_hasTime_DATE_TIME, F_hasYear_DATE_TIME, F_hasMonth_G_YEAR_MONTH, F_hasDay_G_YEAR_MONTH, F_hasTime_G_YEAR_MONTH, F_hasYear_G_YEAR_MONTH⟩ := P
  have pre1 : ∀ t, Steps p.tables e below (s₁.setTop (mkF m 3 #[.val (.int p1), .val (.int p2), .unset, .unset, .unset, .unset] [(.int (p2 &&& (1 : Int32)))])) t → Steps p.tables e below (s₁.setTop (entryFrame m #[(.int p1), (.int p2)] maxLocals)) t := fun t k => pre0 t (by
    show Steps p.tables e below (s₁.setTop (mkF m 0 #[.val (.int p1), .val (.int p2), .unset, .unset, .unset, .unset] [])) _
    refine XS.iloadN X0.here hx rfl (hb hby at_0) rfl ?_
    show Steps p.tables e below (s₁.setTop (mkF m 1 #[.val (.int p1), .val (.int p2), .unset, .unset, .unset, .unset] [(.int p2)])) _
    refine XS.iconst X0.here hx rfl (hb hby at_1) ?_
    show Steps p.tables e below (s₁.setTop (mkF m 2 #[.val (.int p1), .val (.int p2), .unset, .unset, .unset, .unset] [(.int (1 : Int32)), (.int p2)])) _
    refine XS.iand X0.here hx rfl (hb hby at_2) rfl ?_
    exact k)
  obtain ⟨z3, hz3⟩ : ∃ z : Int32, z = if (p2 &&& (1 : Int32)) = (0 : Int32) then (p1 &&& (2147483647 : Int32)) else (p1 &&& (3 : Int32)) := ⟨_, rfl⟩
  have pre4 : ∀ t, Steps p.tables e below (s₁.setTop (mkF m 16 #[.val (.int p1), .val (.int p2), .unset, .unset, .unset, .unset] [(.int z3)])) t → Steps p.tables e below (s₁.setTop (entryFrame m #[(.int p1), (.int p2)] maxLocals)) t := fun t k => pre1 t (by
    by_cases hj3_2 : (p2 &&& (1 : Int32)) = (0 : Int32)
    · rw [if_pos hj3_2] at hz3
      rw [hz3] at k
      show Steps p.tables e below (s₁.setTop (mkF m 3 #[.val (.int p1), .val (.int p2), .unset, .unset, .unset, .unset] [(.int (p2 &&& (1 : Int32)))])) _
      refine XS.ifYes X0.here hx rfl (pc0 := 3) (pc' := 12) rfl (hb hby at_3) rfl ((if0 _ _).trans (teq hj3_2).1) (by decide) (by decide) ?_
      show Steps p.tables e below (s₁.setTop (mkF m 12 #[.val (.int p1), .val (.int p2), .unset, .unset, .unset, .unset] [])) _
      refine XS.iloadN X0.here hx rfl (hb hby at_12) rfl ?_
      show Steps p.tables e below (s₁.setTop (mkF m 13 #[.val (.int p1), .val (.int p2), .unset, .unset, .unset, .unset] [(.int p1)])) _
      refine X0.ldcInt hx hown (mvT hZ (hw _ (List.mem_of_getElem? (i := 60) rfl))) (g := (mkF m 13 #[.val (.int p1), .val (.int p2), .unset, .unset, .unset, .unset] [(.int p1)])) rfl (hb hby at_13) _ ?_
      show Steps p.tables e below (s₁.setTop (mkF m 15 #[.val (.int p1), .val (.int p2), .unset, .unset, .unset, .unset] [(.int (2147483647 : Int32)), (.int p1)])) _
      refine XS.iand X0.here hx rfl (hb hby at_15) rfl ?_
      exact k
    · rw [if_neg hj3_2] at hz3
      rw [hz3] at k
      show Steps p.tables e below (s₁.setTop (mkF m 3 #[.val (.int p1), .val (.int p2), .unset, .unset, .unset, .unset] [(.int (p2 &&& (1 : Int32)))])) _
      refine XS.ifNo X0.here hx rfl (hb hby at_3) rfl ((if0 _ _).trans (feq hj3_2).1) ?_
      show Steps p.tables e below (s₁.setTop (mkF m 6 #[.val (.int p1), .val (.int p2), .unset, .unset, .unset, .unset] [])) _
      refine XS.iloadN X0.here hx rfl (hb hby at_6) rfl ?_
      show Steps p.tables e below (s₁.setTop (mkF m 7 #[.val (.int p1), .val (.int p2), .unset, .unset, .unset, .unset] [(.int p1)])) _
      refine XS.iconst X0.here hx rfl (hb hby at_7) ?_
      show Steps p.tables e below (s₁.setTop (mkF m 8 #[.val (.int p1), .val (.int p2), .unset, .unset, .unset, .unset] [(.int (3 : Int32)), (.int p1)])) _
      refine XS.iand X0.here hx rfl (hb hby at_8) rfl ?_
      show Steps p.tables e below (s₁.setTop (mkF m 9 #[.val (.int p1), .val (.int p2), .unset, .unset, .unset, .unset] [(.int (p1 &&& (3 : Int32)))])) _
      refine XS.goto X0.here hx rfl (pc0 := 9) (pc' := 16) rfl (hb hby at_9) (by decide) (by decide) ?_
      exact k)
  have hnn : 0 ≤ z3.toInt := by rw [hz3]; split; exact own_nn _; exact own_n3 _
  have pre5 : ∀ t, Steps p.tables e below (s₁.setTop (mkF m 18 #[.val (.int p1), .val (.int p2), .val (.int z3), .unset, .unset, .unset] [(.int z3)])) t → Steps p.tables e below (s₁.setTop (entryFrame m #[(.int p1), (.int p2)] maxLocals)) t := fun t k => pre4 t (by
    show Steps p.tables e below (s₁.setTop (mkF m 16 #[.val (.int p1), .val (.int p2), .unset, .unset, .unset, .unset] [(.int z3)])) _
    refine XS.istoreN X0.here hx rfl (hb hby at_16) rfl (l' := #[.val (.int p1), .val (.int p2), .val (.int z3), .unset, .unset, .unset]) rfl ?_
    show Steps p.tables e below (s₁.setTop (mkF m 17 #[.val (.int p1), .val (.int p2), .val (.int z3), .unset, .unset, .unset] [])) _
    refine XS.iloadN X0.here hx rfl (hb hby at_17) rfl ?_
    exact k)
  by_cases hk0 : z3 = (0 : Int32)
  · obtain ⟨_, _, ⟨T6, L6, k6, n6⟩, -, X6, ⟨Lc6, hQ6, l6, y6, z6⟩, st6⟩ := Jvm.LawKit.callS X0 hx (y := (⟨"com/example/knit/knit/exslt/SchemaDateTime$Type", "ofPrecision", "(I)Lcom/example/knit/knit/exslt/SchemaDateTime$Type;"⟩ : MethodName)) hown (mvT hZ (hw _ (List.mem_of_getElem? (i := 0) rfl))) (mvT hZ (hw _ (List.mem_of_getElem? (i := 1) rfl))) (mvT hZ (hw _ (List.mem_of_getElem? (i := 2) rfl))) (mvT hZ (hw _ (List.mem_of_getElem? (i := 3) rfl))) (by decide) (backOf (W := 0) (rm_ofp l Z a0 hw [] z3 w_G_YEAR w_DATE w_DATE_TIME w_G_YEAR_MONTH h0 n0 Z0 O0 P') hZ (hw _ (List.mem_of_getElem? (i := 3) rfl)) (hw _ (List.mem_of_getElem? (i := 2) rfl)) (by decide) (by decide)) (g := (mkF m 18 #[.val (.int p1), .val (.int p2), .val (.int z3), .unset, .unset, .unset] [(.int z3)])) rfl (by rw [hml]; rfl) (argsL := [(.int z3)]) (rest := []) (lenOf pd_1 rfl) rfl (by show 2 * 0 + _ ≤ _; exact Nat.le_of_eq rfl) (hb hby at_18) (fun _ _ => ⟨rfl, e0, (by decide : 0 + 0 ≤ _), (by decide : 0 + 0 ≤ _)⟩)
    dsimp only [Pt.U, Pt.locs, Pt.cells, Pt.slots] at X6 l6 y6 z6 st6 hQ6
    subst l6 y6 z6
    obtain ⟨hv6, N6q, e6⟩ := hQ6
    rw [(show (if z3 = (0 : Int32) then w_G_YEAR else if z3 = (1 : Int32) then w_G_YEAR_MONTH else if z3 = (2 : Int32) then w_DATE else w_DATE_TIME) = w_G_YEAR from by rw [if_pos hk0])] at hv6
    subst hv6
    have N6 := Fr.app N0 N6q
    have pre7 : ∀ t, Steps p.tables e below (T6.setTop (mkF m 21 #[.val (.int p1), .val (.int p2), .val (.int z3), .unset, .unset, .unset] [(.ref w_G_YEAR)])) t → Steps p.tables e below (s₁.setTop (entryFrame m #[(.int p1), (.int p2)] maxLocals)) t := fun t k => pre5 t (st6 t k)
    have pre8 : ∀ t, Steps p.tables e below (T6.setTop (mkF m 30 #[.val (.int p1), .val (.int p2), .val (.int z3), .val (.ref w_G_YEAR), .unset, .unset] [(.int (3 : Int32)), (.int z3)])) t → Steps p.tables e below (s₁.setTop (entryFrame m #[(.int p1), (.int p2)] maxLocals)) t := fun t k => pre7 t (by
      show Steps p.tables e below (T6.setTop (mkF m 21 #[.val (.int p1), .val (.int p2), .val (.int z3), .unset, .unset, .unset] [(.ref w_G_YEAR)])) _
      refine XS.astoreN X6.here hx rfl (hb hby at_21) rfl rfl (l' := #[.val (.int p1), .val (.int p2), .val (.int z3), .val (.ref w_G_YEAR), .unset, .unset]) rfl ?_
      show Steps p.tables e below (T6.setTop (mkF m 22 #[.val (.int p1), .val (.int p2), .val (.int z3), .val (.ref w_G_YEAR), .unset, .unset] [])) _
      refine XS.aloadN X6.here hx rfl (hb hby at_22) rfl rfl ?_
      show Steps p.tables e below (T6.setTop (mkF m 23 #[.val (.int p1), .val (.int p2), .val (.int z3), .val (.ref w_G_YEAR), .unset, .unset] [(.ref w_G_YEAR)])) _
      refine XS.ifnonnullYes X6.here hx rfl (pc0 := 23) (pc' := 28) rfl (hb hby at_23) rfl (by decide) (by decide) ?_
      show Steps p.tables e below (T6.setTop (mkF m 28 #[.val (.int p1), .val (.int p2), .val (.int z3), .val (.ref w_G_YEAR), .unset, .unset] [])) _
      refine XS.iloadN X6.here hx rfl (hb hby at_28) rfl ?_
      show Steps p.tables e below (T6.setTop (mkF m 29 #[.val (.int p1), .val (.int p2), .val (.int z3), .val (.ref w_G_YEAR), .unset, .unset] [(.int z3)])) _
      refine XS.iconst X6.here hx rfl (hb hby at_29) ?_
      exact k)
    obtain ⟨_, _, ⟨T9, L9, k9, n9⟩, -, X9, ⟨Lc9, hQ9, l9, y9, z9⟩, st9⟩ := Jvm.LawKit.callS X6 hx (y := (⟨"java/lang/Math", "min", "(II)I"⟩ : MethodName)) hown (mvT hZ (hw _ (List.mem_of_getElem? (i := 6) rfl))) (mvT hZ (hw _ (List.mem_of_getElem? (i := 7) rfl))) (mvT hZ (hw _ (List.mem_of_getElem? (i := 8) rfl))) (mvT hZ (hw _ (List.mem_of_getElem? (i := 9) rfl))) (by decide) (backOf (W := 0) (rm_min l Z a0 hw [] z3 (3 : Int32) h0 n0 Z0 O0) hZ (hw _ (List.mem_of_getElem? (i := 9) rfl)) (hw _ (List.mem_of_getElem? (i := 8) rfl)) (by decide) (by decide)) (g := (mkF m 30 #[.val (.int p1), .val (.int p2), .val (.int z3), .val (.ref w_G_YEAR), .unset, .unset] [(.int (3 : Int32)), (.int z3)])) rfl (by rw [hml]; rfl) (argsL := [(.int z3), (.int (3 : Int32))]) (rest := []) (lenOf pd_2 rfl) rfl (by show 2 * 0 + _ ≤ _; exact Nat.le_of_eq rfl) (hb hby at_30) (fun _ _ => ⟨rfl, e6, (by decide : 0 + 0 ≤ _), (by decide : 0 + 0 ≤ _)⟩)
    dsimp only [Pt.U, Pt.locs, Pt.cells, Pt.slots] at X9 l9 y9 z9 st9 hQ9
    subst l9 y9 z9
    obtain ⟨hv9, N9q, e9⟩ := hQ9
    rw [(show (minF z3 (3 : Int32)) = (0 : Int32) from by rw [hk0]; decide)] at hv9
    subst hv9
    have N9 := Fr.app N6 N9q
    have pre10 : ∀ t, Steps p.tables e below (T9.setTop (mkF m 33 #[.val (.int p1), .val (.int p2), .val (.int z3), .val (.ref w_G_YEAR), .unset, .unset] [(.int (0 : Int32))])) t → Steps p.tables e below (s₁.setTop (entryFrame m #[(.int p1), (.int p2)] maxLocals)) t := fun t k => pre8 t (st9 t k)
    have pre11 : ∀ t, Steps p.tables e below (T9.setTop (mkF m 35 #[.val (.int p1), .val (.int p2), .val (.int z3), .val (.ref w_G_YEAR), .val (.int (0 : Int32)), .unset] [])) t → Steps p.tables e below (s₁.setTop (entryFrame m #[(.int p1), (.int p2)] maxLocals)) t := fun t k => pre10 t (by
      show Steps p.tables e below (T9.setTop (mkF m 33 #[.val (.int p1), .val (.int p2), .val (.int z3), .val (.ref w_G_YEAR), .unset, .unset] [(.int (0 : Int32))])) _
      refine XS.istore X9.here hx rfl (hb hby at_33) rfl (l' := #[.val (.int p1), .val (.int p2), .val (.int z3), .val (.ref w_G_YEAR), .val (.int (0 : Int32)), .unset]) rfl ?_
      exact k)
    obtain ⟨T12, h12, X12, e12, E12, A12, D12, -, st12⟩ := newO X9 hx hZ hown (hw _ (List.mem_of_getElem? (i := 10) rfl)) (hw _ (List.mem_of_getElem? (i := 11) rfl)) (hw _ (List.mem_of_getElem? (i := 12) rfl)) e9 (g := (mkF m 35 #[.val (.int p1), .val (.int p2), .val (.int z3), .val (.ref w_G_YEAR), .val (.int (0 : Int32)), .unset] [])) rfl (hb hby at_35) (by decide) (by decide)
    obtain ⟨b12, g12⟩ : ∃ z, z = h0.size := ⟨_, rfl⟩
    rw [← g12] at A12 D12 st12
    have F_type_b12 : Fld Z h12 b12 "com/example/knit/knit/exslt/SchemaDateTime" "type" "Lcom/example/knit/knit/exslt/SchemaDateTime$Type;" .null := D12 (Or.inr (hw _ (List.mem_of_getElem? (i := 25) rfl))) (ty := (.object "com/example/knit/knit/exslt/SchemaDateTime$Type")) (by decide)
    have F_year_b12 : Fld Z h12 b12 "com/example/knit/knit/exslt/SchemaDateTime" "year" "J" (.long (0 : Int64)) := D12 (Or.inr (hw _ (List.mem_of_getElem? (i := 27) rfl))) (ty := .long) (by decide)
    have F_month_b12 : Fld Z h12 b12 "com/example/knit/knit/exslt/SchemaDateTime" "month" "I" (.int (0 : Int32)) := D12 (Or.inr (hw _ (List.mem_of_getElem? (i := 29) rfl))) (ty := .int) (by decide)
    have F_day_b12 : Fld Z h12 b12 "com/example/knit/knit/exslt/SchemaDateTime" "day" "I" (.int (0 : Int32)) := D12 (Or.inr (hw _ (List.mem_of_getElem? (i := 31) rfl))) (ty := .int) (by decide)
    have F_hour_b12 : Fld Z h12 b12 "com/example/knit/knit/exslt/SchemaDateTime" "hour" "I" (.int (0 : Int32)) := D12 (Or.inr (hw _ (List.mem_of_getElem? (i := 33) rfl))) (ty := .int) (by decide)
    have F_minute_b12 : Fld Z h12 b12 "com/example/knit/knit/exslt/SchemaDateTime" "minute" "I" (.int (0 : Int32)) := D12 (Or.inr (hw _ (List.mem_of_getElem? (i := 35) rfl))) (ty := .int) (by decide)
    have F_second_b12 : Fld Z h12 b12 "com/example/knit/knit/exslt/SchemaDateTime" "second" "Ljava/math/BigDecimal;" .null := D12 (Or.inr (hw _ (List.mem_of_getElem? (i := 37) rfl))) (ty := (.object "java/math/BigDecimal")) (by decide)
    have F_zone_b12 : Fld Z h12 b12 "com/example/knit/knit/exslt/SchemaDateTime" "zone" "I" (.int (0 : Int32)) := D12 (Or.inr (hw _ (List.mem_of_getElem? (i := 39) rfl))) (ty := .int) (by decide)
    have g_b12 : n0 ≤ b12 := Nat.le_trans Z0 (Nat.le_of_eq g12.symm)
    have z_b12 : Z.heap.size ≤ b12 := Nat.le_trans O0.1 (Nat.le_of_eq g12.symm)
    have sz_b12 : h0.size ≤ b12 := Nat.le_trans (Keep.refl h0 []).1 (Nat.le_of_eq g12.symm)
    have K12 := (Keep.refl h0 []).ext E12
    have O12 : Ext Z.heap h12 := own_ext_trans O0 E12
    have Z12 : n0 ≤ h12.size := Nat.le_trans Z0 E12.1
    have pre13 : ∀ t, Steps p.tables e below (T12.setTop (mkF m 38 #[.val (.int p1), .val (.int p2), .val (.int z3), .val (.ref w_G_YEAR), .val (.int (0 : Int32)), .unset] [(.ref b12)])) t → Steps p.tables e below (s₁.setTop (entryFrame m #[(.int p1), (.int p2)] maxLocals)) t := fun t k => pre11 t (st12 t k)
    have pre14 : ∀ t, Steps p.tables e below (T12.setTop (mkF m 47 #[.val (.int p1), .val (.int p2), .val (.int z3), .val (.ref w_G_YEAR), .val (.int (0 : Int32)), .unset] [(.int (0 : Int32)), .null, (.int (0 : Int32)), (.int (0 : Int32)), (.int (1 : Int32)), (.int (1 : Int32)), (.long (1 : Int64)), (.ref w_G_YEAR), (.ref b12), (.ref b12)])) t → Steps p.tables e below (s₁.setTop (entryFrame m #[(.int p1), (.int p2)] maxLocals)) t := fun t k => pre13 t (by
      show Steps p.tables e below (T12.setTop (mkF m 38 #[.val (.int p1), .val (.int p2), .val (.int z3), .val (.ref w_G_YEAR), .val (.int (0 : Int32)), .unset] [(.ref b12)])) _
      refine XS.dup X12.here hx rfl (hb hby at_38) rfl rfl ?_
      show Steps p.tables e below (T12.setTop (mkF m 39 #[.val (.int p1), .val (.int p2), .val (.int z3), .val (.ref w_G_YEAR), .val (.int (0 : Int32)), .unset] [(.ref b12), (.ref b12)])) _
      refine XS.aloadN X12.here hx rfl (hb hby at_39) rfl rfl ?_
      show Steps p.tables e below (T12.setTop (mkF m 40 #[.val (.int p1), .val (.int p2), .val (.int z3), .val (.ref w_G_YEAR), .val (.int (0 : Int32)), .unset] [(.ref w_G_YEAR), (.ref b12), (.ref b12)])) _
      refine XS.lconst X12.here hx rfl (hb hby at_40) ?_
      show Steps p.tables e below (T12.setTop (mkF m 41 #[.val (.int p1), .val (.int p2), .val (.int z3), .val (.ref w_G_YEAR), .val (.int (0 : Int32)), .unset] [(.long (1 : Int64)), (.ref w_G_YEAR), (.ref b12), (.ref b12)])) _
      refine XS.iconst X12.here hx rfl (hb hby at_41) ?_
      show Steps p.tables e below (T12.setTop (mkF m 42 #[.val (.int p1), .val (.int p2), .val (.int z3), .val (.ref w_G_YEAR), .val (.int (0 : Int32)), .unset] [(.int (1 : Int32)), (.long (1 : Int64)), (.ref w_G_YEAR), (.ref b12), (.ref b12)])) _
      refine XS.iconst X12.here hx rfl (hb hby at_42) ?_
      show Steps p.tables e below (T12.setTop (mkF m 43 #[.val (.int p1), .val (.int p2), .val (.int z3), .val (.ref w_G_YEAR), .val (.int (0 : Int32)), .unset] [(.int (1 : Int32)), (.int (1 : Int32)), (.long (1 : Int64)), (.ref w_G_YEAR), (.ref b12), (.ref b12)])) _
      refine XS.iconst X12.here hx rfl (hb hby at_43) ?_
      show Steps p.tables e below (T12.setTop (mkF m 44 #[.val (.int p1), .val (.int p2), .val (.int z3), .val (.ref w_G_YEAR), .val (.int (0 : Int32)), .unset] [(.int (0 : Int32)), (.int (1 : Int32)), (.int (1 : Int32)), (.long (1 : Int64)), (.ref w_G_YEAR), (.ref b12), (.ref b12)])) _
      refine XS.iconst X12.here hx rfl (hb hby at_44) ?_
      show Steps p.tables e below (T12.setTop (mkF m 45 #[.val (.int p1), .val (.int p2), .val (.int z3), .val (.ref w_G_YEAR), .val (.int (0 : Int32)), .unset] [(.int (0 : Int32)), (.int (0 : Int32)), (.int (1 : Int32)), (.int (1 : Int32)), (.long (1 : Int64)), (.ref w_G_YEAR), (.ref b12), (.ref b12)])) _
      refine XS.aconstNull X12.here hx rfl (hb hby at_45) ?_
      show Steps p.tables e below (T12.setTop (mkF m 46 #[.val (.int p1), .val (.int p2), .val (.int z3), .val (.ref w_G_YEAR), .val (.int (0 : Int32)), .unset] [.null, (.int (0 : Int32)), (.int (0 : Int32)), (.int (1 : Int32)), (.int (1 : Int32)), (.long (1 : Int64)), (.ref w_G_YEAR), (.ref b12), (.ref b12)])) _
      refine XS.iconst X12.here hx rfl (hb hby at_46) ?_
      exact k)
    obtain ⟨_, _, ⟨T15, L15, k15, n15⟩, -, X15, ⟨Lc15, hQ15, l15, y15, z15⟩, st15⟩ := X12.specialBack hx (y := (⟨"com/example/knit/knit/exslt/SchemaDateTime", "<init>", "(Lcom/example/knit/knit/exslt/SchemaDateTime$Type;JIIIILjava/math/BigDecimal;I)V"⟩ : MethodName)) rfl hown (mvT hZ (hw _ (List.mem_of_getElem? (i := 13) rfl))) (mvT hZ (hw _ (List.mem_of_getElem? (i := 14) rfl))) (mvT hZ (hw _ (List.mem_of_getElem? (i := 15) rfl))) (by decide) (backOf (W := 1) (rm_sd l Z a0 hw [] b12 w_G_YEAR (1 : Int64) (1 : Int32) (1 : Int32) (0 : Int32) (0 : Int32) (0 : Int32) h12 n0 Z12 O12 A12 F_type_b12 F_year_b12 F_month_b12 F_day_b12 F_hour_b12 F_minute_b12 F_second_b12 F_zone_b12 g_b12 z_b12) hZ (hw _ (List.mem_of_getElem? (i := 15) rfl)) (hw _ (List.mem_of_getElem? (i := 12) rfl)) (by decide) (by decide)) (g := (mkF m 47 #[.val (.int p1), .val (.int p2), .val (.int z3), .val (.ref w_G_YEAR), .val (.int (0 : Int32)), .unset] [(.int (0 : Int32)), .null, (.int (0 : Int32)), (.int (0 : Int32)), (.int (1 : Int32)), (.int (1 : Int32)), (.long (1 : Int64)), (.ref w_G_YEAR), (.ref b12), (.ref b12)])) rfl (by rw [hml]; rfl) (Steps.refl _) (a := b12) (argsL := [(.ref w_G_YEAR), (.long (1 : Int64)), (.int (1 : Int32)), (.int (1 : Int32)), (.int (0 : Int32)), (.int (0 : Int32)), .null, (.int (0 : Int32))]) (rest := [(.ref b12)]) (lenOf pd_3 rfl) rfl (by show 2 * 0 + _ ≤ _; exact Nat.le_of_eq rfl) (hb hby at_47) (fun _ _ => ⟨rfl, e12, (by decide : 1 + 0 ≤ _), (by decide : 8 + 0 ≤ _)⟩)
    dsimp only [Pt.U, Pt.locs, Pt.cells, Pt.slots] at X15 l15 y15 z15 st15 hQ15
    subst l15 y15 z15
    obtain ⟨rfl, N15q, Kq15, r15_0, r15_1⟩ := hQ15
    have O15 : Ext Z.heap T15.heap := own_ext_keep O12 Kq15 (allS z_b12 all0)
    have K15 := K12.trans Kq15 (allS (Or.inr sz_b12) all0)
    have Z15 : n0 ≤ T15.heap.size := Nat.le_trans Z12 Kq15.1
    have N15 := Fr.app N9 N15q
    have pre16 : ∀ t, Steps p.tables e below (T15.setTop (mkF m 50 #[.val (.int p1), .val (.int p2), .val (.int z3), .val (.ref w_G_YEAR), .val (.int (0 : Int32)), .unset] [(.ref b12)])) t → Steps p.tables e below (s₁.setTop (entryFrame m #[(.int p1), (.int p2)] maxLocals)) t := fun t k => pre14 t (st15.trans k)
    have pre17 : ∀ t, Steps p.tables e below (T15.setTop (mkF m 53 #[.val (.int p1), .val (.int p2), .val (.int z3), .val (.ref w_G_YEAR), .val (.int (0 : Int32)), .val (.ref b12)] [(.ref w_G_YEAR)])) t → Steps p.tables e below (s₁.setTop (entryFrame m #[(.int p1), (.int p2)] maxLocals)) t := fun t k => pre16 t (by
      show Steps p.tables e below (T15.setTop (mkF m 50 #[.val (.int p1), .val (.int p2), .val (.int z3), .val (.ref w_G_YEAR), .val (.int (0 : Int32)), .unset] [(.ref b12)])) _
      refine XS.astore X15.here hx rfl (hb hby at_50) rfl rfl (l' := #[.val (.int p1), .val (.int p2), .val (.int z3), .val (.ref w_G_YEAR), .val (.int (0 : Int32)), .val (.ref b12)]) rfl ?_
      show Steps p.tables e below (T15.setTop (mkF m 52 #[.val (.int p1), .val (.int p2), .val (.int z3), .val (.ref w_G_YEAR), .val (.int (0 : Int32)), .val (.ref b12)] [])) _
      refine XS.aloadN X15.here hx rfl (hb hby at_52) rfl rfl ?_
      exact k)
    obtain ⟨cq18, kq18, q18a, q18b, q18c⟩ := isOf hZ rfl (Exa.ext O15 E_G_YEAR)
    obtain ⟨_, _, ⟨T18, L18, k18, n18⟩, -, X18, ⟨Lc18, hQ18, l18, y18, z18⟩, st18⟩ := X15.virtualBack hx (y := (⟨"com/example/knit/knit/exslt/SchemaDateTime$Type", "precision", "()I"⟩ : MethodName)) (z := (⟨"com/example/knit/knit/exslt/SchemaDateTime$Type", "precision", "()I"⟩ : MethodName)) hown (mvT hZ (hw _ (List.mem_of_getElem? (i := 40) rfl))) (mvT hZ (hw _ (List.mem_of_getElem? (i := 41) rfl))) (notFace_of_selects (args := #[]) (mvT hZ (hw _ (List.mem_of_getElem? (i := 43) rfl)))) (mvT hZ (hw _ (List.mem_of_getElem? (i := 43) rfl))) (mvT hZ (hw _ (List.mem_of_getElem? (i := 42) rfl))) (by decide) (backOf (W := 0) (rm_prec l Z a0 hw [] w_G_YEAR (0 : Int32) (0 : Int32) (0 : Int32) T15.heap n0 Z15 O15 (Fld.ext O15 F_hasMonth_G_YEAR) (Fld.ext O15 F_hasDay_G_YEAR) (Fld.ext O15 F_hasTime_G_YEAR)) hZ (hw _ (List.mem_of_getElem? (i := 44) rfl)) (hw _ (List.mem_of_getElem? (i := 2) rfl)) (by decide) (by decide)) q18a q18c (g := (mkF m 53 #[.val (.int p1), .val (.int p2), .val (.int z3), .val (.ref w_G_YEAR), .val (.int (0 : Int32)), .val (.ref b12)] [(.ref w_G_YEAR)])) rfl (by rw [hml]; rfl) (Steps.refl _) (argsL := []) (rest := []) (lenOf pd_4 rfl) rfl (by show 2 * 0 + _ ≤ _; exact Nat.le_of_eq rfl) (hb hby at_53) (fun _ _ => ⟨rfl, rfl, (by decide : 1 + 0 ≤ _), (by decide : 8 + 0 ≤ _)⟩)
    dsimp only [Pt.U, Pt.locs, Pt.cells, Pt.slots] at X18 l18 y18 z18 st18 hQ18
    subst l18 y18 z18
    obtain ⟨hv18, N18q, e18⟩ := hQ18
    rw [(show ((bF (0 : Int32) + bF (0 : Int32)) + bF (0 : Int32)) = (0 : Int32) from by decide)] at hv18
    subst hv18
    have N18 := Fr.app N15 N18q
    have pre19 : ∀ t, Steps p.tables e below (T18.setTop (mkF m 56 #[.val (.int p1), .val (.int p2), .val (.int z3), .val (.ref w_G_YEAR), .val (.int (0 : Int32)), .val (.ref b12)] [(.int (0 : Int32))])) t → Steps p.tables e below (s₁.setTop (entryFrame m #[(.int p1), (.int p2)] maxLocals)) t := fun t k => pre17 t (st18.trans k)
    have pre20 : ∀ t, Steps p.tables e below (T18.setTop (mkF m 63 #[.val (.int p1), .val (.int p2), .val (.int z3), .val (.ref w_G_YEAR), .val (.int (0 : Int32)), .val (.ref b12)] [(.ref b12)])) t → Steps p.tables e below (s₁.setTop (entryFrame m #[(.int p1), (.int p2)] maxLocals)) t := fun t k => pre19 t (by
      show Steps p.tables e below (T18.setTop (mkF m 56 #[.val (.int p1), .val (.int p2), .val (.int z3), .val (.ref w_G_YEAR), .val (.int (0 : Int32)), .val (.ref b12)] [(.int (0 : Int32))])) _
      refine XS.iload X18.here hx rfl (hb hby at_56) rfl ?_
      show Steps p.tables e below (T18.setTop (mkF m 58 #[.val (.int p1), .val (.int p2), .val (.int z3), .val (.ref w_G_YEAR), .val (.int (0 : Int32)), .val (.ref b12)] [(.int (0 : Int32)), (.int (0 : Int32))])) _
      refine XS.icmpNo X18.here hx rfl (hb hby at_58) rfl (teq (by decide : (0 : Int32) = (0 : Int32))).2 ?_
      show Steps p.tables e below (T18.setTop (mkF m 61 #[.val (.int p1), .val (.int p2), .val (.int z3), .val (.ref w_G_YEAR), .val (.int (0 : Int32)), .val (.ref b12)] [])) _
      refine XS.aload X18.here hx rfl (hb hby at_61) rfl rfl ?_
      exact k)
    obtain ⟨cq21, kq21, q21a, q21b, q21c⟩ := isOf hZ e18 r15_0
    obtain ⟨_, _, ⟨T21, L21, k21, n21⟩, -, X21, ⟨Lc21, hQ21, l21, y21, z21⟩, st21⟩ := X18.virtualBack hx (y := (⟨"com/example/knit/knit/exslt/SchemaDateTime", "hasYear", "()Z"⟩ : MethodName)) (z := (⟨"com/example/knit/knit/exslt/SchemaDateTime", "hasYear", "()Z"⟩ : MethodName)) hown (mvT hZ (hw _ (List.mem_of_getElem? (i := 51) rfl))) (mvT hZ (hw _ (List.mem_of_getElem? (i := 52) rfl))) (notFace_of_selects (args := #[]) (mvT hZ (hw _ (List.mem_of_getElem? (i := 54) rfl)))) (mvT hZ (hw _ (List.mem_of_getElem? (i := 54) rfl))) (mvT hZ (hw _ (List.mem_of_getElem? (i := 53) rfl))) (by decide) (backOf (W := 0) (rm_hy l Z a0 hw [] b12 w_G_YEAR T15.heap n0 Z15 O15 r15_1 (Fld.ext O15 F_hasYear_G_YEAR)) hZ (hw _ (List.mem_of_getElem? (i := 55) rfl)) (hw _ (List.mem_of_getElem? (i := 12) rfl)) (by decide) (by decide)) q21a q21c (g := (mkF m 63 #[.val (.int p1), .val (.int p2), .val (.int z3), .val (.ref w_G_YEAR), .val (.int (0 : Int32)), .val (.ref b12)] [(.ref b12)])) rfl (by rw [hml]; rfl) (Steps.refl _) (argsL := []) (rest := []) (lenOf pd_5 rfl) rfl (by show 2 * 0 + _ ≤ _; exact Nat.le_of_eq rfl) (hb hby at_63) (fun _ _ => ⟨rfl, e18, (by decide : 1 + 0 ≤ _), (by decide : 8 + 0 ≤ _)⟩)
    dsimp only [Pt.U, Pt.locs, Pt.cells, Pt.slots] at X21 l21 y21 z21 st21 hQ21
    subst l21 y21 z21
    obtain ⟨rfl, N21q, e21⟩ := hQ21
    have N21 := Fr.app N18 N21q
    have pre22 : ∀ t, Steps p.tables e below (T21.setTop (mkF m 66 #[.val (.int p1), .val (.int p2), .val (.int z3), .val (.ref w_G_YEAR), .val (.int (0 : Int32)), .val (.ref b12)] [(.int (1 : Int32))])) t → Steps p.tables e below (s₁.setTop (entryFrame m #[(.int p1), (.int p2)] maxLocals)) t := fun t k => pre20 t (st21.trans k)
    have pre23 : ∀ t, Steps p.tables e below (T21.setTop (mkF m 74 #[.val (.int p1), .val (.int p2), .val (.int z3), .val (.ref w_G_YEAR), .val (.int (0 : Int32)), .val (.ref b12)] [(.int (1 : Int32))])) t → Steps p.tables e below (s₁.setTop (entryFrame m #[(.int p1), (.int p2)] maxLocals)) t := fun t k => pre22 t (by
      show Steps p.tables e below (T21.setTop (mkF m 66 #[.val (.int p1), .val (.int p2), .val (.int z3), .val (.ref w_G_YEAR), .val (.int (0 : Int32)), .val (.ref b12)] [(.int (1 : Int32))])) _
      refine XS.ifNo X21.here hx rfl (hb hby at_66) rfl ((if0 _ _).trans (feq (by decide : ¬ ((1 : Int32) = (0 : Int32)))).1) ?_
      show Steps p.tables e below (T21.setTop (mkF m 69 #[.val (.int p1), .val (.int p2), .val (.int z3), .val (.ref w_G_YEAR), .val (.int (0 : Int32)), .val (.ref b12)] [])) _
      refine XS.iconst X21.here hx rfl (hb hby at_69) ?_
      show Steps p.tables e below (T21.setTop (mkF m 70 #[.val (.int p1), .val (.int p2), .val (.int z3), .val (.ref w_G_YEAR), .val (.int (0 : Int32)), .val (.ref b12)] [(.int (1 : Int32))])) _
      refine XS.goto X21.here hx rfl (pc0 := 70) (pc' := 74) rfl (hb hby at_70) (by decide) (by decide) ?_
      exact k)
    obtain ⟨fs, hr, hrun, hended, hW, hsame⟩ := X21.leave (v := some (.int (1 : Int32))) (fun h => by rw [Bd.returns] at h; cases h)
    refine ⟨_, _, pre23 _ ?_, hrun, hended, _, _, rfl, ?_, ⟨_, rfl⟩, hW, hsame.mono (by decide) (by decide)⟩
    · exact retN X21 hx (t := .boolean) Bd.returns (by simp) (hb hby at_74) hr
    · show Q_rm_law Z p1 p2 w_G_YEAR w_DATE w_DATE_TIME w_G_YEAR_MONTH h0 n0 _ T21.heap _
      rw [e21]
      exact ⟨rfl, N21⟩
  · by_cases hk1 : z3 = (1 : Int32)
    · obtain ⟨_, _, ⟨T24, L24, k24, n24⟩, -, X24, ⟨Lc24, hQ24, l24, y24, z24⟩, st24⟩ := Jvm.LawKit.callS X0 hx (y := (⟨"com/example/knit/knit/exslt/SchemaDateTime$Type", "ofPrecision", "(I)Lcom/example/knit/knit/exslt/SchemaDateTime$Type;"⟩ : MethodName)) hown (mvT hZ (hw _ (List.mem_of_getElem? (i := 0) rfl))) (mvT hZ (hw _ (List.mem_of_getElem? (i := 1) rfl))) (mvT hZ (hw _ (List.mem_of_getElem? (i := 2) rfl))) (mvT hZ (hw _ (List.mem_of_getElem? (i := 3) rfl))) (by decide) (backOf (W := 0) (rm_ofp l Z a0 hw [] z3 w_G_YEAR w_DATE w_DATE_TIME w_G_YEAR_MONTH h0 n0 Z0 O0 P') hZ (hw _ (List.mem_of_getElem? (i := 3) rfl)) (hw _ (List.mem_of_getElem? (i := 2) rfl)) (by decide) (by decide)) (g := (mkF m 18 #[.val (.int p1), .val (.int p2), .val (.int z3), .unset, .unset, .unset] [(.int z3)])) rfl (by rw [hml]; rfl) (argsL := [(.int z3)]) (rest := []) (lenOf pd_1 rfl) rfl (by show 2 * 0 + _ ≤ _; exact Nat.le_of_eq rfl) (hb hby at_18) (fun _ _ => ⟨rfl, e0, (by decide : 0 + 0 ≤ _), (by decide : 0 + 0 ≤ _)⟩)
      dsimp only [Pt.U, Pt.locs, Pt.cells, Pt.slots] at X24 l24 y24 z24 st24 hQ24
      subst l24 y24 z24
      obtain ⟨hv24, N24q, e24⟩ := hQ24
      rw [(show (if z3 = (0 : Int32) then w_G_YEAR else if z3 = (1 : Int32) then w_G_YEAR_MONTH else if z3 = (2 : Int32) then w_DATE else w_DATE_TIME) = w_G_YEAR_MONTH from by rw [if_neg hk0, if_pos hk1])] at hv24
      subst hv24
      have N24 := Fr.app N0 N24q
      have pre25 : ∀ t, Steps p.tables e below (T24.setTop (mkF m 21 #[.val (.int p1), .val (.int p2), .val (.int z3), .unset, .unset, .unset] [(.ref w_G_YEAR_MONTH)])) t → Steps p.tables e below (s₁.setTop (entryFrame m #[(.int p1), (.int p2)] maxLocals)) t := fun t k => pre5 t (st24 t k)
      have pre26 : ∀ t, Steps p.tables e below (T24.setTop (mkF m 30 #[.val (.int p1), .val (.int p2), .val (.int z3), .val (.ref w_G_YEAR_MONTH), .unset, .unset] [(.int (3 : Int32)), (.int z3)])) t → Steps p.tables e below (s₁.setTop (entryFrame m #[(.int p1), (.int p2)] maxLocals)) t := fun t k => pre25 t (by
        show Steps p.tables e below (T24.setTop (mkF m 21 #[.val (.int p1), .val (.int p2), .val (.int z3), .unset, .unset, .unset] [(.ref w_G_YEAR_MONTH)])) _
        refine XS.astoreN X24.here hx rfl (hb hby at_21) rfl rfl (l' := #[.val (.int p1), .val (.int p2), .val (.int z3), .val (.ref w_G_YEAR_MONTH), .unset, .unset]) rfl ?_
        show Steps p.tables e below (T24.setTop (mkF m 22 #[.val (.int p1), .val (.int p2), .val (.int z3), .val (.ref w_G_YEAR_MONTH), .unset, .unset] [])) _
        refine XS.aloadN X24.here hx rfl (hb hby at_22) rfl rfl ?_
        show Steps p.tables e below (T24.setTop (mkF m 23 #[.val (.int p1), .val (.int p2), .val (.int z3), .val (.ref w_G_YEAR_MONTH), .unset, .unset] [(.ref w_G_YEAR_MONTH)])) _
        refine XS.ifnonnullYes X24.here hx rfl (pc0 := 23) (pc' := 28) rfl (hb hby at_23) rfl (by decide) (by decide) ?_
        show Steps p.tables e below (T24.setTop (mkF m 28 #[.val (.int p1), .val (.int p2), .val (.int z3), .val (.ref w_G_YEAR_MONTH), .unset, .unset] [])) _
        refine XS.iloadN X24.here hx rfl (hb hby at_28) rfl ?_
        show Steps p.tables e below (T24.setTop (mkF m 29 #[.val (.int p1), .val (.int p2), .val (.int z3), .val (.ref w_G_YEAR_MONTH), .unset, .unset] [(.int z3)])) _
        refine XS.iconst X24.here hx rfl (hb hby at_29) ?_
        exact k)
      obtain ⟨_, _, ⟨T27, L27, k27, n27⟩, -, X27, ⟨Lc27, hQ27, l27, y27, z27⟩, st27⟩ := Jvm.LawKit.callS X24 hx (y := (⟨"java/lang/Math", "min", "(II)I"⟩ : MethodName)) hown (mvT hZ (hw _ (List.mem_of_getElem? (i := 6) rfl))) (mvT hZ (hw _ (List.mem_of_getElem? (i := 7) rfl))) (mvT hZ (hw _ (List.mem_of_getElem? (i := 8) rfl))) (mvT hZ (hw _ (List.mem_of_getElem? (i := 9) rfl))) (by decide) (backOf (W := 0) (rm_min l Z a0 hw [] z3 (3 : Int32) h0 n0 Z0 O0) hZ (hw _ (List.mem_of_getElem? (i := 9) rfl)) (hw _ (List.mem_of_getElem? (i := 8) rfl)) (by decide) (by decide)) (g := (mkF m 30 #[.val (.int p1), .val (.int p2), .val (.int z3), .val (.ref w_G_YEAR_MONTH), .unset, .unset] [(.int (3 : Int32)), (.int z3)])) rfl (by rw [hml]; rfl) (argsL := [(.int z3), (.int (3 : Int32))]) (rest := []) (lenOf pd_2 rfl) rfl (by show 2 * 0 + _ ≤ _; exact Nat.le_of_eq rfl) (hb hby at_30) (fun _ _ => ⟨rfl, e24, (by decide : 0 + 0 ≤ _), (by decide : 0 + 0 ≤ _)⟩)
      dsimp only [Pt.U, Pt.locs, Pt.cells, Pt.slots] at X27 l27 y27 z27 st27 hQ27
      subst l27 y27 z27
      obtain ⟨hv27, N27q, e27⟩ := hQ27
      rw [(show (minF z3 (3 : Int32)) = (1 : Int32) from by rw [hk1]; decide)] at hv27
      subst hv27
      have N27 := Fr.app N24 N27q
      have pre28 : ∀ t, Steps p.tables e below (T27.setTop (mkF m 33 #[.val (.int p1), .val (.int p2), .val (.int z3), .val (.ref w_G_YEAR_MONTH), .unset, .unset] [(.int (1 : Int32))])) t → Steps p.tables e below (s₁.setTop (entryFrame m #[(.int p1), (.int p2)] maxLocals)) t := fun t k => pre26 t (st27 t k)
      have pre29 : ∀ t, Steps p.tables e below (T27.setTop (mkF m 35 #[.val (.int p1), .val (.int p2), .val (.int z3), .val (.ref w_G_YEAR_MONTH), .val (.int (1 : Int32)), .unset] [])) t → Steps p.tables e below (s₁.setTop (entryFrame m #[(.int p1), (.int p2)] maxLocals)) t := fun t k => pre28 t (by
        show Steps p.tables e below (T27.setTop (mkF m 33 #[.val (.int p1), .val (.int p2), .val (.int z3), .val (.ref w_G_YEAR_MONTH), .unset, .unset] [(.int (1 : Int32))])) _
        refine XS.istore X27.here hx rfl (hb hby at_33) rfl (l' := #[.val (.int p1), .val (.int p2), .val (.int z3), .val (.ref w_G_YEAR_MONTH), .val (.int (1 : Int32)), .unset]) rfl ?_
        exact k)
      obtain ⟨T30, h30, X30, e30, E30, A30, D30, -, st30⟩ := newO X27 hx hZ hown (hw _ (List.mem_of_getElem? (i := 10) rfl)) (hw _ (List.mem_of_getElem? (i := 11) rfl)) (hw _ (List.mem_of_getElem? (i := 12) rfl)) e27 (g := (mkF m 35 #[.val (.int p1), .val (.int p2), .val (.int z3), .val (.ref w_G_YEAR_MONTH), .val (.int (1 : Int32)), .unset] [])) rfl (hb hby at_35) (by decide) (by decide)
      obtain ⟨b30, g30⟩ : ∃ z, z = h0.size := ⟨_, rfl⟩
      rw [← g30] at A30 D30 st30
      have F_type_b30 : Fld Z h30 b30 "com/example/knit/knit/exslt/SchemaDateTime" "type" "Lcom/example/knit/knit/exslt/SchemaDateTime$Type;" .null := D30 (Or.inr (hw _ (List.mem_of_getElem? (i := 25) rfl))) (ty := (.object "com/example/knit/knit/exslt/SchemaDateTime$Type")) (by decide)
      have F_year_b30 : Fld Z h30 b30 "com/example/knit/knit/exslt/SchemaDateTime" "year" "J" (.long (0 : Int64)) := D30 (Or.inr (hw _ (List.mem_of_getElem? (i := 27) rfl))) (ty := .long) (by decide)
      have F_month_b30 : Fld Z h30 b30 "com/example/knit/knit/exslt/SchemaDateTime" "month" "I" (.int (0 : Int32)) := D30 (Or.inr (hw _ (List.mem_of_getElem? (i := 29) rfl))) (ty := .int) (by decide)
      have F_day_b30 : Fld Z h30 b30 "com/example/knit/knit/exslt/SchemaDateTime" "day" "I" (.int (0 : Int32)) := D30 (Or.inr (hw _ (List.mem_of_getElem? (i := 31) rfl))) (ty := .int) (by decide)
      have F_hour_b30 : Fld Z h30 b30 "com/example/knit/knit/exslt/SchemaDateTime" "hour" "I" (.int (0 : Int32)) := D30 (Or.inr (hw _ (List.mem_of_getElem? (i := 33) rfl))) (ty := .int) (by decide)
      have F_minute_b30 : Fld Z h30 b30 "com/example/knit/knit/exslt/SchemaDateTime" "minute" "I" (.int (0 : Int32)) := D30 (Or.inr (hw _ (List.mem_of_getElem? (i := 35) rfl))) (ty := .int) (by decide)
      have F_second_b30 : Fld Z h30 b30 "com/example/knit/knit/exslt/SchemaDateTime" "second" "Ljava/math/BigDecimal;" .null := D30 (Or.inr (hw _ (List.mem_of_getElem? (i := 37) rfl))) (ty := (.object "java/math/BigDecimal")) (by decide)
      have F_zone_b30 : Fld Z h30 b30 "com/example/knit/knit/exslt/SchemaDateTime" "zone" "I" (.int (0 : Int32)) := D30 (Or.inr (hw _ (List.mem_of_getElem? (i := 39) rfl))) (ty := .int) (by decide)
      have g_b30 : n0 ≤ b30 := Nat.le_trans Z0 (Nat.le_of_eq g30.symm)
      have z_b30 : Z.heap.size ≤ b30 := Nat.le_trans O0.1 (Nat.le_of_eq g30.symm)
      have sz_b30 : h0.size ≤ b30 := Nat.le_trans (Keep.refl h0 []).1 (Nat.le_of_eq g30.symm)
      have K30 := (Keep.refl h0 []).ext E30
      have O30 : Ext Z.heap h30 := own_ext_trans O0 E30
      have Z30 : n0 ≤ h30.size := Nat.le_trans Z0 E30.1
      have pre31 : ∀ t, Steps p.tables e below (T30.setTop (mkF m 38 #[.val (.int p1), .val (.int p2), .val (.int z3), .val (.ref w_G_YEAR_MONTH), .val (.int (1 : Int32)), .unset] [(.ref b30)])) t → Steps p.tables e below (s₁.setTop (entryFrame m #[(.int p1), (.int p2)] maxLocals)) t := fun t k => pre29 t (st30 t k)
      have pre32 : ∀ t, Steps p.tables e below (T30.setTop (mkF m 47 #[.val (.int p1), .val (.int p2), .val (.int z3), .val (.ref w_G_YEAR_MONTH), .val (.int (1 : Int32)), .unset] [(.int (0 : Int32)), .null, (.int (0 : Int32)), (.int (0 : Int32)), (.int (1 : Int32)), (.int (1 : Int32)), (.long (1 : Int64)), (.ref w_G_YEAR_MONTH), (.ref b30), (.ref b30)])) t → Steps p.tables e below (s₁.setTop (entryFrame m #[(.int p1), (.int p2)] maxLocals)) t := fun t k => pre31 t (by
        show Steps p.tables e below (T30.setTop (mkF m 38 #[.val (.int p1), .val (.int p2), .val (.int z3), .val (.ref w_G_YEAR_MONTH), .val (.int (1 : Int32)), .unset] [(.ref b30)])) _
        refine XS.dup X30.here hx rfl (hb hby at_38) rfl rfl ?_
        show Steps p.tables e below (T30.setTop (mkF m 39 #[.val (.int p1), .val (.int p2), .val (.int z3), .val (.ref w_G_YEAR_MONTH), .val (.int (1 : Int32)), .unset] [(.ref b30), (.ref b30)])) _
        refine XS.aloadN X30.here hx rfl (hb hby at_39) rfl rfl ?_
        show Steps p.tables e below (T30.setTop (mkF m 40 #[.val (.int p1), .val (.int p2), .val (.int z3), .val (.ref w_G_YEAR_MONTH), .val (.int (1 : Int32)), .unset] [(.ref w_G_YEAR_MONTH), (.ref b30), (.ref b30)])) _
        refine XS.lconst X30.here hx rfl (hb hby at_40) ?_
        show Steps p.tables e below (T30.setTop (mkF m 41 #[.val (.int p1), .val (.int p2), .val (.int z3), .val (.ref w_G_YEAR_MONTH), .val (.int (1 : Int32)), .unset] [(.long (1 : Int64)), (.ref w_G_YEAR_MONTH), (.ref b30), (.ref b30)])) _
        refine XS.iconst X30.here hx rfl (hb hby at_41) ?_
        show Steps p.tables e below (T30.setTop (mkF m 42 #[.val (.int p1), .val (.int p2), .val (.int z3), .val (.ref w_G_YEAR_MONTH), .val (.int (1 : Int32)), .unset] [(.int (1 : Int32)), (.long (1 : Int64)), (.ref w_G_YEAR_MONTH), (.ref b30), (.ref b30)])) _
        refine XS.iconst X30.here hx rfl (hb hby at_42) ?_
        show Steps p.tables e below (T30.setTop (mkF m 43 #[.val (.int p1), .val (.int p2), .val (.int z3), .val (.ref w_G_YEAR_MONTH), .val (.int (1 : Int32)), .unset] [(.int (1 : Int32)), (.int (1 : Int32)), (.long (1 : Int64)), (.ref w_G_YEAR_MONTH), (.ref b30), (.ref b30)])) _
        refine XS.iconst X30.here hx rfl (hb hby at_43) ?_
        show Steps p.tables e below (T30.setTop (mkF m 44 #[.val (.int p1), .val (.int p2), .val (.int z3), .val (.ref w_G_YEAR_MONTH), .val (.int (1 : Int32)), .unset] [(.int (0 : Int32)), (.int (1 : Int32)), (.int (1 : Int32)), (.long (1 : Int64)), (.ref w_G_YEAR_MONTH), (.ref b30), (.ref b30)])) _
        refine XS.iconst X30.here hx rfl (hb hby at_44) ?_
        show Steps p.tables e below (T30.setTop (mkF m 45 #[.val (.int p1), .val (.int p2), .val (.int z3), .val (.ref w_G_YEAR_MONTH), .val (.int (1 : Int32)), .unset] [(.int (0 : Int32)), (.int (0 : Int32)), (.int (1 : Int32)), (.int (1 : Int32)), (.long (1 : Int64)), (.ref w_G_YEAR_MONTH), (.ref b30), (.ref b30)])) _
        refine XS.aconstNull X30.here hx rfl (hb hby at_45) ?_
        show Steps p.tables e below (T30.setTop (mkF m 46 #[.val (.int p1), .val (.int p2), .val (.int z3), .val (.ref w_G_YEAR_MONTH), .val (.int (1 : Int32)), .unset] [.null, (.int (0 : Int32)), (.int (0 : Int32)), (.int (1 : Int32)), (.int (1 : Int32)), (.long (1 : Int64)), (.ref w_G_YEAR_MONTH), (.ref b30), (.ref b30)])) _
        refine XS.iconst X30.here hx rfl (hb hby at_46) ?_
        exact k)
      obtain ⟨_, _, ⟨T33, L33, k33, n33⟩, -, X33, ⟨Lc33, hQ33, l33, y33, z33⟩, st33⟩ := X30.specialBack hx (y := (⟨"com/example/knit/knit/exslt/SchemaDateTime", "<init>", "(Lcom/example/knit/knit/exslt/SchemaDateTime$Type;JIIIILjava/math/BigDecimal;I)V"⟩ : MethodName)) rfl hown (mvT hZ (hw _ (List.mem_of_getElem? (i := 13) rfl))) (mvT hZ (hw _ (List.mem_of_getElem? (i := 14) rfl))) (mvT hZ (hw _ (List.mem_of_getElem? (i := 15) rfl))) (by decide) (backOf (W := 1) (rm_sd l Z a0 hw [] b30 w_G_YEAR_MONTH (1 : Int64) (1 : Int32) (1 : Int32) (0 : Int32) (0 : Int32) (0 : Int32) h30 n0 Z30 O30 A30 F_type_b30 F_year_b30 F_month_b30 F_day_b30 F_hour_b30 F_minute_b30 F_second_b30 F_zone_b30 g_b30 z_b30) hZ (hw _ (List.mem_of_getElem? (i := 15) rfl)) (hw _ (List.mem_of_getElem? (i := 12) rfl)) (by decide) (by decide)) (g := (mkF m 47 #[.val (.int p1), .val (.int p2), .val (.int z3), .val (.ref w_G_YEAR_MONTH), .val (.int (1 : Int32)), .unset] [(.int (0 : Int32)), .null, (.int (0 : Int32)), (.int (0 : Int32)), (.int (1 : Int32)), (.int (1 : Int32)), (.long (1 : Int64)), (.ref w_G_YEAR_MONTH), (.ref b30), (.ref b30)])) rfl (by rw [hml]; rfl) (Steps.refl _) (a := b30) (argsL := [(.ref w_G_YEAR_MONTH), (.long (1 : Int64)), (.int (1 : Int32)), (.int (1 : Int32)), (.int (0 : Int32)), (.int (0 : Int32)), .null, (.int (0 : Int32))]) (rest := [(.ref b30)]) (lenOf pd_3 rfl) rfl (by show 2 * 0 + _ ≤ _; exact Nat.le_of_eq rfl) (hb hby at_47) (fun _ _ => ⟨rfl, e30, (by decide : 1 + 0 ≤ _), (by decide : 8 + 0 ≤ _)⟩)
      dsimp only [Pt.U, Pt.locs, Pt.cells, Pt.slots] at X33 l33 y33 z33 st33 hQ33
      subst l33 y33 z33
      obtain ⟨rfl, N33q, Kq33, r33_0, r33_1⟩ := hQ33
      have O33 : Ext Z.heap T33.heap := own_ext_keep O30 Kq33 (allS z_b30 all0)
      have K33 := K30.trans Kq33 (allS (Or.inr sz_b30) all0)
      have Z33 : n0 ≤ T33.heap.size := Nat.le_trans Z30 Kq33.1
      have N33 := Fr.app N27 N33q
      have pre34 : ∀ t, Steps p.tables e below (T33.setTop (mkF m 50 #[.val (.int p1), .val (.int p2), .val (.int z3), .val (.ref w_G_YEAR_MONTH), .val (.int (1 : Int32)), .unset] [(.ref b30)])) t → Steps p.tables e below (s₁.setTop (entryFrame m #[(.int p1), (.int p2)] maxLocals)) t := fun t k => pre32 t (st33.trans k)
      have pre35 : ∀ t, Steps p.tables e below (T33.setTop (mkF m 53 #[.val (.int p1), .val (.int p2), .val (.int z3), .val (.ref w_G_YEAR_MONTH), .val (.int (1 : Int32)), .val (.ref b30)] [(.ref w_G_YEAR_MONTH)])) t → Steps p.tables e below (s₁.setTop (entryFrame m #[(.int p1), (.int p2)] maxLocals)) t := fun t k => pre34 t (by
        show Steps p.tables e below (T33.setTop (mkF m 50 #[.val (.int p1), .val (.int p2), .val (.int z3), .val (.ref w_G_YEAR_MONTH), .val (.int (1 : Int32)), .unset] [(.ref b30)])) _
        refine XS.astore X33.here hx rfl (hb hby at_50) rfl rfl (l' := #[.val (.int p1), .val (.int p2), .val (.int z3), .val (.ref w_G_YEAR_MONTH), .val (.int (1 : Int32)), .val (.ref b30)]) rfl ?_
        show Steps p.tables e below (T33.setTop (mkF m 52 #[.val (.int p1), .val (.int p2), .val (.int z3), .val (.ref w_G_YEAR_MONTH), .val (.int (1 : Int32)), .val (.ref b30)] [])) _
        refine XS.aloadN X33.here hx rfl (hb hby at_52) rfl rfl ?_
        exact k)
      obtain ⟨cq36, kq36, q36a, q36b, q36c⟩ := isOf hZ rfl (Exa.ext O33 E_G_YEAR_MONTH)
      obtain ⟨_, _, ⟨T36, L36, k36, n36⟩, -, X36, ⟨Lc36, hQ36, l36, y36, z36⟩, st36⟩ := X33.virtualBack hx (y := (⟨"com/example/knit/knit/exslt/SchemaDateTime$Type", "precision", "()I"⟩ : MethodName)) (z := (⟨"com/example/knit/knit/exslt/SchemaDateTime$Type", "precision", "()I"⟩ : MethodName)) hown (mvT hZ (hw _ (List.mem_of_getElem? (i := 40) rfl))) (mvT hZ (hw _ (List.mem_of_getElem? (i := 41) rfl))) (notFace_of_selects (args := #[]) (mvT hZ (hw _ (List.mem_of_getElem? (i := 43) rfl)))) (mvT hZ (hw _ (List.mem_of_getElem? (i := 43) rfl))) (mvT hZ (hw _ (List.mem_of_getElem? (i := 42) rfl))) (by decide) (backOf (W := 0) (rm_prec l Z a0 hw [] w_G_YEAR_MONTH (1 : Int32) (0 : Int32) (0 : Int32) T33.heap n0 Z33 O33 (Fld.ext O33 F_hasMonth_G_YEAR_MONTH) (Fld.ext O33 F_hasDay_G_YEAR_MONTH) (Fld.ext O33 F_hasTime_G_YEAR_MONTH)) hZ (hw _ (List.mem_of_getElem? (i := 44) rfl)) (hw _ (List.mem_of_getElem? (i := 2) rfl)) (by decide) (by decide)) q36a q36c (g := (mkF m 53 #[.val (.int p1), .val (.int p2), .val (.int z3), .val (.ref w_G_YEAR_MONTH), .val (.int (1 : Int32)), .val (.ref b30)] [(.ref w_G_YEAR_MONTH)])) rfl (by rw [hml]; rfl) (Steps.refl _) (argsL := []) (rest := []) (lenOf pd_4 rfl) rfl (by show 2 * 0 + _ ≤ _; exact Nat.le_of_eq rfl) (hb hby at_53) (fun _ _ => ⟨rfl, rfl, (by decide : 1 + 0 ≤ _), (by decide : 8 + 0 ≤ _)⟩)
      dsimp only [Pt.U, Pt.locs, Pt.cells, Pt.slots] at X36 l36 y36 z36 st36 hQ36
      subst l36 y36 z36
      obtain ⟨hv36, N36q, e36⟩ := hQ36
      rw [(show ((bF (1 : Int32) + bF (0 : Int32)) + bF (0 : Int32)) = (1 : Int32) from by decide)] at hv36
      subst hv36
      have N36 := Fr.app N33 N36q
      have pre37 : ∀ t, Steps p.tables e below (T36.setTop (mkF m 56 #[.val (.int p1), .val (.int p2), .val (.int z3), .val (.ref w_G_YEAR_MONTH), .val (.int (1 : Int32)), .val (.ref b30)] [(.int (1 : Int32))])) t → Steps p.tables e below (s₁.setTop (entryFrame m #[(.int p1), (.int p2)] maxLocals)) t := fun t k => pre35 t (st36.trans k)
      have pre38 : ∀ t, Steps p.tables e below (T36.setTop (mkF m 63 #[.val (.int p1), .val (.int p2), .val (.int z3), .val (.ref w_G_YEAR_MONTH), .val (.int (1 : Int32)), .val (.ref b30)] [(.ref b30)])) t → Steps p.tables e below (s₁.setTop (entryFrame m #[(.int p1), (.int p2)] maxLocals)) t := fun t k => pre37 t (by
        show Steps p.tables e below (T36.setTop (mkF m 56 #[.val (.int p1), .val (.int p2), .val (.int z3), .val (.ref w_G_YEAR_MONTH), .val (.int (1 : Int32)), .val (.ref b30)] [(.int (1 : Int32))])) _
        refine XS.iload X36.here hx rfl (hb hby at_56) rfl ?_
        show Steps p.tables e below (T36.setTop (mkF m 58 #[.val (.int p1), .val (.int p2), .val (.int z3), .val (.ref w_G_YEAR_MONTH), .val (.int (1 : Int32)), .val (.ref b30)] [(.int (1 : Int32)), (.int (1 : Int32))])) _
        refine XS.icmpNo X36.here hx rfl (hb hby at_58) rfl (teq (by decide : (1 : Int32) = (1 : Int32))).2 ?_
        show Steps p.tables e below (T36.setTop (mkF m 61 #[.val (.int p1), .val (.int p2), .val (.int z3), .val (.ref w_G_YEAR_MONTH), .val (.int (1 : Int32)), .val (.ref b30)] [])) _
        refine XS.aload X36.here hx rfl (hb hby at_61) rfl rfl ?_
        exact k)
      obtain ⟨cq39, kq39, q39a, q39b, q39c⟩ := isOf hZ e36 r33_0
      obtain ⟨_, _, ⟨T39, L39, k39, n39⟩, -, X39, ⟨Lc39, hQ39, l39, y39, z39⟩, st39⟩ := X36.virtualBack hx (y := (⟨"com/example/knit/knit/exslt/SchemaDateTime", "hasYear", "()Z"⟩ : MethodName)) (z := (⟨"com/example/knit/knit/exslt/SchemaDateTime", "hasYear", "()Z"⟩ : MethodName)) hown (mvT hZ (hw _ (List.mem_of_getElem? (i := 51) rfl))) (mvT hZ (hw _ (List.mem_of_getElem? (i := 52) rfl))) (notFace_of_selects (args := #[]) (mvT hZ (hw _ (List.mem_of_getElem? (i := 54) rfl)))) (mvT hZ (hw _ (List.mem_of_getElem? (i := 54) rfl))) (mvT hZ (hw _ (List.mem_of_getElem? (i := 53) rfl))) (by decide) (backOf (W := 0) (rm_hy l Z a0 hw [] b30 w_G_YEAR_MONTH T33.heap n0 Z33 O33 r33_1 (Fld.ext O33 F_hasYear_G_YEAR_MONTH)) hZ (hw _ (List.mem_of_getElem? (i := 55) rfl)) (hw _ (List.mem_of_getElem? (i := 12) rfl)) (by decide) (by decide)) q39a q39c (g := (mkF m 63 #[.val (.int p1), .val (.int p2), .val (.int z3), .val (.ref w_G_YEAR_MONTH), .val (.int (1 : Int32)), .val (.ref b30)] [(.ref b30)])) rfl (by rw [hml]; rfl) (Steps.refl _) (argsL := []) (rest := []) (lenOf pd_5 rfl) rfl (by show 2 * 0 + _ ≤ _; exact Nat.le_of_eq rfl) (hb hby at_63) (fun _ _ => ⟨rfl, e36, (by decide : 1 + 0 ≤ _), (by decide : 8 + 0 ≤ _)⟩)
      dsimp only [Pt.U, Pt.locs, Pt.cells, Pt.slots] at X39 l39 y39 z39 st39 hQ39
      subst l39 y39 z39
      obtain ⟨rfl, N39q, e39⟩ := hQ39
      have N39 := Fr.app N36 N39q
      have pre40 : ∀ t, Steps p.tables e below (T39.setTop (mkF m 66 #[.val (.int p1), .val (.int p2), .val (.int z3), .val (.ref w_G_YEAR_MONTH), .val (.int (1 : Int32)), .val (.ref b30)] [(.int (1 : Int32))])) t → Steps p.tables e below (s₁.setTop (entryFrame m #[(.int p1), (.int p2)] maxLocals)) t := fun t k => pre38 t (st39.trans k)
      have pre41 : ∀ t, Steps p.tables e below (T39.setTop (mkF m 74 #[.val (.int p1), .val (.int p2), .val (.int z3), .val (.ref w_G_YEAR_MONTH), .val (.int (1 : Int32)), .val (.ref b30)] [(.int (1 : Int32))])) t → Steps p.tables e below (s₁.setTop (entryFrame m #[(.int p1), (.int p2)] maxLocals)) t := fun t k => pre40 t (by
        show Steps p.tables e below (T39.setTop (mkF m 66 #[.val (.int p1), .val (.int p2), .val (.int z3), .val (.ref w_G_YEAR_MONTH), .val (.int (1 : Int32)), .val (.ref b30)] [(.int (1 : Int32))])) _
        refine XS.ifNo X39.here hx rfl (hb hby at_66) rfl ((if0 _ _).trans (feq (by decide : ¬ ((1 : Int32) = (0 : Int32)))).1) ?_
        show Steps p.tables e below (T39.setTop (mkF m 69 #[.val (.int p1), .val (.int p2), .val (.int z3), .val (.ref w_G_YEAR_MONTH), .val (.int (1 : Int32)), .val (.ref b30)] [])) _
        refine XS.iconst X39.here hx rfl (hb hby at_69) ?_
        show Steps p.tables e below (T39.setTop (mkF m 70 #[.val (.int p1), .val (.int p2), .val (.int z3), .val (.ref w_G_YEAR_MONTH), .val (.int (1 : Int32)), .val (.ref b30)] [(.int (1 : Int32))])) _
        refine XS.goto X39.here hx rfl (pc0 := 70) (pc' := 74) rfl (hb hby at_70) (by decide) (by decide) ?_
        exact k)
      obtain ⟨fs, hr, hrun, hended, hW, hsame⟩ := X39.leave (v := some (.int (1 : Int32))) (fun h => by rw [Bd.returns] at h; cases h)
      refine ⟨_, _, pre41 _ ?_, hrun, hended, _, _, rfl, ?_, ⟨_, rfl⟩, hW, hsame.mono (by decide) (by decide)⟩
      · exact retN X39 hx (t := .boolean) Bd.returns (by simp) (hb hby at_74) hr
      · show Q_rm_law Z p1 p2 w_G_YEAR w_DATE w_DATE_TIME w_G_YEAR_MONTH h0 n0 _ T39.heap _
        rw [e39]
        exact ⟨rfl, N39⟩
    · by_cases hk2 : z3 = (2 : Int32)
      · obtain ⟨_, _, ⟨T42, L42, k42, n42⟩, -, X42, ⟨Lc42, hQ42, l42, y42, z42⟩, st42⟩ := Jvm.LawKit.callS X0 hx (y := (⟨"com/example/knit/knit/exslt/SchemaDateTime$Type", "ofPrecision", "(I)Lcom/example/knit/knit/exslt/SchemaDateTime$Type;"⟩ : MethodName)) hown (mvT hZ (hw _ (List.mem_of_getElem? (i := 0) rfl))) (mvT hZ (hw _ (List.mem_of_getElem? (i := 1) rfl))) (mvT hZ (hw _ (List.mem_of_getElem? (i := 2) rfl))) (mvT hZ (hw _ (List.mem_of_getElem? (i := 3) rfl))) (by decide) (backOf (W := 0) (rm_ofp l Z a0 hw [] z3 w_G_YEAR w_DATE w_DATE_TIME w_G_YEAR_MONTH h0 n0 Z0 O0 P') hZ (hw _ (List.mem_of_getElem? (i := 3) rfl)) (hw _ (List.mem_of_getElem? (i := 2) rfl)) (by decide) (by decide)) (g := (mkF m 18 #[.val (.int p1), .val (.int p2), .val (.int z3), .unset, .unset, .unset] [(.int z3)])) rfl (by rw [hml]; rfl) (argsL := [(.int z3)]) (rest := []) (lenOf pd_1 rfl) rfl (by show 2 * 0 + _ ≤ _; exact Nat.le_of_eq rfl) (hb hby at_18) (fun _ _ => ⟨rfl, e0, (by decide : 0 + 0 ≤ _), (by decide : 0 + 0 ≤ _)⟩)
        dsimp only [Pt.U, Pt.locs, Pt.cells, Pt.slots] at X42 l42 y42 z42 st42 hQ42
        subst l42 y42 z42
        obtain ⟨hv42, N42q, e42⟩ := hQ42
        rw [(show (if z3 = (0 : Int32) then w_G_YEAR else if z3 = (1 : Int32) then w_G_YEAR_MONTH else if z3 = (2 : Int32) then w_DATE else w_DATE_TIME) = w_DATE from by rw [if_neg hk0, if_neg hk1, if_pos hk2])] at hv42
        subst hv42
        have N42 := Fr.app N0 N42q
        have pre43 : ∀ t, Steps p.tables e below (T42.setTop (mkF m 21 #[.val (.int p1), .val (.int p2), .val (.int z3), .unset, .unset, .unset] [(.ref w_DATE)])) t → Steps p.tables e below (s₁.setTop (entryFrame m #[(.int p1), (.int p2)] maxLocals)) t := fun t k => pre5 t (st42 t k)
        have pre44 : ∀ t, Steps p.tables e below (T42.setTop (mkF m 30 #[.val (.int p1), .val (.int p2), .val (.int z3), .val (.ref w_DATE), .unset, .unset] [(.int (3 : Int32)), (.int z3)])) t → Steps p.tables e below (s₁.setTop (entryFrame m #[(.int p1), (.int p2)] maxLocals)) t := fun t k => pre43 t (by
          show Steps p.tables e below (T42.setTop (mkF m 21 #[.val (.int p1), .val (.int p2), .val (.int z3), .unset, .unset, .unset] [(.ref w_DATE)])) _
          refine XS.astoreN X42.here hx rfl (hb hby at_21) rfl rfl (l' := #[.val (.int p1), .val (.int p2), .val (.int z3), .val (.ref w_DATE), .unset, .unset]) rfl ?_
          show Steps p.tables e below (T42.setTop (mkF m 22 #[.val (.int p1), .val (.int p2), .val (.int z3), .val (.ref w_DATE), .unset, .unset] [])) _
          refine XS.aloadN X42.here hx rfl (hb hby at_22) rfl rfl ?_
          show Steps p.tables e below (T42.setTop (mkF m 23 #[.val (.int p1), .val (.int p2), .val (.int z3), .val (.ref w_DATE), .unset, .unset] [(.ref w_DATE)])) _
          refine XS.ifnonnullYes X42.here hx rfl (pc0 := 23) (pc' := 28) rfl (hb hby at_23) rfl (by decide) (by decide) ?_
          show Steps p.tables e below (T42.setTop (mkF m 28 #[.val (.int p1), .val (.int p2), .val (.int z3), .val (.ref w_DATE), .unset, .unset] [])) _
          refine XS.iloadN X42.here hx rfl (hb hby at_28) rfl ?_
          show Steps p.tables e below (T42.setTop (mkF m 29 #[.val (.int p1), .val (.int p2), .val (.int z3), .val (.ref w_DATE), .unset, .unset] [(.int z3)])) _
          refine XS.iconst X42.here hx rfl (hb hby at_29) ?_
          exact k)
        obtain ⟨_, _, ⟨T45, L45, k45, n45⟩, -, X45, ⟨Lc45, hQ45, l45, y45, z45⟩, st45⟩ := Jvm.LawKit.callS X42 hx (y := (⟨"java/lang/Math", "min", "(II)I"⟩ : MethodName)) hown (mvT hZ (hw _ (List.mem_of_getElem? (i := 6) rfl))) (mvT hZ (hw _ (List.mem_of_getElem? (i := 7) rfl))) (mvT hZ (hw _ (List.mem_of_getElem? (i := 8) rfl))) (mvT hZ (hw _ (List.mem_of_getElem? (i := 9) rfl))) (by decide) (backOf (W := 0) (rm_min l Z a0 hw [] z3 (3 : Int32) h0 n0 Z0 O0) hZ (hw _ (List.mem_of_getElem? (i := 9) rfl)) (hw _ (List.mem_of_getElem? (i := 8) rfl)) (by decide) (by decide)) (g := (mkF m 30 #[.val (.int p1), .val (.int p2), .val (.int z3), .val (.ref w_DATE), .unset, .unset] [(.int (3 : Int32)), (.int z3)])) rfl (by rw [hml]; rfl) (argsL := [(.int z3), (.int (3 : Int32))]) (rest := []) (lenOf pd_2 rfl) rfl (by show 2 * 0 + _ ≤ _; exact Nat.le_of_eq rfl) (hb hby at_30) (fun _ _ => ⟨rfl, e42, (by decide : 0 + 0 ≤ _), (by decide : 0 + 0 ≤ _)⟩)
        dsimp only [Pt.U, Pt.locs, Pt.cells, Pt.slots] at X45 l45 y45 z45 st45 hQ45
        subst l45 y45 z45
        obtain ⟨hv45, N45q, e45⟩ := hQ45
        rw [(show (minF z3 (3 : Int32)) = (2 : Int32) from by rw [hk2]; decide)] at hv45
        subst hv45
        have N45 := Fr.app N42 N45q
        have pre46 : ∀ t, Steps p.tables e below (T45.setTop (mkF m 33 #[.val (.int p1), .val (.int p2), .val (.int z3), .val (.ref w_DATE), .unset, .unset] [(.int (2 : Int32))])) t → Steps p.tables e below (s₁.setTop (entryFrame m #[(.int p1), (.int p2)] maxLocals)) t := fun t k => pre44 t (st45 t k)
        have pre47 : ∀ t, Steps p.tables e below (T45.setTop (mkF m 35 #[.val (.int p1), .val (.int p2), .val (.int z3), .val (.ref w_DATE), .val (.int (2 : Int32)), .unset] [])) t → Steps p.tables e below (s₁.setTop (entryFrame m #[(.int p1), (.int p2)] maxLocals)) t := fun t k => pre46 t (by
          show Steps p.tables e below (T45.setTop (mkF m 33 #[.val (.int p1), .val (.int p2), .val (.int z3), .val (.ref w_DATE), .unset, .unset] [(.int (2 : Int32))])) _
          refine XS.istore X45.here hx rfl (hb hby at_33) rfl (l' := #[.val (.int p1), .val (.int p2), .val (.int z3), .val (.ref w_DATE), .val (.int (2 : Int32)), .unset]) rfl ?_
          exact k)
        obtain ⟨T48, h48, X48, e48, E48, A48, D48, -, st48⟩ := newO X45 hx hZ hown (hw _ (List.mem_of_getElem? (i := 10) rfl)) (hw _ (List.mem_of_getElem? (i := 11) rfl)) (hw _ (List.mem_of_getElem? (i := 12) rfl)) e45 (g := (mkF m 35 #[.val (.int p1), .val (.int p2), .val (.int z3), .val (.ref w_DATE), .val (.int (2 : Int32)), .unset] [])) rfl (hb hby at_35) (by decide) (by decide)
        obtain ⟨b48, g48⟩ : ∃ z, z = h0.size := ⟨_, rfl⟩
        rw [← g48] at A48 D48 st48
        have F_type_b48 : Fld Z h48 b48 "com/example/knit/knit/exslt/SchemaDateTime" "type" "Lcom/example/knit/knit/exslt/SchemaDateTime$Type;" .null := D48 (Or.inr (hw _ (List.mem_of_getElem? (i := 25) rfl))) (ty := (.object "com/example/knit/knit/exslt/SchemaDateTime$Type")) (by decide)
        have F_year_b48 : Fld Z h48 b48 "com/example/knit/knit/exslt/SchemaDateTime" "year" "J" (.long (0 : Int64)) := D48 (Or.inr (hw _ (List.mem_of_getElem? (i := 27) rfl))) (ty := .long) (by decide)
        have F_month_b48 : Fld Z h48 b48 "com/example/knit/knit/exslt/SchemaDateTime" "month" "I" (.int (0 : Int32)) := D48 (Or.inr (hw _ (List.mem_of_getElem? (i := 29) rfl))) (ty := .int) (by decide)
        have F_day_b48 : Fld Z h48 b48 "com/example/knit/knit/exslt/SchemaDateTime" "day" "I" (.int (0 : Int32)) := D48 (Or.inr (hw _ (List.mem_of_getElem? (i := 31) rfl))) (ty := .int) (by decide)
        have F_hour_b48 : Fld Z h48 b48 "com/example/knit/knit/exslt/SchemaDateTime" "hour" "I" (.int (0 : Int32)) := D48 (Or.inr (hw _ (List.mem_of_getElem? (i := 33) rfl))) (ty := .int) (by decide)
        have F_minute_b48 : Fld Z h48 b48 "com/example/knit/knit/exslt/SchemaDateTime" "minute" "I" (.int (0 : Int32)) := D48 (Or.inr (hw _ (List.mem_of_getElem? (i := 35) rfl))) (ty := .int) (by decide)
        have F_second_b48 : Fld Z h48 b48 "com/example/knit/knit/exslt/SchemaDateTime" "second" "Ljava/math/BigDecimal;" .null := D48 (Or.inr (hw _ (List.mem_of_getElem? (i := 37) rfl))) (ty := (.object "java/math/BigDecimal")) (by decide)
        have F_zone_b48 : Fld Z h48 b48 "com/example/knit/knit/exslt/SchemaDateTime" "zone" "I" (.int (0 : Int32)) := D48 (Or.inr (hw _ (List.mem_of_getElem? (i := 39) rfl))) (ty := .int) (by decide)
        have g_b48 : n0 ≤ b48 := Nat.le_trans Z0 (Nat.le_of_eq g48.symm)
        have z_b48 : Z.heap.size ≤ b48 := Nat.le_trans O0.1 (Nat.le_of_eq g48.symm)
        have sz_b48 : h0.size ≤ b48 := Nat.le_trans (Keep.refl h0 []).1 (Nat.le_of_eq g48.symm)
        have K48 := (Keep.refl h0 []).ext E48
        have O48 : Ext Z.heap h48 := own_ext_trans O0 E48
        have Z48 : n0 ≤ h48.size := Nat.le_trans Z0 E48.1
        have pre49 : ∀ t, Steps p.tables e below (T48.setTop (mkF m 38 #[.val (.int p1), .val (.int p2), .val (.int z3), .val (.ref w_DATE), .val (.int (2 : Int32)), .unset] [(.ref b48)])) t → Steps p.tables e below (s₁.setTop (entryFrame m #[(.int p1), (.int p2)] maxLocals)) t := fun t k => pre47 t (st48 t k)
        have pre50 : ∀ t, Steps p.tables e below (T48.setTop (mkF m 47 #[.val (.int p1), .val (.int p2), .val (.int z3), .val (.ref w_DATE), .val (.int (2 : Int32)), .unset] [(.int (0 : Int32)), .null, (.int (0 : Int32)), (.int (0 : Int32)), (.int (1 : Int32)), (.int (1 : Int32)), (.long (1 : Int64)), (.ref w_DATE), (.ref b48), (.ref b48)])) t → Steps p.tables e below (s₁.setTop (entryFrame m #[(.int p1), (.int p2)] maxLocals)) t := fun t k => pre49 t (by
          show Steps p.tables e below (T48.setTop (mkF m 38 #[.val (.int p1), .val (.int p2), .val (.int z3), .val (.ref w_DATE), .val (.int (2 : Int32)), .unset] [(.ref b48)])) _
          refine XS.dup X48.here hx rfl (hb hby at_38) rfl rfl ?_
          show Steps p.tables e below (T48.setTop (mkF m 39 #[.val (.int p1), .val (.int p2), .val (.int z3), .val (.ref w_DATE), .val (.int (2 : Int32)), .unset] [(.ref b48), (.ref b48)])) _
          refine XS.aloadN X48.here hx rfl (hb hby at_39) rfl rfl ?_
          show Steps p.tables e below (T48.setTop (mkF m 40 #[.val (.int p1), .val (.int p2), .val (.int z3), .val (.ref w_DATE), .val (.int (2 : Int32)), .unset] [(.ref w_DATE), (.ref b48), (.ref b48)])) _
          refine XS.lconst X48.here hx rfl (hb hby at_40) ?_
          show Steps p.tables e below (T48.setTop (mkF m 41 #[.val (.int p1), .val (.int p2), .val (.int z3), .val (.ref w_DATE), .val (.int (2 : Int32)), .unset] [(.long (1 : Int64)), (.ref w_DATE), (.ref b48), (.ref b48)])) _
          refine XS.iconst X48.here hx rfl (hb hby at_41) ?_
          show Steps p.tables e below (T48.setTop (mkF m 42 #[.val (.int p1), .val (.int p2), .val (.int z3), .val (.ref w_DATE), .val (.int (2 : Int32)), .unset] [(.int (1 : Int32)), (.long (1 : Int64)), (.ref w_DATE), (.ref b48), (.ref b48)])) _
          refine XS.iconst X48.here hx rfl (hb hby at_42) ?_
          show Steps p.tables e below (T48.setTop (mkF m 43 #[.val (.int p1), .val (.int p2), .val (.int z3), .val (.ref w_DATE), .val (.int (2 : Int32)), .unset] [(.int (1 : Int32)), (.int (1 : Int32)), (.long (1 : Int64)), (.ref w_DATE), (.ref b48), (.ref b48)])) _
          refine XS.iconst X48.here hx rfl (hb hby at_43) ?_
          show Steps p.tables e below (T48.setTop (mkF m 44 #[.val (.int p1), .val (.int p2), .val (.int z3), .val (.ref w_DATE), .val (.int (2 : Int32)), .unset] [(.int (0 : Int32)), (.int (1 : Int32)), (.int (1 : Int32)), (.long (1 : Int64)), (.ref w_DATE), (.ref b48), (.ref b48)])) _
          refine XS.iconst X48.here hx rfl (hb hby at_44) ?_
          show Steps p.tables e below (T48.setTop (mkF m 45 #[.val (.int p1), .val (.int p2), .val (.int z3), .val (.ref w_DATE), .val (.int (2 : Int32)), .unset] [(.int (0 : Int32)), (.int (0 : Int32)), (.int (1 : Int32)), (.int (1 : Int32)), (.long (1 : Int64)), (.ref w_DATE), (.ref b48), (.ref b48)])) _
          refine XS.aconstNull X48.here hx rfl (hb hby at_45) ?_
          show Steps p.tables e below (T48.setTop (mkF m 46 #[.val (.int p1), .val (.int p2), .val (.int z3), .val (.ref w_DATE), .val (.int (2 : Int32)), .unset] [.null, (.int (0 : Int32)), (.int (0 : Int32)), (.int (1 : Int32)), (.int (1 : Int32)), (.long (1 : Int64)), (.ref w_DATE), (.ref b48), (.ref b48)])) _
          refine XS.iconst X48.here hx rfl (hb hby at_46) ?_
          exact k)
        obtain ⟨_, _, ⟨T51, L51, k51, n51⟩, -, X51, ⟨Lc51, hQ51, l51, y51, z51⟩, st51⟩ := X48.specialBack hx (y := (⟨"com/example/knit/knit/exslt/SchemaDateTime", "<init>", "(Lcom/example/knit/knit/exslt/SchemaDateTime$Type;JIIIILjava/math/BigDecimal;I)V"⟩ : MethodName)) rfl hown (mvT hZ (hw _ (List.mem_of_getElem? (i := 13) rfl))) (mvT hZ (hw _ (List.mem_of_getElem? (i := 14) rfl))) (mvT hZ (hw _ (List.mem_of_getElem? (i := 15) rfl))) (by decide) (backOf (W := 1) (rm_sd l Z a0 hw [] b48 w_DATE (1 : Int64) (1 : Int32) (1 : Int32) (0 : Int32) (0 : Int32) (0 : Int32) h48 n0 Z48 O48 A48 F_type_b48 F_year_b48 F_month_b48 F_day_b48 F_hour_b48 F_minute_b48 F_second_b48 F_zone_b48 g_b48 z_b48) hZ (hw _ (List.mem_of_getElem? (i := 15) rfl)) (hw _ (List.mem_of_getElem? (i := 12) rfl)) (by decide) (by decide)) (g := (mkF m 47 #[.val (.int p1), .val (.int p2), .val (.int z3), .val (.ref w_DATE), .val (.int (2 : Int32)), .unset] [(.int (0 : Int32)), .null, (.int (0 : Int32)), (.int (0 : Int32)), (.int (1 : Int32)), (.int (1 : Int32)), (.long (1 : Int64)), (.ref w_DATE), (.ref b48), (.ref b48)])) rfl (by rw [hml]; rfl) (Steps.refl _) (a := b48) (argsL := [(.ref w_DATE), (.long (1 : Int64)), (.int (1 : Int32)), (.int (1 : Int32)), (.int (0 : Int32)), (.int (0 : Int32)), .null, (.int (0 : Int32))]) (rest := [(.ref b48)]) (lenOf pd_3 rfl) rfl (by show 2 * 0 + _ ≤ _; exact Nat.le_of_eq rfl) (hb hby at_47) (fun _ _ => ⟨rfl, e48, (by decide : 1 + 0 ≤ _), (by decide : 8 + 0 ≤ _)⟩)
        dsimp only [Pt.U, Pt.locs, Pt.cells, Pt.slots] at X51 l51 y51 z51 st51 hQ51
        subst l51 y51 z51
        obtain ⟨rfl, N51q, Kq51, r51_0, r51_1⟩ := hQ51
        have O51 : Ext Z.heap T51.heap := own_ext_keep O48 Kq51 (allS z_b48 all0)
        have K51 := K48.trans Kq51 (allS (Or.inr sz_b48) all0)
        have Z51 : n0 ≤ T51.heap.size := Nat.le_trans Z48 Kq51.1
        have N51 := Fr.app N45 N51q
        have pre52 : ∀ t, Steps p.tables e below (T51.setTop (mkF m 50 #[.val (.int p1), .val (.int p2), .val (.int z3), .val (.ref w_DATE), .val (.int (2 : Int32)), .unset] [(.ref b48)])) t → Steps p.tables e below (s₁.setTop (entryFrame m #[(.int p1), (.int p2)] maxLocals)) t := fun t k => pre50 t (st51.trans k)
        have pre53 : ∀ t, Steps p.tables e below (T51.setTop (mkF m 53 #[.val (.int p1), .val (.int p2), .val (.int z3), .val (.ref w_DATE), .val (.int (2 : Int32)), .val (.ref b48)] [(.ref w_DATE)])) t → Steps p.tables e below (s₁.setTop (entryFrame m #[(.int p1), (.int p2)] maxLocals)) t := fun t k => pre52 t (by
          show Steps p.tables e below (T51.setTop (mkF m 50 #[.val (.int p1), .val (.int p2), .val (.int z3), .val (.ref w_DATE), .val (.int (2 : Int32)), .unset] [(.ref b48)])) _
          refine XS.astore X51.here hx rfl (hb hby at_50) rfl rfl (l' := #[.val (.int p1), .val (.int p2), .val (.int z3), .val (.ref w_DATE), .val (.int (2 : Int32)), .val (.ref b48)]) rfl ?_
          show Steps p.tables e below (T51.setTop (mkF m 52 #[.val (.int p1), .val (.int p2), .val (.int z3), .val (.ref w_DATE), .val (.int (2 : Int32)), .val (.ref b48)] [])) _
          refine XS.aloadN X51.here hx rfl (hb hby at_52) rfl rfl ?_
          exact k)
        obtain ⟨cq54, kq54, q54a, q54b, q54c⟩ := isOf hZ rfl (Exa.ext O51 E_DATE)
        obtain ⟨_, _, ⟨T54, L54, k54, n54⟩, -, X54, ⟨Lc54, hQ54, l54, y54, z54⟩, st54⟩ := X51.virtualBack hx (y := (⟨"com/example/knit/knit/exslt/SchemaDateTime$Type", "precision", "()I"⟩ : MethodName)) (z := (⟨"com/example/knit/knit/exslt/SchemaDateTime$Type", "precision", "()I"⟩ : MethodName)) hown (mvT hZ (hw _ (List.mem_of_getElem? (i := 40) rfl))) (mvT hZ (hw _ (List.mem_of_getElem? (i := 41) rfl))) (notFace_of_selects (args := #[]) (mvT hZ (hw _ (List.mem_of_getElem? (i := 43) rfl)))) (mvT hZ (hw _ (List.mem_of_getElem? (i := 43) rfl))) (mvT hZ (hw _ (List.mem_of_getElem? (i := 42) rfl))) (by decide) (backOf (W := 0) (rm_prec l Z a0 hw [] w_DATE (1 : Int32) (1 : Int32) (0 : Int32) T51.heap n0 Z51 O51 (Fld.ext O51 F_hasMonth_DATE) (Fld.ext O51 F_hasDay_DATE) (Fld.ext O51 F_hasTime_DATE)) hZ (hw _ (List.mem_of_getElem? (i := 44) rfl)) (hw _ (List.mem_of_getElem? (i := 2) rfl)) (by decide) (by decide)) q54a q54c (g := (mkF m 53 #[.val (.int p1), .val (.int p2), .val (.int z3), .val (.ref w_DATE), .val (.int (2 : Int32)), .val (.ref b48)] [(.ref w_DATE)])) rfl (by rw [hml]; rfl) (Steps.refl _) (argsL := []) (rest := []) (lenOf pd_4 rfl) rfl (by show 2 * 0 + _ ≤ _; exact Nat.le_of_eq rfl) (hb hby at_53) (fun _ _ => ⟨rfl, rfl, (by decide : 1 + 0 ≤ _), (by decide : 8 + 0 ≤ _)⟩)
        dsimp only [Pt.U, Pt.locs, Pt.cells, Pt.slots] at X54 l54 y54 z54 st54 hQ54
        subst l54 y54 z54
        obtain ⟨hv54, N54q, e54⟩ := hQ54
        rw [(show ((bF (1 : Int32) + bF (1 : Int32)) + bF (0 : Int32)) = (2 : Int32) from by decide)] at hv54
        subst hv54
        have N54 := Fr.app N51 N54q
        have pre55 : ∀ t, Steps p.tables e below (T54.setTop (mkF m 56 #[.val (.int p1), .val (.int p2), .val (.int z3), .val (.ref w_DATE), .val (.int (2 : Int32)), .val (.ref b48)] [(.int (2 : Int32))])) t → Steps p.tables e below (s₁.setTop (entryFrame m #[(.int p1), (.int p2)] maxLocals)) t := fun t k => pre53 t (st54.trans k)
        have pre56 : ∀ t, Steps p.tables e below (T54.setTop (mkF m 63 #[.val (.int p1), .val (.int p2), .val (.int z3), .val (.ref w_DATE), .val (.int (2 : Int32)), .val (.ref b48)] [(.ref b48)])) t → Steps p.tables e below (s₁.setTop (entryFrame m #[(.int p1), (.int p2)] maxLocals)) t := fun t k => pre55 t (by
          show Steps p.tables e below (T54.setTop (mkF m 56 #[.val (.int p1), .val (.int p2), .val (.int z3), .val (.ref w_DATE), .val (.int (2 : Int32)), .val (.ref b48)] [(.int (2 : Int32))])) _
          refine XS.iload X54.here hx rfl (hb hby at_56) rfl ?_
          show Steps p.tables e below (T54.setTop (mkF m 58 #[.val (.int p1), .val (.int p2), .val (.int z3), .val (.ref w_DATE), .val (.int (2 : Int32)), .val (.ref b48)] [(.int (2 : Int32)), (.int (2 : Int32))])) _
          refine XS.icmpNo X54.here hx rfl (hb hby at_58) rfl (teq (by decide : (2 : Int32) = (2 : Int32))).2 ?_
          show Steps p.tables e below (T54.setTop (mkF m 61 #[.val (.int p1), .val (.int p2), .val (.int z3), .val (.ref w_DATE), .val (.int (2 : Int32)), .val (.ref b48)] [])) _
          refine XS.aload X54.here hx rfl (hb hby at_61) rfl rfl ?_
          exact k)
        obtain ⟨cq57, kq57, q57a, q57b, q57c⟩ := isOf hZ e54 r51_0
        obtain ⟨_, _, ⟨T57, L57, k57, n57⟩, -, X57, ⟨Lc57, hQ57, l57, y57, z57⟩, st57⟩ := X54.virtualBack hx (y := (⟨"com/example/knit/knit/exslt/SchemaDateTime", "hasYear", "()Z"⟩ : MethodName)) (z := (⟨"com/example/knit/knit/exslt/SchemaDateTime", "hasYear", "()Z"⟩ : MethodName)) hown (mvT hZ (hw _ (List.mem_of_getElem? (i := 51) rfl))) (mvT hZ (hw _ (List.mem_of_getElem? (i := 52) rfl))) (notFace_of_selects (args := #[]) (mvT hZ (hw _ (List.mem_of_getElem? (i := 54) rfl)))) (mvT hZ (hw _ (List.mem_of_getElem? (i := 54) rfl))) (mvT hZ (hw _ (List.mem_of_getElem? (i := 53) rfl))) (by decide) (backOf (W := 0) (rm_hy l Z a0 hw [] b48 w_DATE T51.heap n0 Z51 O51 r51_1 (Fld.ext O51 F_hasYear_DATE)) hZ (hw _ (List.mem_of_getElem? (i := 55) rfl)) (hw _ (List.mem_of_getElem? (i := 12) rfl)) (by decide) (by decide)) q57a q57c (g := (mkF m 63 #[.val (.int p1), .val (.int p2), .val (.int z3), .val (.ref w_DATE), .val (.int (2 : Int32)), .val (.ref b48)] [(.ref b48)])) rfl (by rw [hml]; rfl) (Steps.refl _) (argsL := []) (rest := []) (lenOf pd_5 rfl) rfl (by show 2 * 0 + _ ≤ _; exact Nat.le_of_eq rfl) (hb hby at_63) (fun _ _ => ⟨rfl, e54, (by decide : 1 + 0 ≤ _), (by decide : 8 + 0 ≤ _)⟩)
        dsimp only [Pt.U, Pt.locs, Pt.cells, Pt.slots] at X57 l57 y57 z57 st57 hQ57
        subst l57 y57 z57
        obtain ⟨rfl, N57q, e57⟩ := hQ57
        have N57 := Fr.app N54 N57q
        have pre58 : ∀ t, Steps p.tables e below (T57.setTop (mkF m 66 #[.val (.int p1), .val (.int p2), .val (.int z3), .val (.ref w_DATE), .val (.int (2 : Int32)), .val (.ref b48)] [(.int (1 : Int32))])) t → Steps p.tables e below (s₁.setTop (entryFrame m #[(.int p1), (.int p2)] maxLocals)) t := fun t k => pre56 t (st57.trans k)
        have pre59 : ∀ t, Steps p.tables e below (T57.setTop (mkF m 74 #[.val (.int p1), .val (.int p2), .val (.int z3), .val (.ref w_DATE), .val (.int (2 : Int32)), .val (.ref b48)] [(.int (1 : Int32))])) t → Steps p.tables e below (s₁.setTop (entryFrame m #[(.int p1), (.int p2)] maxLocals)) t := fun t k => pre58 t (by
          show Steps p.tables e below (T57.setTop (mkF m 66 #[.val (.int p1), .val (.int p2), .val (.int z3), .val (.ref w_DATE), .val (.int (2 : Int32)), .val (.ref b48)] [(.int (1 : Int32))])) _
          refine XS.ifNo X57.here hx rfl (hb hby at_66) rfl ((if0 _ _).trans (feq (by decide : ¬ ((1 : Int32) = (0 : Int32)))).1) ?_
          show Steps p.tables e below (T57.setTop (mkF m 69 #[.val (.int p1), .val (.int p2), .val (.int z3), .val (.ref w_DATE), .val (.int (2 : Int32)), .val (.ref b48)] [])) _
          refine XS.iconst X57.here hx rfl (hb hby at_69) ?_
          show Steps p.tables e below (T57.setTop (mkF m 70 #[.val (.int p1), .val (.int p2), .val (.int z3), .val (.ref w_DATE), .val (.int (2 : Int32)), .val (.ref b48)] [(.int (1 : Int32))])) _
          refine XS.goto X57.here hx rfl (pc0 := 70) (pc' := 74) rfl (hb hby at_70) (by decide) (by decide) ?_
          exact k)
        obtain ⟨fs, hr, hrun, hended, hW, hsame⟩ := X57.leave (v := some (.int (1 : Int32))) (fun h => by rw [Bd.returns] at h; cases h)
        refine ⟨_, _, pre59 _ ?_, hrun, hended, _, _, rfl, ?_, ⟨_, rfl⟩, hW, hsame.mono (by decide) (by decide)⟩
        · exact retN X57 hx (t := .boolean) Bd.returns (by simp) (hb hby at_74) hr
        · show Q_rm_law Z p1 p2 w_G_YEAR w_DATE w_DATE_TIME w_G_YEAR_MONTH h0 n0 _ T57.heap _
          rw [e57]
          exact ⟨rfl, N57⟩
      · obtain ⟨_, _, ⟨T60, L60, k60, n60⟩, -, X60, ⟨Lc60, hQ60, l60, y60, z60⟩, st60⟩ := Jvm.LawKit.callS X0 hx (y := (⟨"com/example/knit/knit/exslt/SchemaDateTime$Type", "ofPrecision", "(I)Lcom/example/knit/knit/exslt/SchemaDateTime$Type;"⟩ : MethodName)) hown (mvT hZ (hw _ (List.mem_of_getElem? (i := 0) rfl))) (mvT hZ (hw _ (List.mem_of_getElem? (i := 1) rfl))) (mvT hZ (hw _ (List.mem_of_getElem? (i := 2) rfl))) (mvT hZ (hw _ (List.mem_of_getElem? (i := 3) rfl))) (by decide) (backOf (W := 0) (rm_ofp l Z a0 hw [] z3 w_G_YEAR w_DATE w_DATE_TIME w_G_YEAR_MONTH h0 n0 Z0 O0 P') hZ (hw _ (List.mem_of_getElem? (i := 3) rfl)) (hw _ (List.mem_of_getElem? (i := 2) rfl)) (by decide) (by decide)) (g := (mkF m 18 #[.val (.int p1), .val (.int p2), .val (.int z3), .unset, .unset, .unset] [(.int z3)])) rfl (by rw [hml]; rfl) (argsL := [(.int z3)]) (rest := []) (lenOf pd_1 rfl) rfl (by show 2 * 0 + _ ≤ _; exact Nat.le_of_eq rfl) (hb hby at_18) (fun _ _ => ⟨rfl, e0, (by decide : 0 + 0 ≤ _), (by decide : 0 + 0 ≤ _)⟩)
        dsimp only [Pt.U, Pt.locs, Pt.cells, Pt.slots] at X60 l60 y60 z60 st60 hQ60
        subst l60 y60 z60
        obtain ⟨hv60, N60q, e60⟩ := hQ60
        rw [(show (if z3 = (0 : Int32) then w_G_YEAR else if z3 = (1 : Int32) then w_G_YEAR_MONTH else if z3 = (2 : Int32) then w_DATE else w_DATE_TIME) = w_DATE_TIME from by rw [if_neg hk0, if_neg hk1, if_neg hk2])] at hv60
        subst hv60
        have N60 := Fr.app N0 N60q
        have pre61 : ∀ t, Steps p.tables e below (T60.setTop (mkF m 21 #[.val (.int p1), .val (.int p2), .val (.int z3), .unset, .unset, .unset] [(.ref w_DATE_TIME)])) t → Steps p.tables e below (s₁.setTop (entryFrame m #[(.int p1), (.int p2)] maxLocals)) t := fun t k => pre5 t (st60 t k)
        have pre62 : ∀ t, Steps p.tables e below (T60.setTop (mkF m 30 #[.val (.int p1), .val (.int p2), .val (.int z3), .val (.ref w_DATE_TIME), .unset, .unset] [(.int (3 : Int32)), (.int z3)])) t → Steps p.tables e below (s₁.setTop (entryFrame m #[(.int p1), (.int p2)] maxLocals)) t := fun t k => pre61 t (by
          show Steps p.tables e below (T60.setTop (mkF m 21 #[.val (.int p1), .val (.int p2), .val (.int z3), .unset, .unset, .unset] [(.ref w_DATE_TIME)])) _
          refine XS.astoreN X60.here hx rfl (hb hby at_21) rfl rfl (l' := #[.val (.int p1), .val (.int p2), .val (.int z3), .val (.ref w_DATE_TIME), .unset, .unset]) rfl ?_
          show Steps p.tables e below (T60.setTop (mkF m 22 #[.val (.int p1), .val (.int p2), .val (.int z3), .val (.ref w_DATE_TIME), .unset, .unset] [])) _
          refine XS.aloadN X60.here hx rfl (hb hby at_22) rfl rfl ?_
          show Steps p.tables e below (T60.setTop (mkF m 23 #[.val (.int p1), .val (.int p2), .val (.int z3), .val (.ref w_DATE_TIME), .unset, .unset] [(.ref w_DATE_TIME)])) _
          refine XS.ifnonnullYes X60.here hx rfl (pc0 := 23) (pc' := 28) rfl (hb hby at_23) rfl (by decide) (by decide) ?_
          show Steps p.tables e below (T60.setTop (mkF m 28 #[.val (.int p1), .val (.int p2), .val (.int z3), .val (.ref w_DATE_TIME), .unset, .unset] [])) _
          refine XS.iloadN X60.here hx rfl (hb hby at_28) rfl ?_
          show Steps p.tables e below (T60.setTop (mkF m 29 #[.val (.int p1), .val (.int p2), .val (.int z3), .val (.ref w_DATE_TIME), .unset, .unset] [(.int z3)])) _
          refine XS.iconst X60.here hx rfl (hb hby at_29) ?_
          exact k)
        obtain ⟨_, _, ⟨T63, L63, k63, n63⟩, -, X63, ⟨Lc63, hQ63, l63, y63, z63⟩, st63⟩ := Jvm.LawKit.callS X60 hx (y := (⟨"java/lang/Math", "min", "(II)I"⟩ : MethodName)) hown (mvT hZ (hw _ (List.mem_of_getElem? (i := 6) rfl))) (mvT hZ (hw _ (List.mem_of_getElem? (i := 7) rfl))) (mvT hZ (hw _ (List.mem_of_getElem? (i := 8) rfl))) (mvT hZ (hw _ (List.mem_of_getElem? (i := 9) rfl))) (by decide) (backOf (W := 0) (rm_min l Z a0 hw [] z3 (3 : Int32) h0 n0 Z0 O0) hZ (hw _ (List.mem_of_getElem? (i := 9) rfl)) (hw _ (List.mem_of_getElem? (i := 8) rfl)) (by decide) (by decide)) (g := (mkF m 30 #[.val (.int p1), .val (.int p2), .val (.int z3), .val (.ref w_DATE_TIME), .unset, .unset] [(.int (3 : Int32)), (.int z3)])) rfl (by rw [hml]; rfl) (argsL := [(.int z3), (.int (3 : Int32))]) (rest := []) (lenOf pd_2 rfl) rfl (by show 2 * 0 + _ ≤ _; exact Nat.le_of_eq rfl) (hb hby at_30) (fun _ _ => ⟨rfl, e60, (by decide : 0 + 0 ≤ _), (by decide : 0 + 0 ≤ _)⟩)
        dsimp only [Pt.U, Pt.locs, Pt.cells, Pt.slots] at X63 l63 y63 z63 st63 hQ63
        subst l63 y63 z63
        obtain ⟨hv63, N63q, e63⟩ := hQ63
        rw [(show (minF z3 (3 : Int32)) = (3 : Int32) from own_min3 hnn hk0 hk1 hk2)] at hv63
        subst hv63
        have N63 := Fr.app N60 N63q
        have pre64 : ∀ t, Steps p.tables e below (T63.setTop (mkF m 33 #[.val (.int p1), .val (.int p2), .val (.int z3), .val (.ref w_DATE_TIME), .unset, .unset] [(.int (3 : Int32))])) t → Steps p.tables e below (s₁.setTop (entryFrame m #[(.int p1), (.int p2)] maxLocals)) t := fun t k => pre62 t (st63 t k)
        have pre65 : ∀ t, Steps p.tables e below (T63.setTop (mkF m 35 #[.val (.int p1), .val (.int p2), .val (.int z3), .val (.ref w_DATE_TIME), .val (.int (3 : Int32)), .unset] [])) t → Steps p.tables e below (s₁.setTop (entryFrame m #[(.int p1), (.int p2)] maxLocals)) t := fun t k => pre64 t (by
          show Steps p.tables e below (T63.setTop (mkF m 33 #[.val (.int p1), .val (.int p2), .val (.int z3), .val (.ref w_DATE_TIME), .unset, .unset] [(.int (3 : Int32))])) _
          refine XS.istore X63.here hx rfl (hb hby at_33) rfl (l' := #[.val (.int p1), .val (.int p2), .val (.int z3), .val (.ref w_DATE_TIME), .val (.int (3 : Int32)), .unset]) rfl ?_
          exact k)
        obtain ⟨T66, h66, X66, e66, E66, A66, D66, -, st66⟩ := newO X63 hx hZ hown (hw _ (List.mem_of_getElem? (i := 10) rfl)) (hw _ (List.mem_of_getElem? (i := 11) rfl)) (hw _ (List.mem_of_getElem? (i := 12) rfl)) e63 (g := (mkF m 35 #[.val (.int p1), .val (.int p2), .val (.int z3), .val (.ref w_DATE_TIME), .val (.int (3 : Int32)), .unset] [])) rfl (hb hby at_35) (by decide) (by decide)
        obtain ⟨b66, g66⟩ : ∃ z, z = h0.size := ⟨_, rfl⟩
        rw [← g66] at A66 D66 st66
        have F_type_b66 : Fld Z h66 b66 "com/example/knit/knit/exslt/SchemaDateTime" "type" "Lcom/example/knit/knit/exslt/SchemaDateTime$Type;" .null := D66 (Or.inr (hw _ (List.mem_of_getElem? (i := 25) rfl))) (ty := (.object "com/example/knit/knit/exslt/SchemaDateTime$Type")) (by decide)
        have F_year_b66 : Fld Z h66 b66 "com/example/knit/knit/exslt/SchemaDateTime" "year" "J" (.long (0 : Int64)) := D66 (Or.inr (hw _ (List.mem_of_getElem? (i := 27) rfl))) (ty := .long) (by decide)
        have F_month_b66 : Fld Z h66 b66 "com/example/knit/knit/exslt/SchemaDateTime" "month" "I" (.int (0 : Int32)) := D66 (Or.inr (hw _ (List.mem_of_getElem? (i := 29) rfl))) (ty := .int) (by decide)
        have F_day_b66 : Fld Z h66 b66 "com/example/knit/knit/exslt/SchemaDateTime" "day" "I" (.int (0 : Int32)) := D66 (Or.inr (hw _ (List.mem_of_getElem? (i := 31) rfl))) (ty := .int) (by decide)
        have F_hour_b66 : Fld Z h66 b66 "com/example/knit/knit/exslt/SchemaDateTime" "hour" "I" (.int (0 : Int32)) := D66 (Or.inr (hw _ (List.mem_of_getElem? (i := 33) rfl))) (ty := .int) (by decide)
        have F_minute_b66 : Fld Z h66 b66 "com/example/knit/knit/exslt/SchemaDateTime" "minute" "I" (.int (0 : Int32)) := D66 (Or.inr (hw _ (List.mem_of_getElem? (i := 35) rfl))) (ty := .int) (by decide)
        have F_second_b66 : Fld Z h66 b66 "com/example/knit/knit/exslt/SchemaDateTime" "second" "Ljava/math/BigDecimal;" .null := D66 (Or.inr (hw _ (List.mem_of_getElem? (i := 37) rfl))) (ty := (.object "java/math/BigDecimal")) (by decide)
        have F_zone_b66 : Fld Z h66 b66 "com/example/knit/knit/exslt/SchemaDateTime" "zone" "I" (.int (0 : Int32)) := D66 (Or.inr (hw _ (List.mem_of_getElem? (i := 39) rfl))) (ty := .int) (by decide)
        have g_b66 : n0 ≤ b66 := Nat.le_trans Z0 (Nat.le_of_eq g66.symm)
        have z_b66 : Z.heap.size ≤ b66 := Nat.le_trans O0.1 (Nat.le_of_eq g66.symm)
        have sz_b66 : h0.size ≤ b66 := Nat.le_trans (Keep.refl h0 []).1 (Nat.le_of_eq g66.symm)
        have K66 := (Keep.refl h0 []).ext E66
        have O66 : Ext Z.heap h66 := own_ext_trans O0 E66
        have Z66 : n0 ≤ h66.size := Nat.le_trans Z0 E66.1
        have pre67 : ∀ t, Steps p.tables e below (T66.setTop (mkF m 38 #[.val (.int p1), .val (.int p2), .val (.int z3), .val (.ref w_DATE_TIME), .val (.int (3 : Int32)), .unset] [(.ref b66)])) t → Steps p.tables e below (s₁.setTop (entryFrame m #[(.int p1), (.int p2)] maxLocals)) t := fun t k => pre65 t (st66 t k)
        have pre68 : ∀ t, Steps p.tables e below (T66.setTop (mkF m 47 #[.val (.int p1), .val (.int p2), .val (.int z3), .val (.ref w_DATE_TIME), .val (.int (3 : Int32)), .unset] [(.int (0 : Int32)), .null, (.int (0 : Int32)), (.int (0 : Int32)), (.int (1 : Int32)), (.int (1 : Int32)), (.long (1 : Int64)), (.ref w_DATE_TIME), (.ref b66), (.ref b66)])) t → Steps p.tables e below (s₁.setTop (entryFrame m #[(.int p1), (.int p2)] maxLocals)) t := fun t k => pre67 t (by
          show Steps p.tables e below (T66.setTop (mkF m 38 #[.val (.int p1), .val (.int p2), .val (.int z3), .val (.ref w_DATE_TIME), .val (.int (3 : Int32)), .unset] [(.ref b66)])) _
          refine XS.dup X66.here hx rfl (hb hby at_38) rfl rfl ?_
          show Steps p.tables e below (T66.setTop (mkF m 39 #[.val (.int p1), .val (.int p2), .val (.int z3), .val (.ref w_DATE_TIME), .val (.int (3 : Int32)), .unset] [(.ref b66), (.ref b66)])) _
          refine XS.aloadN X66.here hx rfl (hb hby at_39) rfl rfl ?_
          show Steps p.tables e below (T66.setTop (mkF m 40 #[.val (.int p1), .val (.int p2), .val (.int z3), .val (.ref w_DATE_TIME), .val (.int (3 : Int32)), .unset] [(.ref w_DATE_TIME), (.ref b66), (.ref b66)])) _
          refine XS.lconst X66.here hx rfl (hb hby at_40) ?_
          show Steps p.tables e below (T66.setTop (mkF m 41 #[.val (.int p1), .val (.int p2), .val (.int z3), .val (.ref w_DATE_TIME), .val (.int (3 : Int32)), .unset] [(.long (1 : Int64)), (.ref w_DATE_TIME), (.ref b66), (.ref b66)])) _
          refine XS.iconst X66.here hx rfl (hb hby at_41) ?_
          show Steps p.tables e below (T66.setTop (mkF m 42 #[.val (.int p1), .val (.int p2), .val (.int z3), .val (.ref w_DATE_TIME), .val (.int (3 : Int32)), .unset] [(.int (1 : Int32)), (.long (1 : Int64)), (.ref w_DATE_TIME), (.ref b66), (.ref b66)])) _
          refine XS.iconst X66.here hx rfl (hb hby at_42) ?_
          show Steps p.tables e below (T66.setTop (mkF m 43 #[.val (.int p1), .val (.int p2), .val (.int z3), .val (.ref w_DATE_TIME), .val (.int (3 : Int32)), .unset] [(.int (1 : Int32)), (.int (1 : Int32)), (.long (1 : Int64)), (.ref w_DATE_TIME), (.ref b66), (.ref b66)])) _
          refine XS.iconst X66.here hx rfl (hb hby at_43) ?_
          show Steps p.tables e below (T66.setTop (mkF m 44 #[.val (.int p1), .val (.int p2), .val (.int z3), .val (.ref w_DATE_TIME), .val (.int (3 : Int32)), .unset] [(.int (0 : Int32)), (.int (1 : Int32)), (.int (1 : Int32)), (.long (1 : Int64)), (.ref w_DATE_TIME), (.ref b66), (.ref b66)])) _
          refine XS.iconst X66.here hx rfl (hb hby at_44) ?_
          show Steps p.tables e below (T66.setTop (mkF m 45 #[.val (.int p1), .val (.int p2), .val (.int z3), .val (.ref w_DATE_TIME), .val (.int (3 : Int32)), .unset] [(.int (0 : Int32)), (.int (0 : Int32)), (.int (1 : Int32)), (.int (1 : Int32)), (.long (1 : Int64)), (.ref w_DATE_TIME), (.ref b66), (.ref b66)])) _
          refine XS.aconstNull X66.here hx rfl (hb hby at_45) ?_
          show Steps p.tables e below (T66.setTop (mkF m 46 #[.val (.int p1), .val (.int p2), .val (.int z3), .val (.ref w_DATE_TIME), .val (.int (3 : Int32)), .unset] [.null, (.int (0 : Int32)), (.int (0 : Int32)), (.int (1 : Int32)), (.int (1 : Int32)), (.long (1 : Int64)), (.ref w_DATE_TIME), (.ref b66), (.ref b66)])) _
          refine XS.iconst X66.here hx rfl (hb hby at_46) ?_
          exact k)
        obtain ⟨_, _, ⟨T69, L69, k69, n69⟩, -, X69, ⟨Lc69, hQ69, l69, y69, z69⟩, st69⟩ := X66.specialBack hx (y := (⟨"com/example/knit/knit/exslt/SchemaDateTime", "<init>", "(Lcom/example/knit/knit/exslt/SchemaDateTime$Type;JIIIILjava/math/BigDecimal;I)V"⟩ : MethodName)) rfl hown (mvT hZ (hw _ (List.mem_of_getElem? (i := 13) rfl))) (mvT hZ (hw _ (List.mem_of_getElem? (i := 14) rfl))) (mvT hZ (hw _ (List.mem_of_getElem? (i := 15) rfl))) (by decide) (backOf (W := 1) (rm_sd l Z a0 hw [] b66 w_DATE_TIME (1 : Int64) (1 : Int32) (1 : Int32) (0 : Int32) (0 : Int32) (0 : Int32) h66 n0 Z66 O66 A66 F_type_b66 F_year_b66 F_month_b66 F_day_b66 F_hour_b66 F_minute_b66 F_second_b66 F_zone_b66 g_b66 z_b66) hZ (hw _ (List.mem_of_getElem? (i := 15) rfl)) (hw _ (List.mem_of_getElem? (i := 12) rfl)) (by decide) (by decide)) (g := (mkF m 47 #[.val (.int p1), .val (.int p2), .val (.int z3), .val (.ref w_DATE_TIME), .val (.int (3 : Int32)), .unset] [(.int (0 : Int32)), .null, (.int (0 : Int32)), (.int (0 : Int32)), (.int (1 : Int32)), (.int (1 : Int32)), (.long (1 : Int64)), (.ref w_DATE_TIME), (.ref b66), (.ref b66)])) rfl (by rw [hml]; rfl) (Steps.refl _) (a := b66) (argsL := [(.ref w_DATE_TIME), (.long (1 : Int64)), (.int (1 : Int32)), (.int (1 : Int32)), (.int (0 : Int32)), (.int (0 : Int32)), .null, (.int (0 : Int32))]) (rest := [(.ref b66)]) (lenOf pd_3 rfl) rfl (by show 2 * 0 + _ ≤ _; exact Nat.le_of_eq rfl) (hb hby at_47) (fun _ _ => ⟨rfl, e66, (by decide : 1 + 0 ≤ _), (by decide : 8 + 0 ≤ _)⟩)
        dsimp only [Pt.U, Pt.locs, Pt.cells, Pt.slots] at X69 l69 y69 z69 st69 hQ69
        subst l69 y69 z69
        obtain ⟨rfl, N69q, Kq69, r69_0, r69_1⟩ := hQ69
        have O69 : Ext Z.heap T69.heap := own_ext_keep O66 Kq69 (allS z_b66 all0)
        have K69 := K66.trans Kq69 (allS (Or.inr sz_b66) all0)
        have Z69 : n0 ≤ T69.heap.size := Nat.le_trans Z66 Kq69.1
        have N69 := Fr.app N63 N69q
        have pre70 : ∀ t, Steps p.tables e below (T69.setTop (mkF m 50 #[.val (.int p1), .val (.int p2), .val (.int z3), .val (.ref w_DATE_TIME), .val (.int (3 : Int32)), .unset] [(.ref b66)])) t → Steps p.tables e below (s₁.setTop (entryFrame m #[(.int p1), (.int p2)] maxLocals)) t := fun t k => pre68 t (st69.trans k)
        have pre71 : ∀ t, Steps p.tables e below (T69.setTop (mkF m 53 #[.val (.int p1), .val (.int p2), .val (.int z3), .val (.ref w_DATE_TIME), .val (.int (3 : Int32)), .val (.ref b66)] [(.ref w_DATE_TIME)])) t → Steps p.tables e below (s₁.setTop (entryFrame m #[(.int p1), (.int p2)] maxLocals)) t := fun t k => pre70 t (by
          show Steps p.tables e below (T69.setTop (mkF m 50 #[.val (.int p1), .val (.int p2), .val (.int z3), .val (.ref w_DATE_TIME), .val (.int (3 : Int32)), .unset] [(.ref b66)])) _
          refine XS.astore X69.here hx rfl (hb hby at_50) rfl rfl (l' := #[.val (.int p1), .val (.int p2), .val (.int z3), .val (.ref w_DATE_TIME), .val (.int (3 : Int32)), .val (.ref b66)]) rfl ?_
          show Steps p.tables e below (T69.setTop (mkF m 52 #[.val (.int p1), .val (.int p2), .val (.int z3), .val (.ref w_DATE_TIME), .val (.int (3 : Int32)), .val (.ref b66)] [])) _
          refine XS.aloadN X69.here hx rfl (hb hby at_52) rfl rfl ?_
          exact k)
        obtain ⟨cq72, kq72, q72a, q72b, q72c⟩ := isOf hZ rfl (Exa.ext O69 E_DATE_TIME)
        obtain ⟨_, _, ⟨T72, L72, k72, n72⟩, -, X72, ⟨Lc72, hQ72, l72, y72, z72⟩, st72⟩ := X69.virtualBack hx (y := (⟨"com/example/knit/knit/exslt/SchemaDateTime$Type", "precision", "()I"⟩ : MethodName)) (z := (⟨"com/example/knit/knit/exslt/SchemaDateTime$Type", "precision", "()I"⟩ : MethodName)) hown (mvT hZ (hw _ (List.mem_of_getElem? (i := 40) rfl))) (mvT hZ (hw _ (List.mem_of_getElem? (i := 41) rfl))) (notFace_of_selects (args := #[]) (mvT hZ (hw _ (List.mem_of_getElem? (i := 43) rfl)))) (mvT hZ (hw _ (List.mem_of_getElem? (i := 43) rfl))) (mvT hZ (hw _ (List.mem_of_getElem? (i := 42) rfl))) (by decide) (backOf (W := 0) (rm_prec l Z a0 hw [] w_DATE_TIME (1 : Int32) (1 : Int32) (1 : Int32) T69.heap n0 Z69 O69 (Fld.ext O69 F_hasMonth_DATE_TIME) (Fld.ext O69 F_hasDay_DATE_TIME) (Fld.ext O69 F_hasTime_DATE_TIME)) hZ (hw _ (List.mem_of_getElem? (i := 44) rfl)) (hw _ (List.mem_of_getElem? (i := 2) rfl)) (by decide) (by decide)) q72a q72c (g := (mkF m 53 #[.val (.int p1), .val (.int p2), .val (.int z3), .val (.ref w_DATE_TIME), .val (.int (3 : Int32)), .val (.ref b66)] [(.ref w_DATE_TIME)])) rfl (by rw [hml]; rfl) (Steps.refl _) (argsL := []) (rest := []) (lenOf pd_4 rfl) rfl (by show 2 * 0 + _ ≤ _; exact Nat.le_of_eq rfl) (hb hby at_53) (fun _ _ => ⟨rfl, rfl, (by decide : 1 + 0 ≤ _), (by decide : 8 + 0 ≤ _)⟩)
        dsimp only [Pt.U, Pt.locs, Pt.cells, Pt.slots] at X72 l72 y72 z72 st72 hQ72
        subst l72 y72 z72
        obtain ⟨hv72, N72q, e72⟩ := hQ72
        rw [(show ((bF (1 : Int32) + bF (1 : Int32)) + bF (1 : Int32)) = (3 : Int32) from by decide)] at hv72
        subst hv72
        have N72 := Fr.app N69 N72q
        have pre73 : ∀ t, Steps p.tables e below (T72.setTop (mkF m 56 #[.val (.int p1), .val (.int p2), .val (.int z3), .val (.ref w_DATE_TIME), .val (.int (3 : Int32)), .val (.ref b66)] [(.int (3 : Int32))])) t → Steps p.tables e below (s₁.setTop (entryFrame m #[(.int p1), (.int p2)] maxLocals)) t := fun t k => pre71 t (st72.trans k)
        have pre74 : ∀ t, Steps p.tables e below (T72.setTop (mkF m 63 #[.val (.int p1), .val (.int p2), .val (.int z3), .val (.ref w_DATE_TIME), .val (.int (3 : Int32)), .val (.ref b66)] [(.ref b66)])) t → Steps p.tables e below (s₁.setTop (entryFrame m #[(.int p1), (.int p2)] maxLocals)) t := fun t k => pre73 t (by
          show Steps p.tables e below (T72.setTop (mkF m 56 #[.val (.int p1), .val (.int p2), .val (.int z3), .val (.ref w_DATE_TIME), .val (.int (3 : Int32)), .val (.ref b66)] [(.int (3 : Int32))])) _
          refine XS.iload X72.here hx rfl (hb hby at_56) rfl ?_
          show Steps p.tables e below (T72.setTop (mkF m 58 #[.val (.int p1), .val (.int p2), .val (.int z3), .val (.ref w_DATE_TIME), .val (.int (3 : Int32)), .val (.ref b66)] [(.int (3 : Int32)), (.int (3 : Int32))])) _
          refine XS.icmpNo X72.here hx rfl (hb hby at_58) rfl (teq (by decide : (3 : Int32) = (3 : Int32))).2 ?_
          show Steps p.tables e below (T72.setTop (mkF m 61 #[.val (.int p1), .val (.int p2), .val (.int z3), .val (.ref w_DATE_TIME), .val (.int (3 : Int32)), .val (.ref b66)] [])) _
          refine XS.aload X72.here hx rfl (hb hby at_61) rfl rfl ?_
          exact k)
        obtain ⟨cq75, kq75, q75a, q75b, q75c⟩ := isOf hZ e72 r69_0
        obtain ⟨_, _, ⟨T75, L75, k75, n75⟩, -, X75, ⟨Lc75, hQ75, l75, y75, z75⟩, st75⟩ := X72.virtualBack hx (y := (⟨"com/example/knit/knit/exslt/SchemaDateTime", "hasYear", "()Z"⟩ : MethodName)) (z := (⟨"com/example/knit/knit/exslt/SchemaDateTime", "hasYear", "()Z"⟩ : MethodName)) hown (mvT hZ (hw _ (List.mem_of_getElem? (i := 51) rfl))) (mvT hZ (hw _ (List.mem_of_getElem? (i := 52) rfl))) (notFace_of_selects (args := #[]) (mvT hZ (hw _ (List.mem_of_getElem? (i := 54) rfl)))) (mvT hZ (hw _ (List.mem_of_getElem? (i := 54) rfl))) (mvT hZ (hw _ (List.mem_of_getElem? (i := 53) rfl))) (by decide) (backOf (W := 0) (rm_hy l Z a0 hw [] b66 w_DATE_TIME T69.heap n0 Z69 O69 r69_1 (Fld.ext O69 F_hasYear_DATE_TIME)) hZ (hw _ (List.mem_of_getElem? (i := 55) rfl)) (hw _ (List.mem_of_getElem? (i := 12) rfl)) (by decide) (by decide)) q75a q75c (g := (mkF m 63 #[.val (.int p1), .val (.int p2), .val (.int z3), .val (.ref w_DATE_TIME), .val (.int (3 : Int32)), .val (.ref b66)] [(.ref b66)])) rfl (by rw [hml]; rfl) (Steps.refl _) (argsL := []) (rest := []) (lenOf pd_5 rfl) rfl (by show 2 * 0 + _ ≤ _; exact Nat.le_of_eq rfl) (hb hby at_63) (fun _ _ => ⟨rfl, e72, (by decide : 1 + 0 ≤ _), (by decide : 8 + 0 ≤ _)⟩)
        dsimp only [Pt.U, Pt.locs, Pt.cells, Pt.slots] at X75 l75 y75 z75 st75 hQ75
        subst l75 y75 z75
        obtain ⟨rfl, N75q, e75⟩ := hQ75
        have N75 := Fr.app N72 N75q
        have pre76 : ∀ t, Steps p.tables e below (T75.setTop (mkF m 66 #[.val (.int p1), .val (.int p2), .val (.int z3), .val (.ref w_DATE_TIME), .val (.int (3 : Int32)), .val (.ref b66)] [(.int (1 : Int32))])) t → Steps p.tables e below (s₁.setTop (entryFrame m #[(.int p1), (.int p2)] maxLocals)) t := fun t k => pre74 t (st75.trans k)
        have pre77 : ∀ t, Steps p.tables e below (T75.setTop (mkF m 74 #[.val (.int p1), .val (.int p2), .val (.int z3), .val (.ref w_DATE_TIME), .val (.int (3 : Int32)), .val (.ref b66)] [(.int (1 : Int32))])) t → Steps p.tables e below (s₁.setTop (entryFrame m #[(.int p1), (.int p2)] maxLocals)) t := fun t k => pre76 t (by
          show Steps p.tables e below (T75.setTop (mkF m 66 #[.val (.int p1), .val (.int p2), .val (.int z3), .val (.ref w_DATE_TIME), .val (.int (3 : Int32)), .val (.ref b66)] [(.int (1 : Int32))])) _
          refine XS.ifNo X75.here hx rfl (hb hby at_66) rfl ((if0 _ _).trans (feq (by decide : ¬ ((1 : Int32) = (0 : Int32)))).1) ?_
          show Steps p.tables e below (T75.setTop (mkF m 69 #[.val (.int p1), .val (.int p2), .val (.int z3), .val (.ref w_DATE_TIME), .val (.int (3 : Int32)), .val (.ref b66)] [])) _
          refine XS.iconst X75.here hx rfl (hb hby at_69) ?_
          show Steps p.tables e below (T75.setTop (mkF m 70 #[.val (.int p1), .val (.int p2), .val (.int z3), .val (.ref w_DATE_TIME), .val (.int (3 : Int32)), .val (.ref b66)] [(.int (1 : Int32))])) _
          refine XS.goto X75.here hx rfl (pc0 := 70) (pc' := 74) rfl (hb hby at_70) (by decide) (by decide) ?_
          exact k)
        obtain ⟨fs, hr, hrun, hended, hW, hsame⟩ := X75.leave (v := some (.int (1 : Int32))) (fun h => by rw [Bd.returns] at h; cases h)
        refine ⟨_, _, pre77 _ ?_, hrun, hended, _, _, rfl, ?_, ⟨_, rfl⟩, hW, hsame.mono (by decide) (by decide)⟩
        · exact retN X75 hx (t := .boolean) Bd.returns (by simp) (hb hby at_74) hr
        · show Q_rm_law Z p1 p2 w_G_YEAR w_DATE w_DATE_TIME w_G_YEAR_MONTH h0 n0 _ T75.heap _
          rw [e75]
          exact ⟨rfl, N75⟩
set_option maxRecDepth 65536 in
set_option maxHeartbeats 40000000 in
theorem comes_1 {Post : Tables → Env → Array Value → State → Outcome → State → Prop} (hpost : ∀ tb e args s v u, (limb_1_1.after args s (.returned v) u = true ∧ limb_1_2.after args s (.returned v) u = true ∧ True) → FrameEnd s (.returned v) u (Jvm.fieldLocs frame_1_writes args s ++ Jvm.arrayLocs frame_1_arrays args s ++ Jvm.staticLocs frame_1_statics s) 16 128 → Post tb e args s (.returned v) u) :
    ArmFor flags0 classFile x code maxLocals ret World_1 tables_1 room_1 Calls_1 rest_1 Pre_1 Post := by
  intro l hfl _ _ p e ha hc hk s m args below hf hA hF happ hP0
  obtain ⟨hcalls, hrest, hpre⟩ := hP0
  obtain ⟨-, -, -, hnamed, -, -, -, hat⟩ := (Spec.applies_iff hf).mp happ
  obtain ⟨hg, hn⟩ := and_e (Cond.before_iff.mp (show (Jvm.Cond.and given_1 narrow_1).before args s = true from hpre))
  obtain ⟨g0a, g0b⟩ := and_e hg
  obtain ⟨g1a, g1b⟩ := and_e g0b
  obtain ⟨w0, w1, rfl⟩ : ∃ w0 w1 : Value, args = #[w0, w1] := by
    have hs : args.size = 2 := by simpa [Cond.value, given_1] using g0a
    obtain ⟨L⟩ := args
    match L, hs with
    | [w0, w1], _ => exact ⟨w0, w1, rfl⟩
  have hw := fun d (hd : d ∈ tables_1) => atoms_spec (ws := Jvm.Cond.code x code maxLocals ret :: tables_1) hat d (List.mem_cons_of_mem _ hd)
  have hfit : Fit s := fun {y c} hc i hi => by
    obtain ⟨ha, rfl⟩ := Array.getElem?_eq_some_iff.mp hc
    have q := List.all_eq_true.mp ((Array.all_eq_true_iff_forall_mem.mp hF) _ (Array.getElem_mem ha)) i (List.mem_range.mpr hi)
    simpa [Array.getElem?_eq_getElem hi] using q
  obtain ⟨i0, ei0⟩ := is_v g1a
  obtain rfl : w0 = (.int i0) := Option.some.inj ei0
  obtain ⟨i1, ei1⟩ := is_v g1b
  obtain rfl : w1 = (.int i1) := Option.some.inj ei1
  have hn' := hn
  obtain ⟨na0, nb0⟩ := and_e hn
  obtain ⟨na1, nb1⟩ := and_e nb0
  obtain ⟨na2, nb2⟩ := and_e nb1
  obtain ⟨na3, nb3⟩ := and_e nb2
  obtain ⟨na4, nb4⟩ := and_e nb3
  obtain ⟨na5, nb5⟩ := and_e nb4
  obtain ⟨na6, nb6⟩ := and_e nb5
  obtain ⟨na7, nb7⟩ := and_e nb6
  obtain ⟨na8, nb8⟩ := and_e nb7
  obtain ⟨na9, nb9⟩ := and_e nb8
  obtain ⟨na10, nb10⟩ := and_e nb9
  obtain ⟨na11, nb11⟩ := and_e nb10
  obtain ⟨na12, nb12⟩ := and_e nb11
  obtain ⟨na13, nb13⟩ := and_e nb12
  obtain ⟨na14, nb14⟩ := and_e nb13
  obtain ⟨na15, nb15⟩ := and_e nb14
  obtain ⟨na16, nb16⟩ := and_e nb15
  obtain ⟨na17, nb17⟩ := and_e nb16
  obtain ⟨na18, nb18⟩ := and_e nb17
  obtain ⟨w_G_YEAR, ev_G_YEAR, E_G_YEAR⟩ := own_pin na0
  have S_G_YEAR := Sta.start ev_G_YEAR (Or.inr ⟨(hw _ (List.mem_of_getElem? (i := 2) rfl)), (hw _ (List.mem_of_getElem? (i := 5) rfl))⟩)
  obtain ⟨w_DATE, ev_DATE, E_DATE⟩ := own_pin na5
  have S_DATE := Sta.start ev_DATE (Or.inr ⟨(hw _ (List.mem_of_getElem? (i := 2) rfl)), (hw _ (List.mem_of_getElem? (i := 59) rfl))⟩)
  obtain ⟨w_DATE_TIME, ev_DATE_TIME, E_DATE_TIME⟩ := own_pin na10
  have S_DATE_TIME := Sta.start ev_DATE_TIME (Or.inr ⟨(hw _ (List.mem_of_getElem? (i := 2) rfl)), (hw _ (List.mem_of_getElem? (i := 62) rfl))⟩)
  obtain ⟨w_G_YEAR_MONTH, ev_G_YEAR_MONTH, E_G_YEAR_MONTH⟩ := own_pin na15
  have S_G_YEAR_MONTH := Sta.start ev_G_YEAR_MONTH (Or.inr ⟨(hw _ (List.mem_of_getElem? (i := 2) rfl)), (hw _ (List.mem_of_getElem? (i := 64) rfl))⟩)
  have F_hasMonth_G_YEAR := own_fld ev_G_YEAR na1
  have F_hasDay_G_YEAR := own_fld ev_G_YEAR na2
  have F_hasTime_G_YEAR := own_fld ev_G_YEAR na3
  have F_hasYear_G_YEAR := own_fld ev_G_YEAR na4
  have F_hasMonth_DATE := own_fld ev_DATE na6
  have F_hasDay_DATE := own_fld ev_DATE na7
  have F_hasTime_DATE := own_fld ev_DATE na8
  have F_hasYear_DATE := own_fld ev_DATE na9
  have F_hasMonth_DATE_TIME := own_fld ev_DATE_TIME na11
  have F_hasDay_DATE_TIME := own_fld ev_DATE_TIME na12
  have F_hasTime_DATE_TIME := own_fld ev_DATE_TIME na13
  have F_hasYear_DATE_TIME := own_fld ev_DATE_TIME na14
  have F_hasMonth_G_YEAR_MONTH := own_fld ev_G_YEAR_MONTH na16
  have F_hasDay_G_YEAR_MONTH := own_fld ev_G_YEAR_MONTH na17
  have F_hasTime_G_YEAR_MONTH := own_fld ev_G_YEAR_MONTH na18
  have F_hasYear_G_YEAR_MONTH := own_fld ev_G_YEAR_MONTH nb18
  have hP : Pins s w_G_YEAR w_DATE w_DATE_TIME w_G_YEAR_MONTH := ⟨S_G_YEAR, S_DATE, S_DATE_TIME, S_G_YEAR_MONTH, E_G_YEAR, E_DATE, E_DATE_TIME, E_G_YEAR_MONTH, F_hasMonth_G_YEAR, F_hasDay_G_YEAR, F_hasTime_G_YEAR, F_hasYear_G_YEAR, F_hasMonth_DATE, F_hasDay_DATE, F_hasTime_DATE, F_hasYear_DATE, F_hasMonth_DATE_TIME, F_hasDay_DATE_TIME, F_hasTime_DATE_TIME, F_hasYear_DATE_TIME, F_hasMonth_G_YEAR_MONTH, F_hasDay_G_YEAR_MONTH, F_hasTime_G_YEAR_MONTH, F_hasYear_G_YEAR_MONTH⟩
  obtain ⟨n, o, h1, h2, h3, _, L, rfl, ⟨rfl, N⟩, hq⟩ := rm_law l s _ hw tables_1 i0 i1 w_G_YEAR w_DATE w_DATE_TIME w_G_YEAR_MONTH s.heap s.heap.size (Nat.le_refl _) (own_ext_refl _) hP p e ha hc hk s m _ below hf ((Spec.applies_iff_loose hf).mp happ).1 ⟨rfl, State.Warmed39.refl s, rfl⟩ trivial
  refine ⟨n, _, h1, h2, h3, hpost _ _ _ _ _ _ ⟨Cond.after_iff.mpr rfl, Cond.after_iff.mpr (eq_i res_at (Term.int_eval (1)) rfl), trivial⟩ ⟨hq.1, hq.2.1, (hq.2.2.sift fun y hy => Or.inr (N y hy)).mono (by decide) (by decide)⟩⟩
theorem main_1_1 : Claimed_1_1 := comes_1 fun _ _ _ _ _ _ h hF => ⟨h.1, hF⟩
theorem main_1_2 : Claimed_1_2 := comes_1 fun _ _ _ _ _ _ h hF => ⟨h.2.1, hF⟩
end Jvm.Pilot.@@N@@
namespace Jvm.Pilot.@@N@@
open Jvm Jvm.ClassFile Sem Op Lib Jvm.Free Jvm.Stand Jvm.Pilot.@@N@@.Jvm.D
/-! MADE BY PROGRAM (witnessworld.py) out of the Statement's table words and the real class files: 15 classes; the members and pool entries that the words name. The judged class is class 1, her method 1. -/
namespace start1
open Jvm.ClassFile
def u (s : String) : CpInfo := .utf8 (stringToUtf16 s)
/-- a pool by its gaps: so many unusable entries, then the entry; so many at the end -/
def gap : Nat → List CpInfo → List CpInfo
  | 0, r => r
  | n + 1, r => .unusable :: gap n r
def poolList (es : List (Nat × CpInfo)) (last : Nat) : List CpInfo := es.foldr (fun e r => gap e.1 (e.2 :: r)) (gap last [])
def pool (es : List (Nat × CpInfo)) (last : Nat) : Array CpInfo := ⟨poolList es last⟩
def fileOf (pool : Array CpInfo) (this : Nat) (attrs : Array Attribute := #[]) (ms : Array MethodInfo := #[]) (fl : Nat := 33) (sup : Nat := 0) (ifs : Array Nat := #[]) (fds : Array FieldInfo := #[]) : ClassFile where
  minorVersion := 0
  majorVersion := 65
  constantPool := pool
  accessFlags := fl
  thisClass := this
  superClass := sup
  interfaces := ifs
  fields := fds
  methods := ms
  attributes := attrs
def plain (name : String) (sup : Option ClassId) : Class where
  name := name
  kind := .ordinary
  loader := none
  accessFlags := 33
  super := sup
  interfaces := #[]
  cf := none
  fields := #[]
  methods := #[]
  instanceTypes := #[]
  staticTypes := #[]
  resolved := #[]
  callSites := []
  init := .initialized
  statics := none
  mirror := none

def pool0 : Array CpInfo := pool [(5, u "<init>"), (0, u "()V"), (1, .class_ 10), (1, u "java/lang/Object")] 113

def k0c0 : Code := { maxStack := 0, maxLocals := 1, code := object_method_1_code, exceptionTable := #[], attributes := #[] }
def k0m0 : Method := { name := "<init>", desc := "()V", sig := { parameters := [], returnType := none }, accessFlags := 1, code := some k0c0 }
/-- java/lang/Object -/
def k0 : Class := { plain "java/lang/Object" none with
  accessFlags := 33
  interfaces := #[]
  cf := some (fileOf pool0 8 #[] #[{ accessFlags := 1, nameIndex := 5, descriptorIndex := 6, attributes := #[] }] 33 0 #[] #[])
  fields := #[]
  methods := #[k0m0]
  instanceTypes := #[]
  staticTypes := #[]
  resolved := Array.replicate 124 none
  statics := none }

def pool1 : Array CpInfo := pool [(2, .class_ 4), (1, u "java/lang/Object"), (0, u "<init>"), (0, u "()V"), (0, .integer 2147483647), (0, .methodref 9 10), (0, .class_ 11), (0, .nameAndType 12 13), (0, u "com/example/knit/knit/exslt/SchemaDateTime$Type"), (0, u "ofPrecision"), (0, u "(I)Lcom/example/knit/knit/exslt/SchemaDateTime$Type;"), (0, .methodref 15 16), (0, .class_ 17), (0, .nameAndType 18 19), (0, u "java/lang/Math"), (0, u "min"), (0, u "(II)I"), (0, .class_ 21), (0, u "com/example/knit/knit/exslt/SchemaDateTime"), (0, .methodref 20 23), (0, .nameAndType 5 24), (0, u "(Lcom/example/knit/knit/exslt/SchemaDateTime$Type;JIIIILjava/math/BigDecimal;I)V"), (0, .methodref 9 26), (0, .nameAndType 27 28), (0, u "precision"), (0, u "()I"), (0, .methodref 20 30), (0, .nameAndType 31 32), (0, u "hasYear"), (0, u "()Z"), (0, .class_ 34), (0, u "com/example/knit/knit/exslt/TypeOfPrecisionPinLaw"), (2, u "law"), (0, u "(II)Z")] 5

def k1m0 : Method := { name := "<init>", desc := "()V", sig := { parameters := [], returnType := none }, accessFlags := 1, code := none }
def k1c1 : Code := { maxStack := 11, maxLocals := 6, code := code, exceptionTable := #[], attributes := #[] }
def k1m1 : Method := { name := "law", desc := "(II)Z", sig := { parameters := [.int, .int], returnType := some .boolean }, accessFlags := 9, code := some k1c1 }
/-- com/example/knit/knit/exslt/TypeOfPrecisionPinLaw -/
def k1 : Class := { plain "com/example/knit/knit/exslt/TypeOfPrecisionPinLaw" (some 0) with
  accessFlags := 49
  interfaces := #[]
  cf := some (fileOf pool1 33 #[] #[{ accessFlags := 1, nameIndex := 5, descriptorIndex := 6, attributes := #[] }, { accessFlags := 9, nameIndex := 37, descriptorIndex := 38, attributes := #[] }] 49 2 #[] #[])
  fields := #[]
  methods := #[k1m0, k1m1]
  instanceTypes := #[]
  staticTypes := #[]
  resolved := Array.replicate 44 none
  statics := none }

def pool2 : Array CpInfo := pool [(1, .class_ 2), (0, u "java/lang/constant/Constable"), (0, .class_ 4), (0, u "java/lang/Object")] 6

/-- java/lang/constant/Constable -/
def k2 : Class := { plain "java/lang/constant/Constable" (some 0) with
  accessFlags := 1537
  interfaces := #[]
  cf := some (fileOf pool2 1 #[] #[] 1537 3 #[] #[])
  fields := #[]
  methods := #[]
  instanceTypes := #[]
  staticTypes := #[]
  resolved := Array.replicate 11 none
  statics := none }

def pool3 : Array CpInfo := pool [(1, .class_ 2), (0, u "java/lang/Comparable"), (0, .class_ 4), (0, u "java/lang/Object")] 7

/-- java/lang/Comparable -/
def k3 : Class := { plain "java/lang/Comparable" (some 0) with
  accessFlags := 1537
  interfaces := #[]
  cf := some (fileOf pool3 1 #[] #[] 1537 3 #[] #[])
  fields := #[]
  methods := #[]
  instanceTypes := #[]
  staticTypes := #[]
  resolved := Array.replicate 12 none
  statics := none }

def pool4 : Array CpInfo := pool [(1, .class_ 2), (0, u "java/io/Serializable"), (0, .class_ 4), (0, u "java/lang/Object")] 2

/-- java/io/Serializable -/
def k4 : Class := { plain "java/io/Serializable" (some 0) with
  accessFlags := 1537
  interfaces := #[]
  cf := some (fileOf pool4 1 #[] #[] 1537 3 #[] #[])
  fields := #[]
  methods := #[]
  instanceTypes := #[]
  staticTypes := #[]
  resolved := Array.replicate 7 none
  statics := none }

def pool5 : Array CpInfo := pool [(2, .class_ 4), (1, u "java/lang/Enum"), (0, u "name"), (0, u "Ljava/lang/String;"), (2, u "ordinal"), (0, u "I"), (1, .class_ 14), (1, u "java/lang/Object"), (4, u "hash"), (86, .class_ 108), (1, u "java/lang/Enum$EnumDesc"), (2, .class_ 112), (0, u "java/lang/constant/Constable"), (0, .class_ 114), (0, u "java/lang/Comparable"), (0, .class_ 116), (0, u "java/io/Serializable")] 87

/-- java/lang/Enum -/
def k5 : Class := { plain "java/lang/Enum" (some 0) with
  accessFlags := 1057
  interfaces := #[2, 3, 4]
  cf := some (fileOf pool5 2 #[.nestMembers #[106]] #[] 1057 12 #[111, 113, 115] #[{ accessFlags := 18, nameIndex := 5, descriptorIndex := 6, attributes := #[] }, { accessFlags := 18, nameIndex := 9, descriptorIndex := 10, attributes := #[] }, { accessFlags := 2, nameIndex := 19, descriptorIndex := 10, attributes := #[] }])
  fields := #[{ name := "name", type := (.object "java/lang/String"), accessFlags := 18, slot := 0, constantValue := 0 }, { name := "ordinal", type := .int, accessFlags := 18, slot := 1, constantValue := 0 }, { name := "hash", type := .int, accessFlags := 2, slot := 2, constantValue := 0 }]
  methods := #[]
  instanceTypes := #[(.object "java/lang/String"), .int, .int]
  staticTypes := #[]
  resolved := Array.replicate 204 none
  statics := none }

def pool6 : Array CpInfo := pool [(1, .class_ 2), (0, u "com/example/knit/knit/exslt/SchemaDateTime"), (0, .class_ 4), (0, u "com/example/knit/knit/exslt/SchemaDateTime$Type"), (0, .fieldref 3 6), (0, .nameAndType 7 8), (0, u "DATE_TIME"), (0, u "Lcom/example/knit/knit/exslt/SchemaDateTime$Type;"), (0, .fieldref 3 10), (0, .nameAndType 11 8), (0, u "DATE"), (0, .fieldref 3 13), (0, .nameAndType 14 8), (0, u "G_YEAR_MONTH"), (0, .fieldref 3 16), (0, .nameAndType 17 8), (0, u "G_YEAR"), (2, u "G_MONTH_DAY"), (2, u "G_MONTH"), (2, u "G_DAY"), (2, u "TIME_OF_DAY"), (2, u "$VALUES"), (0, u "[Lcom/example/knit/knit/exslt/SchemaDateTime$Type;"), (6, .class_ 42), (1, u "java/lang/Enum"), (18, u "form"), (0, u "Ljava/util/regex/Pattern;"), (2, u "hasYear"), (0, u "Z"), (0, .fieldref 3 68), (0, .nameAndType 69 66), (0, u "hasMonth"), (0, .fieldref 3 71), (0, .nameAndType 72 66), (0, u "hasDay"), (0, .fieldref 3 74), (0, .nameAndType 75 66), (0, u "hasTime"), (38, u "precision"), (0, u "()I"), (1, u "ofPrecision"), (0, u "(I)Lcom/example/knit/knit/exslt/SchemaDateTime$Type;")] 22

def k6c0 : Code := { maxStack := 2, maxLocals := 1, code := prog_13_method_4_code, exceptionTable := #[], attributes := #[] }
def k6m0 : Method := { name := "precision", desc := "()I", sig := { parameters := [], returnType := some .int }, accessFlags := 0, code := some k6c0 }
def k6c1 : Code := { maxStack := 1, maxLocals := 1, code := prog_13_method_5_code, exceptionTable := #[], attributes := #[] }
def k6m1 : Method := { name := "ofPrecision", desc := "(I)Lcom/example/knit/knit/exslt/SchemaDateTime$Type;", sig := { parameters := [.int], returnType := some (.object "com/example/knit/knit/exslt/SchemaDateTime$Type") }, accessFlags := 8, code := some k6c1 }
/-- com/example/knit/knit/exslt/SchemaDateTime$Type -/
def k6 : Class := { plain "com/example/knit/knit/exslt/SchemaDateTime$Type" (some 5) with
  accessFlags := 16432
  interfaces := #[]
  cf := some (fileOf pool6 3 #[.nestHost 1] #[{ accessFlags := 0, nameIndex := 114, descriptorIndex := 115, attributes := #[] }, { accessFlags := 8, nameIndex := 117, descriptorIndex := 118, attributes := #[] }] 16432 40 #[] #[{ accessFlags := 16409, nameIndex := 7, descriptorIndex := 8, attributes := #[] }, { accessFlags := 16409, nameIndex := 11, descriptorIndex := 8, attributes := #[] }, { accessFlags := 16409, nameIndex := 14, descriptorIndex := 8, attributes := #[] }, { accessFlags := 16409, nameIndex := 17, descriptorIndex := 8, attributes := #[] }, { accessFlags := 16409, nameIndex := 20, descriptorIndex := 8, attributes := #[] }, { accessFlags := 16409, nameIndex := 23, descriptorIndex := 8, attributes := #[] }, { accessFlags := 16409, nameIndex := 26, descriptorIndex := 8, attributes := #[] }, { accessFlags := 16409, nameIndex := 29, descriptorIndex := 8, attributes := #[] }, { accessFlags := 18, nameIndex := 61, descriptorIndex := 62, attributes := #[] }, { accessFlags := 18, nameIndex := 65, descriptorIndex := 66, attributes := #[] }, { accessFlags := 18, nameIndex := 69, descriptorIndex := 66, attributes := #[] }, { accessFlags := 18, nameIndex := 72, descriptorIndex := 66, attributes := #[] }, { accessFlags := 18, nameIndex := 75, descriptorIndex := 66, attributes := #[] }, { accessFlags := 4122, nameIndex := 32, descriptorIndex := 33, attributes := #[] }])
  fields := #[{ name := "DATE_TIME", type := (.object "com/example/knit/knit/exslt/SchemaDateTime$Type"), accessFlags := 16409, slot := 0, constantValue := 0 }, { name := "DATE", type := (.object "com/example/knit/knit/exslt/SchemaDateTime$Type"), accessFlags := 16409, slot := 1, constantValue := 0 }, { name := "G_YEAR_MONTH", type := (.object "com/example/knit/knit/exslt/SchemaDateTime$Type"), accessFlags := 16409, slot := 2, constantValue := 0 }, { name := "G_YEAR", type := (.object "com/example/knit/knit/exslt/SchemaDateTime$Type"), accessFlags := 16409, slot := 3, constantValue := 0 }, { name := "G_MONTH_DAY", type := (.object "com/example/knit/knit/exslt/SchemaDateTime$Type"), accessFlags := 16409, slot := 4, constantValue := 0 }, { name := "G_MONTH", type := (.object "com/example/knit/knit/exslt/SchemaDateTime$Type"), accessFlags := 16409, slot := 5, constantValue := 0 }, { name := "G_DAY", type := (.object "com/example/knit/knit/exslt/SchemaDateTime$Type"), accessFlags := 16409, slot := 6, constantValue := 0 }, { name := "TIME_OF_DAY", type := (.object "com/example/knit/knit/exslt/SchemaDateTime$Type"), accessFlags := 16409, slot := 7, constantValue := 0 }, { name := "form", type := (.object "java/util/regex/Pattern"), accessFlags := 18, slot := 3, constantValue := 0 }, { name := "hasYear", type := .boolean, accessFlags := 18, slot := 4, constantValue := 0 }, { name := "hasMonth", type := .boolean, accessFlags := 18, slot := 5, constantValue := 0 }, { name := "hasDay", type := .boolean, accessFlags := 18, slot := 6, constantValue := 0 }, { name := "hasTime", type := .boolean, accessFlags := 18, slot := 7, constantValue := 0 }, { name := "$VALUES", type := (.array (.object "com/example/knit/knit/exslt/SchemaDateTime$Type")), accessFlags := 4122, slot := 8, constantValue := 0 }]
  methods := #[k6m0, k6m1]
  instanceTypes := #[(.object "java/lang/String"), .int, .int, (.object "java/util/regex/Pattern"), .boolean, .boolean, .boolean, .boolean]
  staticTypes := #[(.object "com/example/knit/knit/exslt/SchemaDateTime$Type"), (.object "com/example/knit/knit/exslt/SchemaDateTime$Type"), (.object "com/example/knit/knit/exslt/SchemaDateTime$Type"), (.object "com/example/knit/knit/exslt/SchemaDateTime$Type"), (.object "com/example/knit/knit/exslt/SchemaDateTime$Type"), (.object "com/example/knit/knit/exslt/SchemaDateTime$Type"), (.object "com/example/knit/knit/exslt/SchemaDateTime$Type"), (.object "com/example/knit/knit/exslt/SchemaDateTime$Type"), (.array (.object "com/example/knit/knit/exslt/SchemaDateTime$Type"))]
  resolved := Array.replicate 141 none
  statics := some 0 }

def pool7 : Array CpInfo := pool [(1, .class_ 2), (0, u "java/lang/Math"), (1, .class_ 6), (1, u "java/lang/Object"), (0, u "<init>"), (0, u "()V"), (89, .class_ 100), (1, u "java/lang/Math$RandomNumberGeneratorHolder"), (71, u "negativeZeroFloatBits"), (0, u "J"), (2, u "negativeZeroDoubleBits"), (24, u "min"), (43, u "$assertionsDisabled"), (0, u "Z"), (88, u "(II)I"), (2, u "twoToTheDoubleScaleDown"), (0, u "D"), (4, u "twoToTheDoubleScaleUp"), (9, u "E"), (3, u "PI"), (2, u "TAU"), (2, u "DEGREES_TO_RADIANS"), (0, u "RADIANS_TO_DEGREES")] 94

def k7m0 : Method := { name := "<init>", desc := "()V", sig := { parameters := [], returnType := none }, accessFlags := 2, code := none }
def k7c1 : Code := { maxStack := 2, maxLocals := 2, code := jdk_29_method_69_code, exceptionTable := #[], attributes := #[] }
def k7m1 : Method := { name := "min", desc := "(II)I", sig := { parameters := [.int, .int], returnType := some .int }, accessFlags := 9, code := some k7c1 }
/-- java/lang/Math -/
def k7 : Class := { plain "java/lang/Math" (some 0) with
  accessFlags := 49
  interfaces := #[]
  cf := some (fileOf pool7 1 #[.nestMembers #[98]] #[{ accessFlags := 2, nameIndex := 7, descriptorIndex := 8, attributes := #[] }, { accessFlags := 9, nameIndex := 201, descriptorIndex := 335, attributes := #[] }] 49 4 #[] #[{ accessFlags := 25, nameIndex := 354, descriptorIndex := 339, attributes := #[] }, { accessFlags := 25, nameIndex := 358, descriptorIndex := 339, attributes := #[] }, { accessFlags := 25, nameIndex := 361, descriptorIndex := 339, attributes := #[] }, { accessFlags := 26, nameIndex := 364, descriptorIndex := 339, attributes := #[] }, { accessFlags := 26, nameIndex := 365, descriptorIndex := 339, attributes := #[] }, { accessFlags := 26, nameIndex := 172, descriptorIndex := 173, attributes := #[] }, { accessFlags := 26, nameIndex := 176, descriptorIndex := 173, attributes := #[] }, { accessFlags := 8, nameIndex := 344, descriptorIndex := 339, attributes := #[] }, { accessFlags := 8, nameIndex := 338, descriptorIndex := 339, attributes := #[] }, { accessFlags := 4120, nameIndex := 245, descriptorIndex := 246, attributes := #[] }])
  fields := #[{ name := "E", type := .double, accessFlags := 25, slot := 0, constantValue := 0 }, { name := "PI", type := .double, accessFlags := 25, slot := 1, constantValue := 0 }, { name := "TAU", type := .double, accessFlags := 25, slot := 2, constantValue := 0 }, { name := "DEGREES_TO_RADIANS", type := .double, accessFlags := 26, slot := 3, constantValue := 0 }, { name := "RADIANS_TO_DEGREES", type := .double, accessFlags := 26, slot := 4, constantValue := 0 }, { name := "negativeZeroFloatBits", type := .long, accessFlags := 26, slot := 5, constantValue := 0 }, { name := "negativeZeroDoubleBits", type := .long, accessFlags := 26, slot := 6, constantValue := 0 }, { name := "twoToTheDoubleScaleUp", type := .double, accessFlags := 8, slot := 7, constantValue := 0 }, { name := "twoToTheDoubleScaleDown", type := .double, accessFlags := 8, slot := 8, constantValue := 0 }, { name := "$assertionsDisabled", type := .boolean, accessFlags := 4120, slot := 9, constantValue := 0 }]
  methods := #[k7m0, k7m1]
  instanceTypes := #[]
  staticTypes := #[.double, .double, .double, .double, .double, .long, .long, .double, .double, .boolean]
  resolved := Array.replicate 460 none
  statics := none }

def pool8 : Array CpInfo := pool [(1, .methodref 2 3), (0, .class_ 4), (0, .nameAndType 5 6), (0, u "java/lang/Object"), (0, u "<init>"), (0, u "()V"), (0, .class_ 8), (0, u "java/lang/Record")] 13

def k8c0 : Code := { maxStack := 1, maxLocals := 1, code := jdk_30_method_1_code, exceptionTable := #[], attributes := #[] }
def k8m0 : Method := { name := "<init>", desc := "()V", sig := { parameters := [], returnType := none }, accessFlags := 4, code := some k8c0 }
/-- java/lang/Record -/
def k8 : Class := { plain "java/lang/Record" (some 0) with
  accessFlags := 1057
  interfaces := #[]
  cf := some (fileOf pool8 7 #[] #[{ accessFlags := 4, nameIndex := 5, descriptorIndex := 6, attributes := #[] }] 1057 2 #[] #[])
  fields := #[]
  methods := #[k8m0]
  instanceTypes := #[]
  staticTypes := #[]
  resolved := Array.replicate 22 none
  statics := none }

def pool9 : Array CpInfo := pool [(3, .methodref 4 5), (0, .class_ 6), (0, .nameAndType 7 8), (0, u "java/lang/Record"), (0, u "<init>"), (0, u "()V"), (0, .fieldref 10 11), (0, .class_ 12), (0, .nameAndType 13 14), (0, u "com/example/knit/knit/exslt/SchemaDateTime"), (0, u "type"), (0, u "Lcom/example/knit/knit/exslt/SchemaDateTime$Type;"), (0, .fieldref 10 16), (0, .nameAndType 17 18), (0, u "year"), (0, u "J"), (0, .fieldref 10 20), (0, .nameAndType 21 22), (0, u "month"), (0, u "I"), (0, .fieldref 10 24), (0, .nameAndType 25 22), (0, u "day"), (0, .fieldref 10 27), (0, .nameAndType 28 22), (0, u "hour"), (0, .fieldref 10 30), (0, .nameAndType 31 22), (0, u "minute"), (0, .fieldref 10 33), (0, .nameAndType 34 35), (0, u "second"), (0, u "Ljava/math/BigDecimal;"), (0, .fieldref 10 37), (0, .nameAndType 38 22), (0, u "zone"), (1, .class_ 42), (1, u "com/example/knit/knit/exslt/SchemaDateTime$Type"), (17, u "()Z"), (32, u "(Lcom/example/knit/knit/exslt/SchemaDateTime$Type;JIIIILjava/math/BigDecimal;I)V"), (0, .fieldref 40 95), (0, .nameAndType 96 97), (0, u "hasYear"), (0, u "Z"), (80, u "SIXTY"), (128, u "NO_ZONE"), (1, u "MOST_YEARS"), (0, u "MINUTES_A_DAY"), (1, u "YEAR"), (0, u "Ljava/lang/String;"), (2, u "MONTH"), (2, u "DAY"), (2, u "TIME"), (2, u "ZONE")] 64

def k9c0 : Code := { maxStack := 3, maxLocals := 10, code := prog_12_method_1_code, exceptionTable := #[], attributes := #[] }
def k9m0 : Method := { name := "<init>", desc := "(Lcom/example/knit/knit/exslt/SchemaDateTime$Type;JIIIILjava/math/BigDecimal;I)V", sig := { parameters := [(.object "com/example/knit/knit/exslt/SchemaDateTime$Type"), .long, .int, .int, .int, .int, (.object "java/math/BigDecimal"), .int], returnType := none }, accessFlags := 0, code := some k9c0 }
def k9c1 : Code := { maxStack := 1, maxLocals := 1, code := prog_12_method_6_code, exceptionTable := #[], attributes := #[] }
def k9m1 : Method := { name := "hasYear", desc := "()Z", sig := { parameters := [], returnType := some .boolean }, accessFlags := 0, code := some k9c1 }
/-- com/example/knit/knit/exslt/SchemaDateTime -/
def k9 : Class := { plain "com/example/knit/knit/exslt/SchemaDateTime" (some 8) with
  accessFlags := 48
  interfaces := #[]
  cf := some (fileOf pool9 10 #[.nestMembers #[40]] #[{ accessFlags := 0, nameIndex := 7, descriptorIndex := 93, attributes := #[] }, { accessFlags := 0, nameIndex := 96, descriptorIndex := 60, attributes := #[] }] 48 4 #[] #[{ accessFlags := 18, nameIndex := 13, descriptorIndex := 14, attributes := #[] }, { accessFlags := 18, nameIndex := 17, descriptorIndex := 18, attributes := #[] }, { accessFlags := 18, nameIndex := 21, descriptorIndex := 22, attributes := #[] }, { accessFlags := 18, nameIndex := 25, descriptorIndex := 22, attributes := #[] }, { accessFlags := 18, nameIndex := 28, descriptorIndex := 22, attributes := #[] }, { accessFlags := 18, nameIndex := 31, descriptorIndex := 22, attributes := #[] }, { accessFlags := 18, nameIndex := 34, descriptorIndex := 35, attributes := #[] }, { accessFlags := 18, nameIndex := 38, descriptorIndex := 22, attributes := #[] }, { accessFlags := 24, nameIndex := 307, descriptorIndex := 22, attributes := #[] }, { accessFlags := 26, nameIndex := 309, descriptorIndex := 18, attributes := #[] }, { accessFlags := 26, nameIndex := 310, descriptorIndex := 22, attributes := #[] }, { accessFlags := 26, nameIndex := 178, descriptorIndex := 35, attributes := #[] }, { accessFlags := 26, nameIndex := 312, descriptorIndex := 313, attributes := #[] }, { accessFlags := 26, nameIndex := 316, descriptorIndex := 313, attributes := #[] }, { accessFlags := 26, nameIndex := 319, descriptorIndex := 313, attributes := #[] }, { accessFlags := 26, nameIndex := 322, descriptorIndex := 313, attributes := #[] }, { accessFlags := 26, nameIndex := 325, descriptorIndex := 313, attributes := #[] }])
  fields := #[{ name := "type", type := (.object "com/example/knit/knit/exslt/SchemaDateTime$Type"), accessFlags := 18, slot := 0, constantValue := 0 }, { name := "year", type := .long, accessFlags := 18, slot := 1, constantValue := 0 }, { name := "month", type := .int, accessFlags := 18, slot := 2, constantValue := 0 }, { name := "day", type := .int, accessFlags := 18, slot := 3, constantValue := 0 }, { name := "hour", type := .int, accessFlags := 18, slot := 4, constantValue := 0 }, { name := "minute", type := .int, accessFlags := 18, slot := 5, constantValue := 0 }, { name := "second", type := (.object "java/math/BigDecimal"), accessFlags := 18, slot := 6, constantValue := 0 }, { name := "zone", type := .int, accessFlags := 18, slot := 7, constantValue := 0 }, { name := "NO_ZONE", type := .int, accessFlags := 24, slot := 0, constantValue := 0 }, { name := "MOST_YEARS", type := .long, accessFlags := 26, slot := 1, constantValue := 0 }, { name := "MINUTES_A_DAY", type := .int, accessFlags := 26, slot := 2, constantValue := 0 }, { name := "SIXTY", type := (.object "java/math/BigDecimal"), accessFlags := 26, slot := 3, constantValue := 0 }, { name := "YEAR", type := (.object "java/lang/String"), accessFlags := 26, slot := 4, constantValue := 0 }, { name := "MONTH", type := (.object "java/lang/String"), accessFlags := 26, slot := 5, constantValue := 0 }, { name := "DAY", type := (.object "java/lang/String"), accessFlags := 26, slot := 6, constantValue := 0 }, { name := "TIME", type := (.object "java/lang/String"), accessFlags := 26, slot := 7, constantValue := 0 }, { name := "ZONE", type := (.object "java/lang/String"), accessFlags := 26, slot := 8, constantValue := 0 }]
  methods := #[k9m0, k9m1]
  instanceTypes := #[(.object "com/example/knit/knit/exslt/SchemaDateTime$Type"), .long, .int, .int, .int, .int, (.object "java/math/BigDecimal"), .int]
  staticTypes := #[.int, .long, .int, (.object "java/math/BigDecimal"), (.object "java/lang/String"), (.object "java/lang/String"), (.object "java/lang/String"), (.object "java/lang/String"), (.object "java/lang/String")]
  resolved := ⟨List.replicate 94 none ++ (some (.field 6 9) :: List.replicate 295 none)⟩
  statics := none }

def pool10 : Array CpInfo := pool [(1, u "java/lang/Cloneable"), (0, .class_ 1), (0, u "java/lang/Object"), (0, .class_ 3)] 3

/-- java/lang/Cloneable -/
def k10 : Class := { plain "java/lang/Cloneable" (some 0) with
  accessFlags := 1537
  interfaces := #[]
  cf := some (fileOf pool10 2 #[] #[] 1537 4 #[] #[])
  fields := #[]
  methods := #[]
  instanceTypes := #[]
  staticTypes := #[]
  resolved := Array.replicate 8 none
  statics := none }

/-- the primitive byte -/
def k11 : Class := { plain "byte" none with kind := .primitive 'B', accessFlags := 0x411 }
/-- [B -/
def k12 : Class := { plain "[B" (some 0) with kind := .array 11 .byte, interfaces := #[10, 4], accessFlags := 1041 }

/-- the primitive int -/
def k13 : Class := { plain "int" none with kind := .primitive 'I', accessFlags := 0x411 }
/-- [I -/
def k14 : Class := { plain "[I" (some 0) with kind := .array 13 .int, interfaces := #[10, 4], accessFlags := 1041 }

def heap : Heap := #[{ cls := 6, slots := #[.ref 3, .ref 2, .ref 4, .ref 1, .null, .null, .null, .null, .null], vm := .statics 6 },
  { cls := 6, slots := #[.null, .int 0, .int 0, .null, .int 1, .int 0, .int 0, .int 0], vm := .none },
  { cls := 6, slots := #[.null, .int 0, .int 0, .null, .int 1, .int 1, .int 1, .int 0], vm := .none },
  { cls := 6, slots := #[.null, .int 0, .int 0, .null, .int 1, .int 1, .int 1, .int 1], vm := .none },
  { cls := 6, slots := #[.null, .int 0, .int 0, .null, .int 1, .int 1, .int 0, .int 0], vm := .none }]
def classes : Array Class := #[k0, k1, k2, k3, k4, k5, k6, k7, k8, k9, k10, k11, k12, k13, k14]
def interned : List (Array UInt16 × Addr) := []
def slotsUsed : Nat := 41
def theMethod : MethodId := ⟨1, 1⟩
def args0 : Array Value := #[.int 5, .int 6]
def aboutOver (below : List Frame) : State where
  vm := { classes := classes, interned := interned.toArray }
  heap := heap
  slotsUsed := slotsUsed
  threads := #[{ frames := .invoking theMethod args0 :: below }]
def below0 : List Frame := [.native { method := ⟨0, 0⟩, args := #[] }]
def about1 : State := aboutOver below0
def p0 : Program := .bare "" "" ""
def e0 : Env := launch0.env 0 0 0
theorem w_frames : about1.frames = Frame.invoking theMethod args0 :: below0 := rfl
set_option maxRecDepth 65536 in
theorem w_args : argsFit about1.vm theMethod args0 = true := by decide +kernel
set_option maxRecDepth 65536 in
theorem w_heap : heapFits about1 = true := by decide +kernel
set_option maxRecDepth 65536 in
theorem w_runnable : about1.curStatus? = some .runnable := by decide +kernel
set_option maxRecDepth 65536 in
theorem w_alone : about1.alone = true := by decide +kernel
set_option maxRecDepth 65536 in
theorem w_named : about1.methodNamed? x = some theMethod := by decide +kernel
set_option maxRecDepth 65536 in
theorem w_hears : about1.hears theMethod below0 = true := by decide +kernel
set_option maxRecDepth 65536 in
theorem w_ripe : about1.ripe theMethod args0 below0 = true := by decide +kernel
theorem w_running : about1.status = .running := rfl
set_option maxRecDepth 65536 in
theorem w_room : about1.hasRoom e0.platform room_1 = true :=
  launch0.hasRoom_least _ room_1 (by decide +kernel) (by decide +kernel) (by decide +kernel) (by decide +kernel) (by decide +kernel) (by decide +kernel)
theorem allAtoms_all (ts : List Jvm.Cond) (a : Array Jvm.Value) (st : Jvm.State) : (allAtoms ts).before a st = ts.all (fun c => c.before a st) := by
  induction ts with
  | nil => rfl
  | cons c t ih =>
    show (Jvm.Cond.and c (allAtoms t)).before a st = _
    rw [Jvm.Cond.before_and, ih, List.all_cons]
def words1 : List Jvm.Cond := Jvm.Cond.code x code maxLocals ret :: tables_1
/-- a 'code' word, met by the world's own term for the bytes: nothing is compared byte by byte -/
theorem code_word {y : MethodName} {bytes : ByteArray} {mx : Nat} {rt : Option FieldType} {a : Array Value} {s : State} {m : MethodId} {meth : Method} {c : Code} (h1 : s.methodNamed? y = some m) (h2 : s.vm.method? m = some meth) (h3 : meth.code = some c) (h4 : c.code = bytes)
    (h5 : (c.maxLocals == mx && c.exceptionTable.isEmpty && decide (c.maxStack ≤ mostOperands) && decide (meth.sig.returnType = rt) && !meth.locks && decide (parseMethodDescriptor y.desc = some meth.sig)) = true) : (Jvm.Cond.code y bytes mx rt).before a s = true := by
  simp only [Bool.and_eq_true, beq_iff_eq, Bool.not_eq_true', decide_eq_true_eq] at h5
  obtain ⟨⟨⟨⟨⟨g1, g2⟩, g3⟩, g4⟩, g5⟩, g6⟩ := h5
  simp [Cond.before, Cond.holds, Cond.value, h1, h2, h3, h4, g1, g2, g3, g4, g5, g6]
def isCode : Jvm.Cond → Bool
  | .code _ _ _ _ => true
  | _ => false
theorem all_split {L : List Jvm.Cond} {P : Jvm.Cond → Bool} (h1 : L.all (fun c => isCode c || P c) = true) (h2 : ∀ c ∈ L.filter isCode, P c = true) : L.all P = true := by
  refine List.all_eq_true.mpr fun c hc => ?_
  have h := List.all_eq_true.mp h1 c hc
  rcases Bool.eq_false_or_eq_true (isCode c) with hi | hi
  · exact h2 c (List.mem_filter.mpr ⟨hc, hi⟩)
  · simpa [hi] using h
set_option maxRecDepth 65536 in
theorem w_c0 : (Jvm.Cond.code x code maxLocals ret).before args0 about1 = true := code_word (m := ⟨1, 1⟩) (meth := k1m1) (c := k1c1) (by decide +kernel) rfl rfl rfl (by decide +kernel)
set_option maxRecDepth 65536 in
theorem w_c1 : (Jvm.Cond.code ({ cls := "com/example/knit/knit/exslt/SchemaDateTime$Type", name := "ofPrecision", desc := "(I)Lcom/example/knit/knit/exslt/SchemaDateTime$Type;" } : Jvm.MethodName) prog_13_method_5_code (1 : Nat) (Option.some (Jvm.ClassFile.FieldType.object "com/example/knit/knit/exslt/SchemaDateTime$Type"))).before args0 about1 = true := code_word (m := ⟨6, 1⟩) (meth := k6m1) (c := k6c1) (by decide +kernel) rfl rfl rfl (by decide +kernel)
set_option maxRecDepth 65536 in
theorem w_c2 : (Jvm.Cond.code ({ cls := "java/lang/Math", name := "min", desc := "(II)I" } : Jvm.MethodName) jdk_29_method_69_code (2 : Nat) (Option.some Jvm.ClassFile.FieldType.int)).before args0 about1 = true := code_word (m := ⟨7, 1⟩) (meth := k7m1) (c := k7c1) (by decide +kernel) rfl rfl rfl (by decide +kernel)
set_option maxRecDepth 65536 in
theorem w_c3 : (Jvm.Cond.code ({ cls := "com/example/knit/knit/exslt/SchemaDateTime", name := "<init>", desc := "(Lcom/example/knit/knit/exslt/SchemaDateTime$Type;JIIIILjava/math/BigDecimal;I)V" } : Jvm.MethodName) prog_12_method_1_code (10 : Nat) (Option.none : Option Jvm.ClassFile.FieldType)).before args0 about1 = true := code_word (m := ⟨9, 0⟩) (meth := k9m0) (c := k9c0) (by decide +kernel) rfl rfl rfl (by decide +kernel)
set_option maxRecDepth 65536 in
theorem w_c4 : (Jvm.Cond.code ({ cls := "java/lang/Record", name := "<init>", desc := "()V" } : Jvm.MethodName) jdk_30_method_1_code (1 : Nat) (Option.none : Option Jvm.ClassFile.FieldType)).before args0 about1 = true := code_word (m := ⟨8, 0⟩) (meth := k8m0) (c := k8c0) (by decide +kernel) rfl rfl rfl (by decide +kernel)
set_option maxRecDepth 65536 in
theorem w_c5 : (Jvm.Cond.code ({ cls := "java/lang/Object", name := "<init>", desc := "()V" } : Jvm.MethodName) object_method_1_code (1 : Nat) (Option.none : Option Jvm.ClassFile.FieldType)).before args0 about1 = true := code_word (m := ⟨0, 0⟩) (meth := k0m0) (c := k0c0) (by decide +kernel) rfl rfl rfl (by decide +kernel)
set_option maxRecDepth 65536 in
theorem w_c6 : (Jvm.Cond.code ({ cls := "com/example/knit/knit/exslt/SchemaDateTime$Type", name := "precision", desc := "()I" } : Jvm.MethodName) prog_13_method_4_code (1 : Nat) (Option.some Jvm.ClassFile.FieldType.int)).before args0 about1 = true := code_word (m := ⟨6, 0⟩) (meth := k6m0) (c := k6c0) (by decide +kernel) rfl rfl rfl (by decide +kernel)
set_option maxRecDepth 65536 in
theorem w_c7 : (Jvm.Cond.code ({ cls := "com/example/knit/knit/exslt/SchemaDateTime", name := "hasYear", desc := "()Z" } : Jvm.MethodName) prog_12_method_6_code (1 : Nat) (Option.some Jvm.ClassFile.FieldType.boolean)).before args0 about1 = true := code_word (m := ⟨9, 1⟩) (meth := k9m1) (c := k9c1) (by decide +kernel) rfl rfl rfl (by decide +kernel)
def codes1 : List Jvm.Cond := [Jvm.Cond.code x code maxLocals ret, Jvm.Cond.code ({ cls := "com/example/knit/knit/exslt/SchemaDateTime$Type", name := "ofPrecision", desc := "(I)Lcom/example/knit/knit/exslt/SchemaDateTime$Type;" } : Jvm.MethodName) prog_13_method_5_code (1 : Nat) (Option.some (Jvm.ClassFile.FieldType.object "com/example/knit/knit/exslt/SchemaDateTime$Type")), Jvm.Cond.code ({ cls := "java/lang/Math", name := "min", desc := "(II)I" } : Jvm.MethodName) jdk_29_method_69_code (2 : Nat) (Option.some Jvm.ClassFile.FieldType.int), Jvm.Cond.code ({ cls := "com/example/knit/knit/exslt/SchemaDateTime", name := "<init>", desc := "(Lcom/example/knit/knit/exslt/SchemaDateTime$Type;JIIIILjava/math/BigDecimal;I)V" } : Jvm.MethodName) prog_12_method_1_code (10 : Nat) (Option.none : Option Jvm.ClassFile.FieldType), Jvm.Cond.code ({ cls := "java/lang/Record", name := "<init>", desc := "()V" } : Jvm.MethodName) jdk_30_method_1_code (1 : Nat) (Option.none : Option Jvm.ClassFile.FieldType), Jvm.Cond.code ({ cls := "java/lang/Object", name := "<init>", desc := "()V" } : Jvm.MethodName) object_method_1_code (1 : Nat) (Option.none : Option Jvm.ClassFile.FieldType), Jvm.Cond.code ({ cls := "com/example/knit/knit/exslt/SchemaDateTime$Type", name := "precision", desc := "()I" } : Jvm.MethodName) prog_13_method_4_code (1 : Nat) (Option.some Jvm.ClassFile.FieldType.int), Jvm.Cond.code ({ cls := "com/example/knit/knit/exslt/SchemaDateTime", name := "hasYear", desc := "()Z" } : Jvm.MethodName) prog_12_method_6_code (1 : Nat) (Option.some Jvm.ClassFile.FieldType.boolean)]
set_option maxRecDepth 65536 in
theorem codes_eq : words1.filter isCode = codes1 := rfl
theorem w_codes : ∀ c ∈ words1.filter isCode, c.before args0 about1 = true := by
  rw [codes_eq]
  intro c hc
  simp only [codes1, List.mem_cons, List.not_mem_nil, or_false] at hc
  rcases hc with rfl | rfl | rfl | rfl | rfl | rfl | rfl | rfl
  · exact w_c0
  · exact w_c1
  · exact w_c2
  · exact w_c3
  · exact w_c4
  · exact w_c5
  · exact w_c6
  · exact w_c7
set_option maxRecDepth 65536 in
theorem w_t1 : (words1.take 24).all (fun c => isCode c || c.before args0 about1) = true := by decide +kernel
set_option maxRecDepth 65536 in
theorem w_t2 : ((words1.drop 24).take 24).all (fun c => isCode c || c.before args0 about1) = true := by decide +kernel
set_option maxRecDepth 65536 in
theorem w_t3 : ((words1.drop 24).drop 24).all (fun c => isCode c || c.before args0 about1) = true := by decide +kernel
theorem w_tables : (allAtoms (Jvm.Cond.code x code maxLocals ret :: tables_1)).before args0 about1 = true := by
  rw [allAtoms_all]
  show words1.all (fun c => c.before args0 about1) = true
  refine all_split ?_ w_codes
  rw [← List.take_append_drop 24 words1, List.all_append, w_t1, ← List.take_append_drop 24 (words1.drop 24), List.all_append, w_t2, w_t3]
  rfl
set_option maxRecDepth 65536 in
theorem w_case : (Jvm.Cond.and given_1 narrow_1).before args0 about1 = true := by decide +kernel
theorem w_applies : (headSpec (Jvm.Cond.code x code maxLocals ret :: tables_1) room_1).applies x e0.platform about1 = true :=
  (Spec.applies_iff w_frames).mpr ⟨w_running, w_runnable, w_alone, w_named, w_hears, w_ripe, w_room, w_tables⟩
theorem atStart : AtStart classFile x code maxLocals ret World_1 tables_1 room_1 Calls_1 rest_1 Pre_1 launch0 p0 e0 about1 theMethod args0 below0 :=
  ⟨lists_1, trivial, launch0.admits_env _ _ _, launch0.least_env, fairChoices_fair.cas, fairChoices_fair.clock, w_frames, w_args, w_heap, w_applies, trivial, trivial, w_case⟩
end start1
theorem witness_1 : WitnessClaimed_1 := ⟨start1.p0, start1.e0, start1.about1, start1.theMethod, start1.args0, start1.below0, start1.atStart⟩
end Jvm.Pilot.@@N@@
