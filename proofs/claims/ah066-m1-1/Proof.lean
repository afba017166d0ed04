import JvmDerived
import JvmDerived.Pilot.@@N@@Statement
import JvmDerived.Pilot.@@N@@Code
set_option linter.unusedVariables false
set_option linter.unusedSimpArgs false
namespace Jvm.RoadKit
open Sem ClassFile Op Lib Jvm.Stand Jvm.Free Jvm.LawKit
section New
variable {p : Program} {l : Launch} {e : Env} {R : Room} {s : State} {m : MethodId} {args : Array Value} {below : List Frame} {meth : Method} {c : Code} {T : State} {locs : List Loc} {cells slots : Nat}
theorem retI (X : Stand p l e R s m args below meth c T locs cells slots) (hx : p.tables.exec = Jvm.exec) {pc : Nat} {Ls : Array Slot} {z : Int32} {rest : List Value} (hret : meth.sig.returnType = some .int) (hd : decode c.code pc = .ok (.ireturn, 1)) {fs : List Frame}
    (hl : ∀ (f : JFrame) (acts : List Action), f.method = m → f.locked = none → f.entered = [] → (doReturn e (T.setTop f) acts (some (.int z))).1 = T.setFrames fs) : Steps p.tables e below (T.setTop (mkF m pc Ls (.int z :: rest))) (T.setFrames fs) := by
  have hm' : T.vm.method? m = some meth := X.method'
  have hn : narrow .int (.int z) = .int z := rfl
  show Steps p.tables e below (T.setTop { method := m, pc := pc, locals := Ls, stack := _ :: rest, locked := none }) _
  jvm_step X.here [X.here.top, hx, hd, hm', hret, hn]
  first | (intro acts; rw [hl _ acts rfl rfl rfl]) | rw [hl _ _ rfl rfl rfl]
  exact Steps.refl _
end New
end Jvm.RoadKit
namespace Jvm.Pilot.@@N@@
open Jvm Jvm.ClassFile Sem Op Lib Jvm.Free Jvm.Stand Jvm.LawKit Jvm.RoadKit Bundle Jvm.Pilot.@@N@@.Jvm.D
theorem own_ext_refl (h : Heap) : Ext h h := ⟨Nat.le_refl _, fun _ _ q => q⟩
theorem own_ext_trans {h h' h2 : Heap} (A : Ext h h') (B : Ext h' h2) : Ext h h2 := ⟨Nat.le_trans A.1 B.1, fun a c q => B.2 a c (A.2 a c q)⟩
theorem own_ext_keep {h h' h2 : Heap} {ws : List Addr} (A : Ext h h') (K : Keep h' h2 ws) (q : ∀ x ∈ ws, h.size ≤ x) : Ext h h2 := ⟨Nat.le_trans A.1 K.1, fun a c r => K.2.1 a c (A.2 a c r) fun z => absurd (Array.getElem?_eq_some_iff.mp r).1 (Nat.not_lt.mpr (q a z))⟩
theorem own_pin {args : Array Value} {Z : State} {t : Term} {C : String} (h : (Jvm.Cond.exactly t C).value args Z none Z [] = some true) : ∃ a, t.eval args Z none [] Z = some (.ref a) ∧ Exa Z Z.heap a C := by
  obtain ⟨a, ev⟩ := exa_v h
  exact ⟨a, ev, Exa.start ev h⟩
theorem own_fld {args : Array Value} {Z : State} {t : Term} {a : Addr} {C n d : String} {k : Int32} (ev : t.eval args Z none [] Z = some (.ref a)) (h : (Jvm.Cond.eq (.field t C n d) (.int k)).value args Z none Z [] = some true) : Fld Z Z.heap a C n d (.int k) := by
  obtain ⟨x, y, h1, h2, hk, -⟩ := cmp_v (Or.inl h)
  have h2' : y = .int k := (Option.some.inj h2).symm
  subst h2'
  have hx : ∃ z, x = .int z := by cases x <;> simp [Kin, Value.isRef] at hk ⊢
  obtain ⟨z, rfl⟩ := hx
  have hv : (Jvm.Cond.eq (.field t C n d) (.int k)).value args Z none Z [] = some (decide (z = k)) := by simp only [Jvm.Cond.value, h1, h2]
  have e : z = k := gotT hv h
  subst e
  exact Fld.start (by rw [← fld_at ev]; exact h1)
def Pins (Z : State) (w_CENTER w_FILL w_END w_START : Addr) : Prop := Sta Z Z.heap "com/example/blynds/blynds/engine/Gravity$Placement" "CENTER" "Lcom/example/blynds/blynds/engine/Gravity$Placement;" (.ref w_CENTER) ∧ Sta Z Z.heap "com/example/blynds/blynds/engine/Gravity$Placement" "FILL" "Lcom/example/blynds/blynds/engine/Gravity$Placement;" (.ref w_FILL) ∧ Sta Z Z.heap "com/example/blynds/blynds/engine/Gravity$Placement" "END" "Lcom/example/blynds/blynds/engine/Gravity$Placement;" (.ref w_END) ∧ Sta Z Z.heap "com/example/blynds/blynds/engine/Gravity$Placement" "START" "Lcom/example/blynds/blynds/engine/Gravity$Placement;" (.ref w_START) ∧ Exa Z Z.heap w_CENTER "com/example/blynds/blynds/engine/Gravity$Placement" ∧ Exa Z Z.heap w_FILL "com/example/blynds/blynds/engine/Gravity$Placement" ∧ Exa Z Z.heap w_END "com/example/blynds/blynds/engine/Gravity$Placement" ∧ Exa Z Z.heap w_START "com/example/blynds/blynds/engine/Gravity$Placement" ∧ Fld Z Z.heap w_CENTER "com/example/blynds/blynds/engine/Gravity$Placement" "towardStart" "Z" (.int (0 : Int32)) ∧ Fld Z Z.heap w_FILL "com/example/blynds/blynds/engine/Gravity$Placement" "towardStart" "Z" (.int (1 : Int32)) ∧ Fld Z Z.heap w_CENTER "com/example/blynds/blynds/engine/Gravity$Placement" "towardEnd" "Z" (.int (0 : Int32)) ∧ Fld Z Z.heap w_FILL "com/example/blynds/blynds/engine/Gravity$Placement" "towardEnd" "Z" (.int (1 : Int32)) ∧ Fld Z Z.heap w_END "com/example/blynds/blynds/engine/Gravity$Placement" "towardStart" "Z" (.int (0 : Int32)) ∧ Fld Z Z.heap w_START "com/example/blynds/blynds/engine/Gravity$Placement" "towardStart" "Z" (.int (1 : Int32)) ∧ Fld Z Z.heap w_END "com/example/blynds/blynds/engine/Gravity$Placement" "towardEnd" "Z" (.int (1 : Int32)) ∧ Fld Z Z.heap w_START "com/example/blynds/blynds/engine/Gravity$Placement" "towardEnd" "Z" (.int (0 : Int32))
def ofF (k : Int32) (wC wS wE wF : Addr) : Addr := if k = 0 then wC else if k = 1 then wS else if k = 2 then wE else wF
def tsF (k : Int32) : Int32 := if k = 0 then 0 else if k = 1 then 1 else if k = 2 then 0 else 1
def teF (k : Int32) : Int32 := if k = 0 then 0 else if k = 1 then 0 else if k = 2 then 1 else 1
def andF (ts1 te1 ts2 te2 : Int32) (wC wS wE wF : Addr) : Addr := if ts1 = 0 then (if ts2 = 0 then (if te1 = 0 then (if te2 = 0 then wC else wE) else wE) else (if te1 = 0 then (if te2 = 0 then wS else wF) else wF)) else (if te1 = 0 then (if te2 = 0 then wS else wF) else wF)
theorem own_mask3 (x : Int32) : x &&& 3 = 0 ∨ x &&& 3 = 1 ∨ x &&& 3 = 2 ∨ x &&& 3 = 3 := by
  have h := c_mask x 3 2 (by decide) (by decide)
  have h4 : (x &&& 3).toInt = 0 ∨ (x &&& 3).toInt = 1 ∨ (x &&& 3).toInt = 2 ∨ (x &&& 3).toInt = 3 := by omega
  rcases h4 with q | q | q | q
  · exact Or.inl (Int32.toInt_inj.mp (by rw [q]; decide))
  · exact Or.inr (Or.inl (Int32.toInt_inj.mp (by rw [q]; decide)))
  · exact Or.inr (Or.inr (Or.inl (Int32.toInt_inj.mp (by rw [q]; decide))))
  · exact Or.inr (Or.inr (Or.inr (Int32.toInt_inj.mp (by rw [q]; decide))))
theorem own_plain (x y : Int32) (wC wS wE wF : Addr) : andF (tsF ((x &&& 3) &&& 3)) (teF ((x &&& 3) &&& 3)) (tsF ((y &&& 3) &&& 3)) (teF ((y &&& 3) &&& 3)) wC wS wE wF = ofF (((x &&& 3) ||| (y &&& 3)) &&& 3) wC wS wE wF := by
  rcases own_mask3 x with h | h | h | h <;> rcases own_mask3 y with k | k | k | k <;> rw [h, k] <;> rfl
theorem own_exa {Z : State} {w_CENTER w_FILL w_END w_START : Addr} (P : Pins Z w_CENTER w_FILL w_END w_START) (k : Int32) : Exa Z Z.heap (ofF k w_CENTER w_START w_END w_FILL) "com/example/blynds/blynds/engine/Gravity$Placement" := by
  obtain ⟨S_CENTER, S_FILL, S_END, S_START, E_CENTER, E_FILL, E_END, E_START, F_towardStart_CENTER, F_towardStart_FILL, F_towardEnd_CENTER, F_towardEnd_FILL, F_towardStart_END, F_towardStart_START, F_towardEnd_END, F_towardEnd_START⟩ := P
  unfold ofF
  split
  · assumption
  · split
    · assumption
    · split <;> assumption
theorem own_ts {Z : State} {w_CENTER w_FILL w_END w_START : Addr} (P : Pins Z w_CENTER w_FILL w_END w_START) (k : Int32) : Fld Z Z.heap (ofF k w_CENTER w_START w_END w_FILL) "com/example/blynds/blynds/engine/Gravity$Placement" "towardStart" "Z" (.int (tsF k)) := by
  obtain ⟨S_CENTER, S_FILL, S_END, S_START, E_CENTER, E_FILL, E_END, E_START, F_towardStart_CENTER, F_towardStart_FILL, F_towardEnd_CENTER, F_towardEnd_FILL, F_towardStart_END, F_towardStart_START, F_towardEnd_END, F_towardEnd_START⟩ := P
  unfold ofF tsF
  split
  · assumption
  · split
    · assumption
    · split <;> assumption
theorem own_te {Z : State} {w_CENTER w_FILL w_END w_START : Addr} (P : Pins Z w_CENTER w_FILL w_END w_START) (k : Int32) : Fld Z Z.heap (ofF k w_CENTER w_START w_END w_FILL) "com/example/blynds/blynds/engine/Gravity$Placement" "towardEnd" "Z" (.int (teF k)) := by
  obtain ⟨S_CENTER, S_FILL, S_END, S_START, E_CENTER, E_FILL, E_END, E_START, F_towardStart_CENTER, F_towardStart_FILL, F_towardEnd_CENTER, F_towardEnd_FILL, F_towardStart_END, F_towardStart_START, F_towardEnd_END, F_towardEnd_START⟩ := P
  unfold ofF teF
  split
  · assumption
  · split
    · assumption
    · split <;> assumption
theorem ef_1 (m : MethodId) (x0 : Int32) : entryFrame m #[(.int x0)] 2 = mkF m 0 #[.val (.int x0), .unset] [] := by first | (simp [entryFrame, mkF, argsToLocals, Value.category]; done) | rfl
theorem pn_com_example_blynds_blynds_engine_GravityAndPinLaw : plainName "com/example/blynds/blynds/engine/GravityAndPinLaw" = true := by first | (simp [plainName, overriddenIn]; done) | decide +kernel
theorem d1_0 : decode method_2_code 0 = .ok (.iload_n 0, 1) := by decide +kernel
theorem d1_1 : decode method_2_code 1 = .ok (.iconst 3, 1) := by decide +kernel
theorem d1_2 : decode method_2_code 2 = .ok (.iand, 1) := by decide +kernel
theorem d1_3 : decode method_2_code 3 = .ok (.istore_n 1, 1) := by decide +kernel
theorem d1_4 : decode method_2_code 4 = .ok (.iload_n 1, 1) := by decide +kernel
theorem d1_5 : decode method_2_code 5 = .ok (.ifCond .ne 7, 3) := by decide +kernel
theorem d1_8 : decode method_2_code 8 = .ok (.getstatic 7, 3) := by decide +kernel
theorem d1_11 : decode method_2_code 11 = .ok (.areturn, 1) := by decide +kernel
theorem d1_12 : decode method_2_code 12 = .ok (.iload_n 1, 1) := by decide +kernel
theorem d1_13 : decode method_2_code 13 = .ok (.iconst 1, 1) := by decide +kernel
theorem d1_14 : decode method_2_code 14 = .ok (.if_icmp .ne 7, 3) := by decide +kernel
theorem d1_17 : decode method_2_code 17 = .ok (.getstatic 13, 3) := by decide +kernel
theorem d1_20 : decode method_2_code 20 = .ok (.areturn, 1) := by decide +kernel
theorem d1_21 : decode method_2_code 21 = .ok (.iload_n 1, 1) := by decide +kernel
theorem d1_22 : decode method_2_code 22 = .ok (.iconst 2, 1) := by decide +kernel
theorem d1_23 : decode method_2_code 23 = .ok (.if_icmp .ne 7, 3) := by decide +kernel
theorem d1_26 : decode method_2_code 26 = .ok (.getstatic 16, 3) := by decide +kernel
theorem d1_29 : decode method_2_code 29 = .ok (.areturn, 1) := by decide +kernel
theorem d1_30 : decode method_2_code 30 = .ok (.getstatic 19, 3) := by decide +kernel
theorem d1_33 : decode method_2_code 33 = .ok (.areturn, 1) := by decide +kernel
def Q_rm_of (Z : State) (p1 : Int32) (w_CENTER w_FILL w_END w_START : Addr) (h0 : Heap) (n0 : Nat) (v : Option Value) (h : Heap) (L : List Loc) : Prop := v = some (.ref (ofF (p1 &&& (3 : Int32)) w_CENTER w_START w_END w_FILL)) ∧ Fr n0 L ∧ h = h0
set_option maxRecDepth 65536 in
set_option maxHeartbeats 40000000 in
theorem rm_of (l : Launch) (Z : State) (a0 : Array Value) (hw : ∀ d ∈ tables_1, d.before a0 Z = true) (ws : List Jvm.Cond) (p1 : Int32) (w_CENTER w_FILL w_END w_START : Addr) (h0 : Heap) (n0 : Nat) (Z0 : n0 ≤ h0.size) (O0 : Ext Z.heap h0) (P : Pins Z w_CENTER w_FILL w_END w_START) :
    MetFree l (⟨"com/example/blynds/blynds/engine/GravityAndPinLaw", "of", "(I)Lcom/example/blynds/blynds/engine/Gravity$Placement;"⟩ : MethodName) (head1 (Jvm.Cond.code (⟨"com/example/blynds/blynds/engine/GravityAndPinLaw", "of", "(I)Lcom/example/blynds/blynds/engine/Gravity$Placement;"⟩ : MethodName) method_2_code 2 (some (.object "com/example/blynds/blynds/engine/Gravity$Placement")) :: ws) ({ frames := 0, cells := 0, slots := 0, locals := 0 } : Room)) (fun a U => a = #[(.int p1)] ∧ Z.Warmed39 U.vm ∧ U.heap = h0) (fun _ _ _ _ _ => True) (fun _ U o U' => ∃ v L, o = .returned v ∧ Q_rm_of Z p1 w_CENTER w_FILL w_END w_START h0 n0 v U'.heap L ∧ FrameEnd U o U' L ({ frames := 0, cells := 0, slots := 0, locals := 0 } : Room).cells ({ frames := 0, cells := 0, slots := 0, locals := 0 } : Room).slots) := by
  refine MetFree.of_bodySF (plainFor_of_name pn_com_example_blynds_blynds_engine_GravityAndPinLaw) hisR ?_
  intro p e s m args below meth c s₁ Bd hml0 hP hK
  obtain ⟨rfl, hZ, hh⟩ := hP
  have hx := Bd.exec
  have hby := Bd.bytes
  have hml : c.maxLocals = 2 := hml0
  have hown : s.vm.findClass "com/example/blynds/blynds/engine/GravityAndPinLaw" = some m.cls := findClass_of_methodNamed Bd.named
  have hnm := (name_of_methodNamed Bd.named Bd.method).1
  have X0 : Stand p l e ({ frames := 0, cells := 0, slots := 0, locals := 0 } : Room) s m #[(.int p1)] below meth c s₁ [] 0 0 := Stand.of_body Bd
  have e0 : s₁.heap = h0 := by rw [← hh, Bd.state]; rfl
  have N0 := Fr.nil n0
  have pre0 : ∀ t, Steps p.tables e below (s₁.setTop (mkF m 0 #[.val (.int p1), .unset] [])) t → Steps p.tables e below (s₁.setTop (entryFrame m #[(.int p1)] 2)) t := fun t k => castTop (ef_1 m p1) k
  obtain ⟨S_CENTER, S_FILL, S_END, S_START, E_CENTER, E_FILL, E_END, E_START, F_towardStart_CENTER, F_towardStart_FILL, F_towardEnd_CENTER, F_towardEnd_FILL, F_towardStart_END, F_towardStart_START, F_towardEnd_END, F_towardEnd_START⟩ := P
  have pre1 : ∀ t, Steps p.tables e below (s₁.setTop (mkF m 5 #[.val (.int p1), .val (.int (p1 &&& (3 : Int32)))] [(.int (p1 &&& (3 : Int32)))])) t → Steps p.tables e below (s₁.setTop (entryFrame m #[(.int p1)] 2)) t := fun t k => pre0 t (by
    show Steps p.tables e below (s₁.setTop (mkF m 0 #[.val (.int p1), .unset] [])) _
    refine XS.iloadN X0.here hx rfl (hb hby d1_0) rfl ?_
    show Steps p.tables e below (s₁.setTop (mkF m 1 #[.val (.int p1), .unset] [(.int p1)])) _
    refine XS.iconst X0.here hx rfl (hb hby d1_1) ?_
    show Steps p.tables e below (s₁.setTop (mkF m 2 #[.val (.int p1), .unset] [(.int (3 : Int32)), (.int p1)])) _
    refine XS.iand X0.here hx rfl (hb hby d1_2) rfl ?_
    show Steps p.tables e below (s₁.setTop (mkF m 3 #[.val (.int p1), .unset] [(.int (p1 &&& (3 : Int32)))])) _
    refine XS.istoreN X0.here hx rfl (hb hby d1_3) rfl (l' := #[.val (.int p1), .val (.int (p1 &&& (3 : Int32)))]) rfl ?_
    show Steps p.tables e below (s₁.setTop (mkF m 4 #[.val (.int p1), .val (.int (p1 &&& (3 : Int32)))] [])) _
    refine XS.iloadN X0.here hx rfl (hb hby d1_4) rfl ?_
    exact k)
  by_cases hc5_2 : (p1 &&& (3 : Int32)) = (0 : Int32)
  · have pre3 : ∀ t, Steps p.tables e below (s₁.setTop (mkF m 8 #[.val (.int p1), .val (.int (p1 &&& (3 : Int32)))] [])) t → Steps p.tables e below (s₁.setTop (entryFrame m #[(.int p1)] 2)) t := fun t k => pre1 t (by
      show Steps p.tables e below (s₁.setTop (mkF m 5 #[.val (.int p1), .val (.int (p1 &&& (3 : Int32)))] [(.int (p1 &&& (3 : Int32)))])) _
      refine XS.ifNo X0.here hx rfl (hb hby d1_5) rfl ((if0 _ _).trans (teq hc5_2).2) ?_
      exact k)
    obtain ⟨T4, X4, e4, st4⟩ := getS2 X0 hx hZ hown (host := "") (Or.inl (hw _ (List.mem_of_getElem? (i := 4) rfl))) Via.refl e0 (Sta.ext O0 S_CENTER) (g := (mkF m 8 #[.val (.int p1), .val (.int (p1 &&& (3 : Int32)))] [])) rfl (hb hby d1_8)
    have pre5 : ∀ t, Steps p.tables e below (T4.setTop (mkF m 11 #[.val (.int p1), .val (.int (p1 &&& (3 : Int32)))] [(.ref w_CENTER)])) t → Steps p.tables e below (s₁.setTop (entryFrame m #[(.int p1)] 2)) t := fun t k => pre3 t (st4 t k)
    obtain ⟨fs, hr, hrun, hended, hW, hsame⟩ := X4.leave (v := some (.ref w_CENTER)) (fun h => by rw [Bd.returns] at h; cases h)
    refine ⟨_, _, pre5 _ ?_, hrun, hended, _, _, rfl, ?_, ⟨_, rfl⟩, hW, hsame.mono (by decide) (by decide)⟩
    · show Steps p.tables e below (T4.setTop (mkF m 11 #[.val (.int p1), .val (.int (p1 &&& (3 : Int32)))] [(.ref w_CENTER)])) _
      jvm_step X4.here [X4.here.top, hx, (hb hby d1_11), X4.method', Bd.returns, Value.isRef, FieldType.isReference]
      first | (intro acts; rw [hr _ acts rfl rfl rfl]) | rw [hr _ _ rfl rfl rfl]
      exact Steps.refl _
    · show Q_rm_of Z p1 w_CENTER w_FILL w_END w_START h0 n0 _ T4.heap _
      rw [e4]
      exact ⟨(by simp [ofF, hc5_2]), N0, rfl⟩
  · have pre6 : ∀ t, Steps p.tables e below (s₁.setTop (mkF m 14 #[.val (.int p1), .val (.int (p1 &&& (3 : Int32)))] [(.int (1 : Int32)), (.int (p1 &&& (3 : Int32)))])) t → Steps p.tables e below (s₁.setTop (entryFrame m #[(.int p1)] 2)) t := fun t k => pre1 t (by
      show Steps p.tables e below (s₁.setTop (mkF m 5 #[.val (.int p1), .val (.int (p1 &&& (3 : Int32)))] [(.int (p1 &&& (3 : Int32)))])) _
      refine XS.ifYes X0.here hx rfl (pc0 := 5) (pc' := 12) rfl (hb hby d1_5) rfl ((if0 _ _).trans (feq hc5_2).2) (by decide) (by decide) ?_
      show Steps p.tables e below (s₁.setTop (mkF m 12 #[.val (.int p1), .val (.int (p1 &&& (3 : Int32)))] [])) _
      refine XS.iloadN X0.here hx rfl (hb hby d1_12) rfl ?_
      show Steps p.tables e below (s₁.setTop (mkF m 13 #[.val (.int p1), .val (.int (p1 &&& (3 : Int32)))] [(.int (p1 &&& (3 : Int32)))])) _
      refine XS.iconst X0.here hx rfl (hb hby d1_13) ?_
      exact k)
    by_cases hc14_7 : (p1 &&& (3 : Int32)) = (1 : Int32)
    · have pre8 : ∀ t, Steps p.tables e below (s₁.setTop (mkF m 17 #[.val (.int p1), .val (.int (p1 &&& (3 : Int32)))] [])) t → Steps p.tables e below (s₁.setTop (entryFrame m #[(.int p1)] 2)) t := fun t k => pre6 t (by
        show Steps p.tables e below (s₁.setTop (mkF m 14 #[.val (.int p1), .val (.int (p1 &&& (3 : Int32)))] [(.int (1 : Int32)), (.int (p1 &&& (3 : Int32)))])) _
        refine XS.icmpNo X0.here hx rfl (hb hby d1_14) rfl (teq hc14_7).2 ?_
        exact k)
      obtain ⟨T9, X9, e9, st9⟩ := getS2 X0 hx hZ hown (host := "") (Or.inl (hw _ (List.mem_of_getElem? (i := 21) rfl))) Via.refl e0 (Sta.ext O0 S_START) (g := (mkF m 17 #[.val (.int p1), .val (.int (p1 &&& (3 : Int32)))] [])) rfl (hb hby d1_17)
      have pre10 : ∀ t, Steps p.tables e below (T9.setTop (mkF m 20 #[.val (.int p1), .val (.int (p1 &&& (3 : Int32)))] [(.ref w_START)])) t → Steps p.tables e below (s₁.setTop (entryFrame m #[(.int p1)] 2)) t := fun t k => pre8 t (st9 t k)
      obtain ⟨fs, hr, hrun, hended, hW, hsame⟩ := X9.leave (v := some (.ref w_START)) (fun h => by rw [Bd.returns] at h; cases h)
      refine ⟨_, _, pre10 _ ?_, hrun, hended, _, _, rfl, ?_, ⟨_, rfl⟩, hW, hsame.mono (by decide) (by decide)⟩
      · show Steps p.tables e below (T9.setTop (mkF m 20 #[.val (.int p1), .val (.int (p1 &&& (3 : Int32)))] [(.ref w_START)])) _
        jvm_step X9.here [X9.here.top, hx, (hb hby d1_20), X9.method', Bd.returns, Value.isRef, FieldType.isReference]
        first | (intro acts; rw [hr _ acts rfl rfl rfl]) | rw [hr _ _ rfl rfl rfl]
        exact Steps.refl _
      · show Q_rm_of Z p1 w_CENTER w_FILL w_END w_START h0 n0 _ T9.heap _
        rw [e9]
        exact ⟨(by simp [ofF, hc5_2, hc14_7]), N0, rfl⟩
    · have pre11 : ∀ t, Steps p.tables e below (s₁.setTop (mkF m 23 #[.val (.int p1), .val (.int (p1 &&& (3 : Int32)))] [(.int (2 : Int32)), (.int (p1 &&& (3 : Int32)))])) t → Steps p.tables e below (s₁.setTop (entryFrame m #[(.int p1)] 2)) t := fun t k => pre6 t (by
        show Steps p.tables e below (s₁.setTop (mkF m 14 #[.val (.int p1), .val (.int (p1 &&& (3 : Int32)))] [(.int (1 : Int32)), (.int (p1 &&& (3 : Int32)))])) _
        refine XS.icmpYes X0.here hx rfl (pc0 := 14) (pc' := 21) rfl (hb hby d1_14) rfl (feq hc14_7).2 (by decide) (by decide) ?_
        show Steps p.tables e below (s₁.setTop (mkF m 21 #[.val (.int p1), .val (.int (p1 &&& (3 : Int32)))] [])) _
        refine XS.iloadN X0.here hx rfl (hb hby d1_21) rfl ?_
        show Steps p.tables e below (s₁.setTop (mkF m 22 #[.val (.int p1), .val (.int (p1 &&& (3 : Int32)))] [(.int (p1 &&& (3 : Int32)))])) _
        refine XS.iconst X0.here hx rfl (hb hby d1_22) ?_
        exact k)
      by_cases hc23_12 : (p1 &&& (3 : Int32)) = (2 : Int32)
      · have pre13 : ∀ t, Steps p.tables e below (s₁.setTop (mkF m 26 #[.val (.int p1), .val (.int (p1 &&& (3 : Int32)))] [])) t → Steps p.tables e below (s₁.setTop (entryFrame m #[(.int p1)] 2)) t := fun t k => pre11 t (by
          show Steps p.tables e below (s₁.setTop (mkF m 23 #[.val (.int p1), .val (.int (p1 &&& (3 : Int32)))] [(.int (2 : Int32)), (.int (p1 &&& (3 : Int32)))])) _
          refine XS.icmpNo X0.here hx rfl (hb hby d1_23) rfl (teq hc23_12).2 ?_
          exact k)
        obtain ⟨T14, X14, e14, st14⟩ := getS2 X0 hx hZ hown (host := "") (Or.inl (hw _ (List.mem_of_getElem? (i := 19) rfl))) Via.refl e0 (Sta.ext O0 S_END) (g := (mkF m 26 #[.val (.int p1), .val (.int (p1 &&& (3 : Int32)))] [])) rfl (hb hby d1_26)
        have pre15 : ∀ t, Steps p.tables e below (T14.setTop (mkF m 29 #[.val (.int p1), .val (.int (p1 &&& (3 : Int32)))] [(.ref w_END)])) t → Steps p.tables e below (s₁.setTop (entryFrame m #[(.int p1)] 2)) t := fun t k => pre13 t (st14 t k)
        obtain ⟨fs, hr, hrun, hended, hW, hsame⟩ := X14.leave (v := some (.ref w_END)) (fun h => by rw [Bd.returns] at h; cases h)
        refine ⟨_, _, pre15 _ ?_, hrun, hended, _, _, rfl, ?_, ⟨_, rfl⟩, hW, hsame.mono (by decide) (by decide)⟩
        · show Steps p.tables e below (T14.setTop (mkF m 29 #[.val (.int p1), .val (.int (p1 &&& (3 : Int32)))] [(.ref w_END)])) _
          jvm_step X14.here [X14.here.top, hx, (hb hby d1_29), X14.method', Bd.returns, Value.isRef, FieldType.isReference]
          first | (intro acts; rw [hr _ acts rfl rfl rfl]) | rw [hr _ _ rfl rfl rfl]
          exact Steps.refl _
        · show Q_rm_of Z p1 w_CENTER w_FILL w_END w_START h0 n0 _ T14.heap _
          rw [e14]
          exact ⟨(by simp [ofF, hc5_2, hc14_7, hc23_12]), N0, rfl⟩
      · have pre16 : ∀ t, Steps p.tables e below (s₁.setTop (mkF m 30 #[.val (.int p1), .val (.int (p1 &&& (3 : Int32)))] [])) t → Steps p.tables e below (s₁.setTop (entryFrame m #[(.int p1)] 2)) t := fun t k => pre11 t (by
          show Steps p.tables e below (s₁.setTop (mkF m 23 #[.val (.int p1), .val (.int (p1 &&& (3 : Int32)))] [(.int (2 : Int32)), (.int (p1 &&& (3 : Int32)))])) _
          refine XS.icmpYes X0.here hx rfl (pc0 := 23) (pc' := 30) rfl (hb hby d1_23) rfl (feq hc23_12).2 (by decide) (by decide) ?_
          exact k)
        obtain ⟨T17, X17, e17, st17⟩ := getS2 X0 hx hZ hown (host := "") (Or.inl (hw _ (List.mem_of_getElem? (i := 7) rfl))) Via.refl e0 (Sta.ext O0 S_FILL) (g := (mkF m 30 #[.val (.int p1), .val (.int (p1 &&& (3 : Int32)))] [])) rfl (hb hby d1_30)
        have pre18 : ∀ t, Steps p.tables e below (T17.setTop (mkF m 33 #[.val (.int p1), .val (.int (p1 &&& (3 : Int32)))] [(.ref w_FILL)])) t → Steps p.tables e below (s₁.setTop (entryFrame m #[(.int p1)] 2)) t := fun t k => pre16 t (st17 t k)
        obtain ⟨fs, hr, hrun, hended, hW, hsame⟩ := X17.leave (v := some (.ref w_FILL)) (fun h => by rw [Bd.returns] at h; cases h)
        refine ⟨_, _, pre18 _ ?_, hrun, hended, _, _, rfl, ?_, ⟨_, rfl⟩, hW, hsame.mono (by decide) (by decide)⟩
        · show Steps p.tables e below (T17.setTop (mkF m 33 #[.val (.int p1), .val (.int (p1 &&& (3 : Int32)))] [(.ref w_FILL)])) _
          jvm_step X17.here [X17.here.top, hx, (hb hby d1_33), X17.method', Bd.returns, Value.isRef, FieldType.isReference]
          first | (intro acts; rw [hr _ acts rfl rfl rfl]) | rw [hr _ _ rfl rfl rfl]
          exact Steps.refl _
        · show Q_rm_of Z p1 w_CENTER w_FILL w_END w_START h0 n0 _ T17.heap _
          rw [e17]
          exact ⟨(by simp [ofF, hc5_2, hc14_7, hc23_12]), N0, rfl⟩
theorem ef_2 (m : MethodId) (x0 : Addr) (x1 : Addr) : entryFrame m #[(.ref x0), (.ref x1)] 4 = mkF m 0 #[.val (.ref x0), .val (.ref x1), .unset, .unset] [] := by first | (simp [entryFrame, mkF, argsToLocals, Value.category]; done) | rfl
theorem pn_com_example_blynds_blynds_engine_Gravity_Placement : plainName "com/example/blynds/blynds/engine/Gravity$Placement" = true := by first | (simp [plainName, overriddenIn]; done) | decide +kernel
theorem d2_0 : decode prog_20_method_4_code 0 = .ok (.aload_n 0, 1) := by decide +kernel
theorem d2_1 : decode prog_20_method_4_code 1 = .ok (.getfield 35, 3) := by decide +kernel
theorem d2_4 : decode prog_20_method_4_code 4 = .ok (.ifCond .ne 10, 3) := by decide +kernel
theorem d2_7 : decode prog_20_method_4_code 7 = .ok (.aload_n 1, 1) := by decide +kernel
theorem d2_8 : decode prog_20_method_4_code 8 = .ok (.getfield 35, 3) := by decide +kernel
theorem d2_11 : decode prog_20_method_4_code 11 = .ok (.ifCond .eq 7, 3) := by decide +kernel
theorem d2_18 : decode prog_20_method_4_code 18 = .ok (.iconst 0, 1) := by decide +kernel
theorem d2_19 : decode prog_20_method_4_code 19 = .ok (.istore_n 2, 1) := by decide +kernel
theorem d2_20 : decode prog_20_method_4_code 20 = .ok (.aload_n 0, 1) := by decide +kernel
theorem d2_21 : decode prog_20_method_4_code 21 = .ok (.getfield 39, 3) := by decide +kernel
theorem d2_24 : decode prog_20_method_4_code 24 = .ok (.ifCond .ne 10, 3) := by decide +kernel
theorem d2_27 : decode prog_20_method_4_code 27 = .ok (.aload_n 1, 1) := by decide +kernel
theorem d2_28 : decode prog_20_method_4_code 28 = .ok (.getfield 39, 3) := by decide +kernel
theorem d2_31 : decode prog_20_method_4_code 31 = .ok (.ifCond .eq 7, 3) := by decide +kernel
theorem d2_38 : decode prog_20_method_4_code 38 = .ok (.iconst 0, 1) := by decide +kernel
theorem d2_39 : decode prog_20_method_4_code 39 = .ok (.istore_n 3, 1) := by decide +kernel
theorem d2_40 : decode prog_20_method_4_code 40 = .ok (.iload_n 2, 1) := by decide +kernel
theorem d2_41 : decode prog_20_method_4_code 41 = .ok (.ifCond .eq 17, 3) := by decide +kernel
theorem d2_58 : decode prog_20_method_4_code 58 = .ok (.iload_n 3, 1) := by decide +kernel
theorem d2_59 : decode prog_20_method_4_code 59 = .ok (.ifCond .eq 9, 3) := by decide +kernel
theorem d2_68 : decode prog_20_method_4_code 68 = .ok (.getstatic 10, 3) := by decide +kernel
theorem d2_71 : decode prog_20_method_4_code 71 = .ok (.areturn, 1) := by decide +kernel
theorem d2_34 : decode prog_20_method_4_code 34 = .ok (.iconst 1, 1) := by decide +kernel
theorem d2_35 : decode prog_20_method_4_code 35 = .ok (.goto 4, 3) := by decide +kernel
theorem d2_62 : decode prog_20_method_4_code 62 = .ok (.getstatic 7, 3) := by decide +kernel
theorem d2_65 : decode prog_20_method_4_code 65 = .ok (.goto 6, 3) := by decide +kernel
theorem d2_14 : decode prog_20_method_4_code 14 = .ok (.iconst 1, 1) := by decide +kernel
theorem d2_15 : decode prog_20_method_4_code 15 = .ok (.goto 4, 3) := by decide +kernel
theorem d2_44 : decode prog_20_method_4_code 44 = .ok (.iload_n 3, 1) := by decide +kernel
theorem d2_45 : decode prog_20_method_4_code 45 = .ok (.ifCond .eq 9, 3) := by decide +kernel
theorem d2_54 : decode prog_20_method_4_code 54 = .ok (.getstatic 3, 3) := by decide +kernel
theorem d2_57 : decode prog_20_method_4_code 57 = .ok (.areturn, 1) := by decide +kernel
theorem d2_48 : decode prog_20_method_4_code 48 = .ok (.getstatic 13, 3) := by decide +kernel
theorem d2_51 : decode prog_20_method_4_code 51 = .ok (.goto 6, 3) := by decide +kernel
def Q_rm_and (Z : State) (a1 : Addr) (a2 : Addr) (ts1 te1 ts2 te2 : Int32) (w_CENTER w_FILL w_END w_START : Addr) (h0 : Heap) (n0 : Nat) (v : Option Value) (h : Heap) (L : List Loc) : Prop := v = some (.ref (andF ts1 te1 ts2 te2 w_CENTER w_START w_END w_FILL)) ∧ Fr n0 L ∧ h = h0
set_option maxRecDepth 65536 in
set_option maxHeartbeats 40000000 in
theorem rm_and (l : Launch) (Z : State) (a0 : Array Value) (hw : ∀ d ∈ tables_1, d.before a0 Z = true) (ws : List Jvm.Cond) (a1 : Addr) (a2 : Addr) (ts1 te1 ts2 te2 : Int32) (w_CENTER w_FILL w_END w_START : Addr) (h0 : Heap) (n0 : Nat) (Z0 : n0 ≤ h0.size) (O0 : Ext Z.heap h0) (P : Pins Z w_CENTER w_FILL w_END w_START) (Fs1 : Fld Z h0 a1 "com/example/blynds/blynds/engine/Gravity$Placement" "towardStart" "Z" (.int ts1)) (Fe1 : Fld Z h0 a1 "com/example/blynds/blynds/engine/Gravity$Placement" "towardEnd" "Z" (.int te1)) (Fs2 : Fld Z h0 a2 "com/example/blynds/blynds/engine/Gravity$Placement" "towardStart" "Z" (.int ts2)) (Fe2 : Fld Z h0 a2 "com/example/blynds/blynds/engine/Gravity$Placement" "towardEnd" "Z" (.int te2)) :
    MetFree l (⟨"com/example/blynds/blynds/engine/Gravity$Placement", "and", "(Lcom/example/blynds/blynds/engine/Gravity$Placement;)Lcom/example/blynds/blynds/engine/Gravity$Placement;"⟩ : MethodName) (head1 (Jvm.Cond.code (⟨"com/example/blynds/blynds/engine/Gravity$Placement", "and", "(Lcom/example/blynds/blynds/engine/Gravity$Placement;)Lcom/example/blynds/blynds/engine/Gravity$Placement;"⟩ : MethodName) prog_20_method_4_code 4 (some (.object "com/example/blynds/blynds/engine/Gravity$Placement")) :: ws) ({ frames := 0, cells := 0, slots := 0, locals := 0 } : Room)) (fun a U => a = #[(.ref a1), (.ref a2)] ∧ Z.Warmed39 U.vm ∧ U.heap = h0) (fun _ _ _ _ _ => True) (fun _ U o U' => ∃ v L, o = .returned v ∧ Q_rm_and Z a1 a2 ts1 te1 ts2 te2 w_CENTER w_FILL w_END w_START h0 n0 v U'.heap L ∧ FrameEnd U o U' L ({ frames := 0, cells := 0, slots := 0, locals := 0 } : Room).cells ({ frames := 0, cells := 0, slots := 0, locals := 0 } : Room).slots) := by
  refine MetFree.of_bodySF (plainFor_of_name pn_com_example_blynds_blynds_engine_Gravity_Placement) hisR ?_
  intro p e s m args below meth c s₁ Bd hml0 hP hK
  obtain ⟨rfl, hZ, hh⟩ := hP
  have hx := Bd.exec
  have hby := Bd.bytes
  have hml : c.maxLocals = 4 := hml0
  have hown : s.vm.findClass "com/example/blynds/blynds/engine/Gravity$Placement" = some m.cls := findClass_of_methodNamed Bd.named
  have hnm := (name_of_methodNamed Bd.named Bd.method).1
  have X0 : Stand p l e ({ frames := 0, cells := 0, slots := 0, locals := 0 } : Room) s m #[(.ref a1), (.ref a2)] below meth c s₁ [] 0 0 := Stand.of_body Bd
  have e0 : s₁.heap = h0 := by rw [← hh, Bd.state]; rfl
  have N0 := Fr.nil n0
  have pre0 : ∀ t, Steps p.tables e below (s₁.setTop (mkF m 0 #[.val (.ref a1), .val (.ref a2), .unset, .unset] [])) t → Steps p.tables e below (s₁.setTop (entryFrame m #[(.ref a1), (.ref a2)] 4)) t := fun t k => castTop (ef_2 m a1 a2) k
  obtain ⟨S_CENTER, S_FILL, S_END, S_START, E_CENTER, E_FILL, E_END, E_START, F_towardStart_CENTER, F_towardStart_FILL, F_towardEnd_CENTER, F_towardEnd_FILL, F_towardStart_END, F_towardStart_START, F_towardEnd_END, F_towardEnd_START⟩ := P
  have pre1 : ∀ t, Steps p.tables e below (s₁.setTop (mkF m 1 #[.val (.ref a1), .val (.ref a2), .unset, .unset] [(.ref a1)])) t → Steps p.tables e below (s₁.setTop (entryFrame m #[(.ref a1), (.ref a2)] 4)) t := fun t k => pre0 t (by
    show Steps p.tables e below (s₁.setTop (mkF m 0 #[.val (.ref a1), .val (.ref a2), .unset, .unset] [])) _
    refine XS.aloadN X0.here hx rfl (hb hby d2_0) rfl rfl ?_
    exact k)
  obtain ⟨T2, X2, e2, st2⟩ := getF X0 hx hZ hown (host := "") (Or.inl (hw _ (List.mem_of_getElem? (i := 14) rfl))) Via.refl e0 Fs1 (g := (mkF m 1 #[.val (.ref a1), .val (.ref a2), .unset, .unset] [(.ref a1)])) rfl rfl (hb hby d2_1)
  have pre3 : ∀ t, Steps p.tables e below (T2.setTop (mkF m 4 #[.val (.ref a1), .val (.ref a2), .unset, .unset] [(.int ts1)])) t → Steps p.tables e below (s₁.setTop (entryFrame m #[(.ref a1), (.ref a2)] 4)) t := fun t k => pre1 t (st2 t k)
  by_cases hc4_4 : ts1 = (0 : Int32)
  · have pre5 : ∀ t, Steps p.tables e below (T2.setTop (mkF m 8 #[.val (.ref a1), .val (.ref a2), .unset, .unset] [(.ref a2)])) t → Steps p.tables e below (s₁.setTop (entryFrame m #[(.ref a1), (.ref a2)] 4)) t := fun t k => pre3 t (by
      show Steps p.tables e below (T2.setTop (mkF m 4 #[.val (.ref a1), .val (.ref a2), .unset, .unset] [(.int ts1)])) _
      refine XS.ifNo X2.here hx rfl (hb hby d2_4) rfl ((if0 _ _).trans (teq hc4_4).2) ?_
      show Steps p.tables e below (T2.setTop (mkF m 7 #[.val (.ref a1), .val (.ref a2), .unset, .unset] [])) _
      refine XS.aloadN X2.here hx rfl (hb hby d2_7) rfl rfl ?_
      exact k)
    obtain ⟨T6, X6, e6, st6⟩ := getF X2 hx hZ hown (host := "") (Or.inl (hw _ (List.mem_of_getElem? (i := 14) rfl))) Via.refl e2 Fs2 (g := (mkF m 8 #[.val (.ref a1), .val (.ref a2), .unset, .unset] [(.ref a2)])) rfl rfl (hb hby d2_8)
    have pre7 : ∀ t, Steps p.tables e below (T6.setTop (mkF m 11 #[.val (.ref a1), .val (.ref a2), .unset, .unset] [(.int ts2)])) t → Steps p.tables e below (s₁.setTop (entryFrame m #[(.ref a1), (.ref a2)] 4)) t := fun t k => pre5 t (st6 t k)
    by_cases hc11_8 : ts2 = (0 : Int32)
    · have pre9 : ∀ t, Steps p.tables e below (T6.setTop (mkF m 21 #[.val (.ref a1), .val (.ref a2), .val (.int (0 : Int32)), .unset] [(.ref a1)])) t → Steps p.tables e below (s₁.setTop (entryFrame m #[(.ref a1), (.ref a2)] 4)) t := fun t k => pre7 t (by
        show Steps p.tables e below (T6.setTop (mkF m 11 #[.val (.ref a1), .val (.ref a2), .unset, .unset] [(.int ts2)])) _
        refine XS.ifYes X6.here hx rfl (pc0 := 11) (pc' := 18) rfl (hb hby d2_11) rfl ((if0 _ _).trans (teq hc11_8).1) (by decide) (by decide) ?_
        show Steps p.tables e below (T6.setTop (mkF m 18 #[.val (.ref a1), .val (.ref a2), .unset, .unset] [])) _
        refine XS.iconst X6.here hx rfl (hb hby d2_18) ?_
        show Steps p.tables e below (T6.setTop (mkF m 19 #[.val (.ref a1), .val (.ref a2), .unset, .unset] [(.int (0 : Int32))])) _
        refine XS.istoreN X6.here hx rfl (hb hby d2_19) rfl (l' := #[.val (.ref a1), .val (.ref a2), .val (.int (0 : Int32)), .unset]) rfl ?_
        show Steps p.tables e below (T6.setTop (mkF m 20 #[.val (.ref a1), .val (.ref a2), .val (.int (0 : Int32)), .unset] [])) _
        refine XS.aloadN X6.here hx rfl (hb hby d2_20) rfl rfl ?_
        exact k)
      obtain ⟨T10, X10, e10, st10⟩ := getF X6 hx hZ hown (host := "") (Or.inl (hw _ (List.mem_of_getElem? (i := 16) rfl))) Via.refl e6 Fe1 (g := (mkF m 21 #[.val (.ref a1), .val (.ref a2), .val (.int (0 : Int32)), .unset] [(.ref a1)])) rfl rfl (hb hby d2_21)
      have pre11 : ∀ t, Steps p.tables e below (T10.setTop (mkF m 24 #[.val (.ref a1), .val (.ref a2), .val (.int (0 : Int32)), .unset] [(.int te1)])) t → Steps p.tables e below (s₁.setTop (entryFrame m #[(.ref a1), (.ref a2)] 4)) t := fun t k => pre9 t (st10 t k)
      by_cases hc24_12 : te1 = (0 : Int32)
      · have pre13 : ∀ t, Steps p.tables e below (T10.setTop (mkF m 28 #[.val (.ref a1), .val (.ref a2), .val (.int (0 : Int32)), .unset] [(.ref a2)])) t → Steps p.tables e below (s₁.setTop (entryFrame m #[(.ref a1), (.ref a2)] 4)) t := fun t k => pre11 t (by
          show Steps p.tables e below (T10.setTop (mkF m 24 #[.val (.ref a1), .val (.ref a2), .val (.int (0 : Int32)), .unset] [(.int te1)])) _
          refine XS.ifNo X10.here hx rfl (hb hby d2_24) rfl ((if0 _ _).trans (teq hc24_12).2) ?_
          show Steps p.tables e below (T10.setTop (mkF m 27 #[.val (.ref a1), .val (.ref a2), .val (.int (0 : Int32)), .unset] [])) _
          refine XS.aloadN X10.here hx rfl (hb hby d2_27) rfl rfl ?_
          exact k)
        obtain ⟨T14, X14, e14, st14⟩ := getF X10 hx hZ hown (host := "") (Or.inl (hw _ (List.mem_of_getElem? (i := 16) rfl))) Via.refl e10 Fe2 (g := (mkF m 28 #[.val (.ref a1), .val (.ref a2), .val (.int (0 : Int32)), .unset] [(.ref a2)])) rfl rfl (hb hby d2_28)
        have pre15 : ∀ t, Steps p.tables e below (T14.setTop (mkF m 31 #[.val (.ref a1), .val (.ref a2), .val (.int (0 : Int32)), .unset] [(.int te2)])) t → Steps p.tables e below (s₁.setTop (entryFrame m #[(.ref a1), (.ref a2)] 4)) t := fun t k => pre13 t (st14 t k)
        by_cases hc31_16 : te2 = (0 : Int32)
        · have pre17 : ∀ t, Steps p.tables e below (T14.setTop (mkF m 68 #[.val (.ref a1), .val (.ref a2), .val (.int (0 : Int32)), .val (.int (0 : Int32))] [])) t → Steps p.tables e below (s₁.setTop (entryFrame m #[(.ref a1), (.ref a2)] 4)) t := fun t k => pre15 t (by
            show Steps p.tables e below (T14.setTop (mkF m 31 #[.val (.ref a1), .val (.ref a2), .val (.int (0 : Int32)), .unset] [(.int te2)])) _
            refine XS.ifYes X14.here hx rfl (pc0 := 31) (pc' := 38) rfl (hb hby d2_31) rfl ((if0 _ _).trans (teq hc31_16).1) (by decide) (by decide) ?_
            show Steps p.tables e below (T14.setTop (mkF m 38 #[.val (.ref a1), .val (.ref a2), .val (.int (0 : Int32)), .unset] [])) _
            refine XS.iconst X14.here hx rfl (hb hby d2_38) ?_
            show Steps p.tables e below (T14.setTop (mkF m 39 #[.val (.ref a1), .val (.ref a2), .val (.int (0 : Int32)), .unset] [(.int (0 : Int32))])) _
            refine XS.istoreN X14.here hx rfl (hb hby d2_39) rfl (l' := #[.val (.ref a1), .val (.ref a2), .val (.int (0 : Int32)), .val (.int (0 : Int32))]) rfl ?_
            show Steps p.tables e below (T14.setTop (mkF m 40 #[.val (.ref a1), .val (.ref a2), .val (.int (0 : Int32)), .val (.int (0 : Int32))] [])) _
            refine XS.iloadN X14.here hx rfl (hb hby d2_40) rfl ?_
            show Steps p.tables e below (T14.setTop (mkF m 41 #[.val (.ref a1), .val (.ref a2), .val (.int (0 : Int32)), .val (.int (0 : Int32))] [(.int (0 : Int32))])) _
            refine XS.ifYes X14.here hx rfl (pc0 := 41) (pc' := 58) rfl (hb hby d2_41) rfl ((if0 _ _).trans (teq (by decide : (0 : Int32) = (0 : Int32))).1) (by decide) (by decide) ?_
            show Steps p.tables e below (T14.setTop (mkF m 58 #[.val (.ref a1), .val (.ref a2), .val (.int (0 : Int32)), .val (.int (0 : Int32))] [])) _
            refine XS.iloadN X14.here hx rfl (hb hby d2_58) rfl ?_
            show Steps p.tables e below (T14.setTop (mkF m 59 #[.val (.ref a1), .val (.ref a2), .val (.int (0 : Int32)), .val (.int (0 : Int32))] [(.int (0 : Int32))])) _
            refine XS.ifYes X14.here hx rfl (pc0 := 59) (pc' := 68) rfl (hb hby d2_59) rfl ((if0 _ _).trans (teq (by decide : (0 : Int32) = (0 : Int32))).1) (by decide) (by decide) ?_
            exact k)
          obtain ⟨T18, X18, e18, st18⟩ := getS2 X14 hx hZ hown (host := "") (Or.inl (hw _ (List.mem_of_getElem? (i := 23) rfl))) Via.refl e14 (Sta.ext O0 S_CENTER) (g := (mkF m 68 #[.val (.ref a1), .val (.ref a2), .val (.int (0 : Int32)), .val (.int (0 : Int32))] [])) rfl (hb hby d2_68)
          have pre19 : ∀ t, Steps p.tables e below (T18.setTop (mkF m 71 #[.val (.ref a1), .val (.ref a2), .val (.int (0 : Int32)), .val (.int (0 : Int32))] [(.ref w_CENTER)])) t → Steps p.tables e below (s₁.setTop (entryFrame m #[(.ref a1), (.ref a2)] 4)) t := fun t k => pre17 t (st18 t k)
          obtain ⟨fs, hr, hrun, hended, hW, hsame⟩ := X18.leave (v := some (.ref w_CENTER)) (fun h => by rw [Bd.returns] at h; cases h)
          refine ⟨_, _, pre19 _ ?_, hrun, hended, _, _, rfl, ?_, ⟨_, rfl⟩, hW, hsame.mono (by decide) (by decide)⟩
          · show Steps p.tables e below (T18.setTop (mkF m 71 #[.val (.ref a1), .val (.ref a2), .val (.int (0 : Int32)), .val (.int (0 : Int32))] [(.ref w_CENTER)])) _
            jvm_step X18.here [X18.here.top, hx, (hb hby d2_71), X18.method', Bd.returns, Value.isRef, FieldType.isReference]
            first | (intro acts; rw [hr _ acts rfl rfl rfl]) | rw [hr _ _ rfl rfl rfl]
            exact Steps.refl _
          · show Q_rm_and Z a1 a2 ts1 te1 ts2 te2 w_CENTER w_FILL w_END w_START h0 n0 _ T18.heap _
            rw [e18]
            exact ⟨(by simp [andF, hc4_4, hc11_8, hc24_12, hc31_16]), N0, rfl⟩
        · have pre20 : ∀ t, Steps p.tables e below (T14.setTop (mkF m 62 #[.val (.ref a1), .val (.ref a2), .val (.int (0 : Int32)), .val (.int (1 : Int32))] [])) t → Steps p.tables e below (s₁.setTop (entryFrame m #[(.ref a1), (.ref a2)] 4)) t := fun t k => pre15 t (by
            show Steps p.tables e below (T14.setTop (mkF m 31 #[.val (.ref a1), .val (.ref a2), .val (.int (0 : Int32)), .unset] [(.int te2)])) _
            refine XS.ifNo X14.here hx rfl (hb hby d2_31) rfl ((if0 _ _).trans (feq hc31_16).1) ?_
            show Steps p.tables e below (T14.setTop (mkF m 34 #[.val (.ref a1), .val (.ref a2), .val (.int (0 : Int32)), .unset] [])) _
            refine XS.iconst X14.here hx rfl (hb hby d2_34) ?_
            show Steps p.tables e below (T14.setTop (mkF m 35 #[.val (.ref a1), .val (.ref a2), .val (.int (0 : Int32)), .unset] [(.int (1 : Int32))])) _
            refine XS.goto X14.here hx rfl (pc0 := 35) (pc' := 39) rfl (hb hby d2_35) (by decide) (by decide) ?_
            show Steps p.tables e below (T14.setTop (mkF m 39 #[.val (.ref a1), .val (.ref a2), .val (.int (0 : Int32)), .unset] [(.int (1 : Int32))])) _
            refine XS.istoreN X14.here hx rfl (hb hby d2_39) rfl (l' := #[.val (.ref a1), .val (.ref a2), .val (.int (0 : Int32)), .val (.int (1 : Int32))]) rfl ?_
            show Steps p.tables e below (T14.setTop (mkF m 40 #[.val (.ref a1), .val (.ref a2), .val (.int (0 : Int32)), .val (.int (1 : Int32))] [])) _
            refine XS.iloadN X14.here hx rfl (hb hby d2_40) rfl ?_
            show Steps p.tables e below (T14.setTop (mkF m 41 #[.val (.ref a1), .val (.ref a2), .val (.int (0 : Int32)), .val (.int (1 : Int32))] [(.int (0 : Int32))])) _
            refine XS.ifYes X14.here hx rfl (pc0 := 41) (pc' := 58) rfl (hb hby d2_41) rfl ((if0 _ _).trans (teq (by decide : (0 : Int32) = (0 : Int32))).1) (by decide) (by decide) ?_
            show Steps p.tables e below (T14.setTop (mkF m 58 #[.val (.ref a1), .val (.ref a2), .val (.int (0 : Int32)), .val (.int (1 : Int32))] [])) _
            refine XS.iloadN X14.here hx rfl (hb hby d2_58) rfl ?_
            show Steps p.tables e below (T14.setTop (mkF m 59 #[.val (.ref a1), .val (.ref a2), .val (.int (0 : Int32)), .val (.int (1 : Int32))] [(.int (1 : Int32))])) _
            refine XS.ifNo X14.here hx rfl (hb hby d2_59) rfl ((if0 _ _).trans (feq (by decide : ¬ ((1 : Int32) = (0 : Int32)))).1) ?_
            exact k)
          obtain ⟨T21, X21, e21, st21⟩ := getS2 X14 hx hZ hown (host := "") (Or.inl (hw _ (List.mem_of_getElem? (i := 25) rfl))) Via.refl e14 (Sta.ext O0 S_END) (g := (mkF m 62 #[.val (.ref a1), .val (.ref a2), .val (.int (0 : Int32)), .val (.int (1 : Int32))] [])) rfl (hb hby d2_62)
          have pre22 : ∀ t, Steps p.tables e below (T21.setTop (mkF m 65 #[.val (.ref a1), .val (.ref a2), .val (.int (0 : Int32)), .val (.int (1 : Int32))] [(.ref w_END)])) t → Steps p.tables e below (s₁.setTop (entryFrame m #[(.ref a1), (.ref a2)] 4)) t := fun t k => pre20 t (st21 t k)
          have pre23 : ∀ t, Steps p.tables e below (T21.setTop (mkF m 71 #[.val (.ref a1), .val (.ref a2), .val (.int (0 : Int32)), .val (.int (1 : Int32))] [(.ref w_END)])) t → Steps p.tables e below (s₁.setTop (entryFrame m #[(.ref a1), (.ref a2)] 4)) t := fun t k => pre22 t (by
            show Steps p.tables e below (T21.setTop (mkF m 65 #[.val (.ref a1), .val (.ref a2), .val (.int (0 : Int32)), .val (.int (1 : Int32))] [(.ref w_END)])) _
            refine XS.goto X21.here hx rfl (pc0 := 65) (pc' := 71) rfl (hb hby d2_65) (by decide) (by decide) ?_
            exact k)
          obtain ⟨fs, hr, hrun, hended, hW, hsame⟩ := X21.leave (v := some (.ref w_END)) (fun h => by rw [Bd.returns] at h; cases h)
          refine ⟨_, _, pre23 _ ?_, hrun, hended, _, _, rfl, ?_, ⟨_, rfl⟩, hW, hsame.mono (by decide) (by decide)⟩
          · show Steps p.tables e below (T21.setTop (mkF m 71 #[.val (.ref a1), .val (.ref a2), .val (.int (0 : Int32)), .val (.int (1 : Int32))] [(.ref w_END)])) _
            jvm_step X21.here [X21.here.top, hx, (hb hby d2_71), X21.method', Bd.returns, Value.isRef, FieldType.isReference]
            first | (intro acts; rw [hr _ acts rfl rfl rfl]) | rw [hr _ _ rfl rfl rfl]
            exact Steps.refl _
          · show Q_rm_and Z a1 a2 ts1 te1 ts2 te2 w_CENTER w_FILL w_END w_START h0 n0 _ T21.heap _
            rw [e21]
            exact ⟨(by simp [andF, hc4_4, hc11_8, hc24_12, hc31_16]), N0, rfl⟩
      · have pre24 : ∀ t, Steps p.tables e below (T10.setTop (mkF m 62 #[.val (.ref a1), .val (.ref a2), .val (.int (0 : Int32)), .val (.int (1 : Int32))] [])) t → Steps p.tables e below (s₁.setTop (entryFrame m #[(.ref a1), (.ref a2)] 4)) t := fun t k => pre11 t (by
          show Steps p.tables e below (T10.setTop (mkF m 24 #[.val (.ref a1), .val (.ref a2), .val (.int (0 : Int32)), .unset] [(.int te1)])) _
          refine XS.ifYes X10.here hx rfl (pc0 := 24) (pc' := 34) rfl (hb hby d2_24) rfl ((if0 _ _).trans (feq hc24_12).2) (by decide) (by decide) ?_
          show Steps p.tables e below (T10.setTop (mkF m 34 #[.val (.ref a1), .val (.ref a2), .val (.int (0 : Int32)), .unset] [])) _
          refine XS.iconst X10.here hx rfl (hb hby d2_34) ?_
          show Steps p.tables e below (T10.setTop (mkF m 35 #[.val (.ref a1), .val (.ref a2), .val (.int (0 : Int32)), .unset] [(.int (1 : Int32))])) _
          refine XS.goto X10.here hx rfl (pc0 := 35) (pc' := 39) rfl (hb hby d2_35) (by decide) (by decide) ?_
          show Steps p.tables e below (T10.setTop (mkF m 39 #[.val (.ref a1), .val (.ref a2), .val (.int (0 : Int32)), .unset] [(.int (1 : Int32))])) _
          refine XS.istoreN X10.here hx rfl (hb hby d2_39) rfl (l' := #[.val (.ref a1), .val (.ref a2), .val (.int (0 : Int32)), .val (.int (1 : Int32))]) rfl ?_
          show Steps p.tables e below (T10.setTop (mkF m 40 #[.val (.ref a1), .val (.ref a2), .val (.int (0 : Int32)), .val (.int (1 : Int32))] [])) _
          refine XS.iloadN X10.here hx rfl (hb hby d2_40) rfl ?_
          show Steps p.tables e below (T10.setTop (mkF m 41 #[.val (.ref a1), .val (.ref a2), .val (.int (0 : Int32)), .val (.int (1 : Int32))] [(.int (0 : Int32))])) _
          refine XS.ifYes X10.here hx rfl (pc0 := 41) (pc' := 58) rfl (hb hby d2_41) rfl ((if0 _ _).trans (teq (by decide : (0 : Int32) = (0 : Int32))).1) (by decide) (by decide) ?_
          show Steps p.tables e below (T10.setTop (mkF m 58 #[.val (.ref a1), .val (.ref a2), .val (.int (0 : Int32)), .val (.int (1 : Int32))] [])) _
          refine XS.iloadN X10.here hx rfl (hb hby d2_58) rfl ?_
          show Steps p.tables e below (T10.setTop (mkF m 59 #[.val (.ref a1), .val (.ref a2), .val (.int (0 : Int32)), .val (.int (1 : Int32))] [(.int (1 : Int32))])) _
          refine XS.ifNo X10.here hx rfl (hb hby d2_59) rfl ((if0 _ _).trans (feq (by decide : ¬ ((1 : Int32) = (0 : Int32)))).1) ?_
          exact k)
        obtain ⟨T25, X25, e25, st25⟩ := getS2 X10 hx hZ hown (host := "") (Or.inl (hw _ (List.mem_of_getElem? (i := 25) rfl))) Via.refl e10 (Sta.ext O0 S_END) (g := (mkF m 62 #[.val (.ref a1), .val (.ref a2), .val (.int (0 : Int32)), .val (.int (1 : Int32))] [])) rfl (hb hby d2_62)
        have pre26 : ∀ t, Steps p.tables e below (T25.setTop (mkF m 65 #[.val (.ref a1), .val (.ref a2), .val (.int (0 : Int32)), .val (.int (1 : Int32))] [(.ref w_END)])) t → Steps p.tables e below (s₁.setTop (entryFrame m #[(.ref a1), (.ref a2)] 4)) t := fun t k => pre24 t (st25 t k)
        have pre27 : ∀ t, Steps p.tables e below (T25.setTop (mkF m 71 #[.val (.ref a1), .val (.ref a2), .val (.int (0 : Int32)), .val (.int (1 : Int32))] [(.ref w_END)])) t → Steps p.tables e below (s₁.setTop (entryFrame m #[(.ref a1), (.ref a2)] 4)) t := fun t k => pre26 t (by
          show Steps p.tables e below (T25.setTop (mkF m 65 #[.val (.ref a1), .val (.ref a2), .val (.int (0 : Int32)), .val (.int (1 : Int32))] [(.ref w_END)])) _
          refine XS.goto X25.here hx rfl (pc0 := 65) (pc' := 71) rfl (hb hby d2_65) (by decide) (by decide) ?_
          exact k)
        obtain ⟨fs, hr, hrun, hended, hW, hsame⟩ := X25.leave (v := some (.ref w_END)) (fun h => by rw [Bd.returns] at h; cases h)
        refine ⟨_, _, pre27 _ ?_, hrun, hended, _, _, rfl, ?_, ⟨_, rfl⟩, hW, hsame.mono (by decide) (by decide)⟩
        · show Steps p.tables e below (T25.setTop (mkF m 71 #[.val (.ref a1), .val (.ref a2), .val (.int (0 : Int32)), .val (.int (1 : Int32))] [(.ref w_END)])) _
          jvm_step X25.here [X25.here.top, hx, (hb hby d2_71), X25.method', Bd.returns, Value.isRef, FieldType.isReference]
          first | (intro acts; rw [hr _ acts rfl rfl rfl]) | rw [hr _ _ rfl rfl rfl]
          exact Steps.refl _
        · show Q_rm_and Z a1 a2 ts1 te1 ts2 te2 w_CENTER w_FILL w_END w_START h0 n0 _ T25.heap _
          rw [e25]
          exact ⟨(by simp [andF, hc4_4, hc11_8, hc24_12]), N0, rfl⟩
    · have pre28 : ∀ t, Steps p.tables e below (T6.setTop (mkF m 21 #[.val (.ref a1), .val (.ref a2), .val (.int (1 : Int32)), .unset] [(.ref a1)])) t → Steps p.tables e below (s₁.setTop (entryFrame m #[(.ref a1), (.ref a2)] 4)) t := fun t k => pre7 t (by
        show Steps p.tables e below (T6.setTop (mkF m 11 #[.val (.ref a1), .val (.ref a2), .unset, .unset] [(.int ts2)])) _
        refine XS.ifNo X6.here hx rfl (hb hby d2_11) rfl ((if0 _ _).trans (feq hc11_8).1) ?_
        show Steps p.tables e below (T6.setTop (mkF m 14 #[.val (.ref a1), .val (.ref a2), .unset, .unset] [])) _
        refine XS.iconst X6.here hx rfl (hb hby d2_14) ?_
        show Steps p.tables e below (T6.setTop (mkF m 15 #[.val (.ref a1), .val (.ref a2), .unset, .unset] [(.int (1 : Int32))])) _
        refine XS.goto X6.here hx rfl (pc0 := 15) (pc' := 19) rfl (hb hby d2_15) (by decide) (by decide) ?_
        show Steps p.tables e below (T6.setTop (mkF m 19 #[.val (.ref a1), .val (.ref a2), .unset, .unset] [(.int (1 : Int32))])) _
        refine XS.istoreN X6.here hx rfl (hb hby d2_19) rfl (l' := #[.val (.ref a1), .val (.ref a2), .val (.int (1 : Int32)), .unset]) rfl ?_
        show Steps p.tables e below (T6.setTop (mkF m 20 #[.val (.ref a1), .val (.ref a2), .val (.int (1 : Int32)), .unset] [])) _
        refine XS.aloadN X6.here hx rfl (hb hby d2_20) rfl rfl ?_
        exact k)
      obtain ⟨T29, X29, e29, st29⟩ := getF X6 hx hZ hown (host := "") (Or.inl (hw _ (List.mem_of_getElem? (i := 16) rfl))) Via.refl e6 Fe1 (g := (mkF m 21 #[.val (.ref a1), .val (.ref a2), .val (.int (1 : Int32)), .unset] [(.ref a1)])) rfl rfl (hb hby d2_21)
      have pre30 : ∀ t, Steps p.tables e below (T29.setTop (mkF m 24 #[.val (.ref a1), .val (.ref a2), .val (.int (1 : Int32)), .unset] [(.int te1)])) t → Steps p.tables e below (s₁.setTop (entryFrame m #[(.ref a1), (.ref a2)] 4)) t := fun t k => pre28 t (st29 t k)
      by_cases hc24_31 : te1 = (0 : Int32)
      · have pre32 : ∀ t, Steps p.tables e below (T29.setTop (mkF m 28 #[.val (.ref a1), .val (.ref a2), .val (.int (1 : Int32)), .unset] [(.ref a2)])) t → Steps p.tables e below (s₁.setTop (entryFrame m #[(.ref a1), (.ref a2)] 4)) t := fun t k => pre30 t (by
          show Steps p.tables e below (T29.setTop (mkF m 24 #[.val (.ref a1), .val (.ref a2), .val (.int (1 : Int32)), .unset] [(.int te1)])) _
          refine XS.ifNo X29.here hx rfl (hb hby d2_24) rfl ((if0 _ _).trans (teq hc24_31).2) ?_
          show Steps p.tables e below (T29.setTop (mkF m 27 #[.val (.ref a1), .val (.ref a2), .val (.int (1 : Int32)), .unset] [])) _
          refine XS.aloadN X29.here hx rfl (hb hby d2_27) rfl rfl ?_
          exact k)
        obtain ⟨T33, X33, e33, st33⟩ := getF X29 hx hZ hown (host := "") (Or.inl (hw _ (List.mem_of_getElem? (i := 16) rfl))) Via.refl e29 Fe2 (g := (mkF m 28 #[.val (.ref a1), .val (.ref a2), .val (.int (1 : Int32)), .unset] [(.ref a2)])) rfl rfl (hb hby d2_28)
        have pre34 : ∀ t, Steps p.tables e below (T33.setTop (mkF m 31 #[.val (.ref a1), .val (.ref a2), .val (.int (1 : Int32)), .unset] [(.int te2)])) t → Steps p.tables e below (s₁.setTop (entryFrame m #[(.ref a1), (.ref a2)] 4)) t := fun t k => pre32 t (st33 t k)
        by_cases hc31_35 : te2 = (0 : Int32)
        · have pre36 : ∀ t, Steps p.tables e below (T33.setTop (mkF m 54 #[.val (.ref a1), .val (.ref a2), .val (.int (1 : Int32)), .val (.int (0 : Int32))] [])) t → Steps p.tables e below (s₁.setTop (entryFrame m #[(.ref a1), (.ref a2)] 4)) t := fun t k => pre34 t (by
            show Steps p.tables e below (T33.setTop (mkF m 31 #[.val (.ref a1), .val (.ref a2), .val (.int (1 : Int32)), .unset] [(.int te2)])) _
            refine XS.ifYes X33.here hx rfl (pc0 := 31) (pc' := 38) rfl (hb hby d2_31) rfl ((if0 _ _).trans (teq hc31_35).1) (by decide) (by decide) ?_
            show Steps p.tables e below (T33.setTop (mkF m 38 #[.val (.ref a1), .val (.ref a2), .val (.int (1 : Int32)), .unset] [])) _
            refine XS.iconst X33.here hx rfl (hb hby d2_38) ?_
            show Steps p.tables e below (T33.setTop (mkF m 39 #[.val (.ref a1), .val (.ref a2), .val (.int (1 : Int32)), .unset] [(.int (0 : Int32))])) _
            refine XS.istoreN X33.here hx rfl (hb hby d2_39) rfl (l' := #[.val (.ref a1), .val (.ref a2), .val (.int (1 : Int32)), .val (.int (0 : Int32))]) rfl ?_
            show Steps p.tables e below (T33.setTop (mkF m 40 #[.val (.ref a1), .val (.ref a2), .val (.int (1 : Int32)), .val (.int (0 : Int32))] [])) _
            refine XS.iloadN X33.here hx rfl (hb hby d2_40) rfl ?_
            show Steps p.tables e below (T33.setTop (mkF m 41 #[.val (.ref a1), .val (.ref a2), .val (.int (1 : Int32)), .val (.int (0 : Int32))] [(.int (1 : Int32))])) _
            refine XS.ifNo X33.here hx rfl (hb hby d2_41) rfl ((if0 _ _).trans (feq (by decide : ¬ ((1 : Int32) = (0 : Int32)))).1) ?_
            show Steps p.tables e below (T33.setTop (mkF m 44 #[.val (.ref a1), .val (.ref a2), .val (.int (1 : Int32)), .val (.int (0 : Int32))] [])) _
            refine XS.iloadN X33.here hx rfl (hb hby d2_44) rfl ?_
            show Steps p.tables e below (T33.setTop (mkF m 45 #[.val (.ref a1), .val (.ref a2), .val (.int (1 : Int32)), .val (.int (0 : Int32))] [(.int (0 : Int32))])) _
            refine XS.ifYes X33.here hx rfl (pc0 := 45) (pc' := 54) rfl (hb hby d2_45) rfl ((if0 _ _).trans (teq (by decide : (0 : Int32) = (0 : Int32))).1) (by decide) (by decide) ?_
            exact k)
          obtain ⟨T37, X37, e37, st37⟩ := getS2 X33 hx hZ hown (host := "") (Or.inl (hw _ (List.mem_of_getElem? (i := 24) rfl))) Via.refl e33 (Sta.ext O0 S_START) (g := (mkF m 54 #[.val (.ref a1), .val (.ref a2), .val (.int (1 : Int32)), .val (.int (0 : Int32))] [])) rfl (hb hby d2_54)
          have pre38 : ∀ t, Steps p.tables e below (T37.setTop (mkF m 57 #[.val (.ref a1), .val (.ref a2), .val (.int (1 : Int32)), .val (.int (0 : Int32))] [(.ref w_START)])) t → Steps p.tables e below (s₁.setTop (entryFrame m #[(.ref a1), (.ref a2)] 4)) t := fun t k => pre36 t (st37 t k)
          obtain ⟨fs, hr, hrun, hended, hW, hsame⟩ := X37.leave (v := some (.ref w_START)) (fun h => by rw [Bd.returns] at h; cases h)
          refine ⟨_, _, pre38 _ ?_, hrun, hended, _, _, rfl, ?_, ⟨_, rfl⟩, hW, hsame.mono (by decide) (by decide)⟩
          · show Steps p.tables e below (T37.setTop (mkF m 57 #[.val (.ref a1), .val (.ref a2), .val (.int (1 : Int32)), .val (.int (0 : Int32))] [(.ref w_START)])) _
            jvm_step X37.here [X37.here.top, hx, (hb hby d2_57), X37.method', Bd.returns, Value.isRef, FieldType.isReference]
            first | (intro acts; rw [hr _ acts rfl rfl rfl]) | rw [hr _ _ rfl rfl rfl]
            exact Steps.refl _
          · show Q_rm_and Z a1 a2 ts1 te1 ts2 te2 w_CENTER w_FILL w_END w_START h0 n0 _ T37.heap _
            rw [e37]
            exact ⟨(by simp [andF, hc4_4, hc11_8, hc24_31, hc31_35]), N0, rfl⟩
        · have pre39 : ∀ t, Steps p.tables e below (T33.setTop (mkF m 48 #[.val (.ref a1), .val (.ref a2), .val (.int (1 : Int32)), .val (.int (1 : Int32))] [])) t → Steps p.tables e below (s₁.setTop (entryFrame m #[(.ref a1), (.ref a2)] 4)) t := fun t k => pre34 t (by
            show Steps p.tables e below (T33.setTop (mkF m 31 #[.val (.ref a1), .val (.ref a2), .val (.int (1 : Int32)), .unset] [(.int te2)])) _
            refine XS.ifNo X33.here hx rfl (hb hby d2_31) rfl ((if0 _ _).trans (feq hc31_35).1) ?_
            show Steps p.tables e below (T33.setTop (mkF m 34 #[.val (.ref a1), .val (.ref a2), .val (.int (1 : Int32)), .unset] [])) _
            refine XS.iconst X33.here hx rfl (hb hby d2_34) ?_
            show Steps p.tables e below (T33.setTop (mkF m 35 #[.val (.ref a1), .val (.ref a2), .val (.int (1 : Int32)), .unset] [(.int (1 : Int32))])) _
            refine XS.goto X33.here hx rfl (pc0 := 35) (pc' := 39) rfl (hb hby d2_35) (by decide) (by decide) ?_
            show Steps p.tables e below (T33.setTop (mkF m 39 #[.val (.ref a1), .val (.ref a2), .val (.int (1 : Int32)), .unset] [(.int (1 : Int32))])) _
            refine XS.istoreN X33.here hx rfl (hb hby d2_39) rfl (l' := #[.val (.ref a1), .val (.ref a2), .val (.int (1 : Int32)), .val (.int (1 : Int32))]) rfl ?_
            show Steps p.tables e below (T33.setTop (mkF m 40 #[.val (.ref a1), .val (.ref a2), .val (.int (1 : Int32)), .val (.int (1 : Int32))] [])) _
            refine XS.iloadN X33.here hx rfl (hb hby d2_40) rfl ?_
            show Steps p.tables e below (T33.setTop (mkF m 41 #[.val (.ref a1), .val (.ref a2), .val (.int (1 : Int32)), .val (.int (1 : Int32))] [(.int (1 : Int32))])) _
            refine XS.ifNo X33.here hx rfl (hb hby d2_41) rfl ((if0 _ _).trans (feq (by decide : ¬ ((1 : Int32) = (0 : Int32)))).1) ?_
            show Steps p.tables e below (T33.setTop (mkF m 44 #[.val (.ref a1), .val (.ref a2), .val (.int (1 : Int32)), .val (.int (1 : Int32))] [])) _
            refine XS.iloadN X33.here hx rfl (hb hby d2_44) rfl ?_
            show Steps p.tables e below (T33.setTop (mkF m 45 #[.val (.ref a1), .val (.ref a2), .val (.int (1 : Int32)), .val (.int (1 : Int32))] [(.int (1 : Int32))])) _
            refine XS.ifNo X33.here hx rfl (hb hby d2_45) rfl ((if0 _ _).trans (feq (by decide : ¬ ((1 : Int32) = (0 : Int32)))).1) ?_
            exact k)
          obtain ⟨T40, X40, e40, st40⟩ := getS2 X33 hx hZ hown (host := "") (Or.inl (hw _ (List.mem_of_getElem? (i := 18) rfl))) Via.refl e33 (Sta.ext O0 S_FILL) (g := (mkF m 48 #[.val (.ref a1), .val (.ref a2), .val (.int (1 : Int32)), .val (.int (1 : Int32))] [])) rfl (hb hby d2_48)
          have pre41 : ∀ t, Steps p.tables e below (T40.setTop (mkF m 51 #[.val (.ref a1), .val (.ref a2), .val (.int (1 : Int32)), .val (.int (1 : Int32))] [(.ref w_FILL)])) t → Steps p.tables e below (s₁.setTop (entryFrame m #[(.ref a1), (.ref a2)] 4)) t := fun t k => pre39 t (st40 t k)
          have pre42 : ∀ t, Steps p.tables e below (T40.setTop (mkF m 57 #[.val (.ref a1), .val (.ref a2), .val (.int (1 : Int32)), .val (.int (1 : Int32))] [(.ref w_FILL)])) t → Steps p.tables e below (s₁.setTop (entryFrame m #[(.ref a1), (.ref a2)] 4)) t := fun t k => pre41 t (by
            show Steps p.tables e below (T40.setTop (mkF m 51 #[.val (.ref a1), .val (.ref a2), .val (.int (1 : Int32)), .val (.int (1 : Int32))] [(.ref w_FILL)])) _
            refine XS.goto X40.here hx rfl (pc0 := 51) (pc' := 57) rfl (hb hby d2_51) (by decide) (by decide) ?_
            exact k)
          obtain ⟨fs, hr, hrun, hended, hW, hsame⟩ := X40.leave (v := some (.ref w_FILL)) (fun h => by rw [Bd.returns] at h; cases h)
          refine ⟨_, _, pre42 _ ?_, hrun, hended, _, _, rfl, ?_, ⟨_, rfl⟩, hW, hsame.mono (by decide) (by decide)⟩
          · show Steps p.tables e below (T40.setTop (mkF m 57 #[.val (.ref a1), .val (.ref a2), .val (.int (1 : Int32)), .val (.int (1 : Int32))] [(.ref w_FILL)])) _
            jvm_step X40.here [X40.here.top, hx, (hb hby d2_57), X40.method', Bd.returns, Value.isRef, FieldType.isReference]
            first | (intro acts; rw [hr _ acts rfl rfl rfl]) | rw [hr _ _ rfl rfl rfl]
            exact Steps.refl _
          · show Q_rm_and Z a1 a2 ts1 te1 ts2 te2 w_CENTER w_FILL w_END w_START h0 n0 _ T40.heap _
            rw [e40]
            exact ⟨(by simp [andF, hc4_4, hc11_8, hc24_31, hc31_35]), N0, rfl⟩
      · have pre43 : ∀ t, Steps p.tables e below (T29.setTop (mkF m 48 #[.val (.ref a1), .val (.ref a2), .val (.int (1 : Int32)), .val (.int (1 : Int32))] [])) t → Steps p.tables e below (s₁.setTop (entryFrame m #[(.ref a1), (.ref a2)] 4)) t := fun t k => pre30 t (by
          show Steps p.tables e below (T29.setTop (mkF m 24 #[.val (.ref a1), .val (.ref a2), .val (.int (1 : Int32)), .unset] [(.int te1)])) _
          refine XS.ifYes X29.here hx rfl (pc0 := 24) (pc' := 34) rfl (hb hby d2_24) rfl ((if0 _ _).trans (feq hc24_31).2) (by decide) (by decide) ?_
          show Steps p.tables e below (T29.setTop (mkF m 34 #[.val (.ref a1), .val (.ref a2), .val (.int (1 : Int32)), .unset] [])) _
          refine XS.iconst X29.here hx rfl (hb hby d2_34) ?_
          show Steps p.tables e below (T29.setTop (mkF m 35 #[.val (.ref a1), .val (.ref a2), .val (.int (1 : Int32)), .unset] [(.int (1 : Int32))])) _
          refine XS.goto X29.here hx rfl (pc0 := 35) (pc' := 39) rfl (hb hby d2_35) (by decide) (by decide) ?_
          show Steps p.tables e below (T29.setTop (mkF m 39 #[.val (.ref a1), .val (.ref a2), .val (.int (1 : Int32)), .unset] [(.int (1 : Int32))])) _
          refine XS.istoreN X29.here hx rfl (hb hby d2_39) rfl (l' := #[.val (.ref a1), .val (.ref a2), .val (.int (1 : Int32)), .val (.int (1 : Int32))]) rfl ?_
          show Steps p.tables e below (T29.setTop (mkF m 40 #[.val (.ref a1), .val (.ref a2), .val (.int (1 : Int32)), .val (.int (1 : Int32))] [])) _
          refine XS.iloadN X29.here hx rfl (hb hby d2_40) rfl ?_
          show Steps p.tables e below (T29.setTop (mkF m 41 #[.val (.ref a1), .val (.ref a2), .val (.int (1 : Int32)), .val (.int (1 : Int32))] [(.int (1 : Int32))])) _
          refine XS.ifNo X29.here hx rfl (hb hby d2_41) rfl ((if0 _ _).trans (feq (by decide : ¬ ((1 : Int32) = (0 : Int32)))).1) ?_
          show Steps p.tables e below (T29.setTop (mkF m 44 #[.val (.ref a1), .val (.ref a2), .val (.int (1 : Int32)), .val (.int (1 : Int32))] [])) _
          refine XS.iloadN X29.here hx rfl (hb hby d2_44) rfl ?_
          show Steps p.tables e below (T29.setTop (mkF m 45 #[.val (.ref a1), .val (.ref a2), .val (.int (1 : Int32)), .val (.int (1 : Int32))] [(.int (1 : Int32))])) _
          refine XS.ifNo X29.here hx rfl (hb hby d2_45) rfl ((if0 _ _).trans (feq (by decide : ¬ ((1 : Int32) = (0 : Int32)))).1) ?_
          exact k)
        obtain ⟨T44, X44, e44, st44⟩ := getS2 X29 hx hZ hown (host := "") (Or.inl (hw _ (List.mem_of_getElem? (i := 18) rfl))) Via.refl e29 (Sta.ext O0 S_FILL) (g := (mkF m 48 #[.val (.ref a1), .val (.ref a2), .val (.int (1 : Int32)), .val (.int (1 : Int32))] [])) rfl (hb hby d2_48)
        have pre45 : ∀ t, Steps p.tables e below (T44.setTop (mkF m 51 #[.val (.ref a1), .val (.ref a2), .val (.int (1 : Int32)), .val (.int (1 : Int32))] [(.ref w_FILL)])) t → Steps p.tables e below (s₁.setTop (entryFrame m #[(.ref a1), (.ref a2)] 4)) t := fun t k => pre43 t (st44 t k)
        have pre46 : ∀ t, Steps p.tables e below (T44.setTop (mkF m 57 #[.val (.ref a1), .val (.ref a2), .val (.int (1 : Int32)), .val (.int (1 : Int32))] [(.ref w_FILL)])) t → Steps p.tables e below (s₁.setTop (entryFrame m #[(.ref a1), (.ref a2)] 4)) t := fun t k => pre45 t (by
          show Steps p.tables e below (T44.setTop (mkF m 51 #[.val (.ref a1), .val (.ref a2), .val (.int (1 : Int32)), .val (.int (1 : Int32))] [(.ref w_FILL)])) _
          refine XS.goto X44.here hx rfl (pc0 := 51) (pc' := 57) rfl (hb hby d2_51) (by decide) (by decide) ?_
          exact k)
        obtain ⟨fs, hr, hrun, hended, hW, hsame⟩ := X44.leave (v := some (.ref w_FILL)) (fun h => by rw [Bd.returns] at h; cases h)
        refine ⟨_, _, pre46 _ ?_, hrun, hended, _, _, rfl, ?_, ⟨_, rfl⟩, hW, hsame.mono (by decide) (by decide)⟩
        · show Steps p.tables e below (T44.setTop (mkF m 57 #[.val (.ref a1), .val (.ref a2), .val (.int (1 : Int32)), .val (.int (1 : Int32))] [(.ref w_FILL)])) _
          jvm_step X44.here [X44.here.top, hx, (hb hby d2_57), X44.method', Bd.returns, Value.isRef, FieldType.isReference]
          first | (intro acts; rw [hr _ acts rfl rfl rfl]) | rw [hr _ _ rfl rfl rfl]
          exact Steps.refl _
        · show Q_rm_and Z a1 a2 ts1 te1 ts2 te2 w_CENTER w_FILL w_END w_START h0 n0 _ T44.heap _
          rw [e44]
          exact ⟨(by simp [andF, hc4_4, hc11_8, hc24_31]), N0, rfl⟩
  · have pre47 : ∀ t, Steps p.tables e below (T2.setTop (mkF m 21 #[.val (.ref a1), .val (.ref a2), .val (.int (1 : Int32)), .unset] [(.ref a1)])) t → Steps p.tables e below (s₁.setTop (entryFrame m #[(.ref a1), (.ref a2)] 4)) t := fun t k => pre3 t (by
      show Steps p.tables e below (T2.setTop (mkF m 4 #[.val (.ref a1), .val (.ref a2), .unset, .unset] [(.int ts1)])) _
      refine XS.ifYes X2.here hx rfl (pc0 := 4) (pc' := 14) rfl (hb hby d2_4) rfl ((if0 _ _).trans (feq hc4_4).2) (by decide) (by decide) ?_
      show Steps p.tables e below (T2.setTop (mkF m 14 #[.val (.ref a1), .val (.ref a2), .unset, .unset] [])) _
      refine XS.iconst X2.here hx rfl (hb hby d2_14) ?_
      show Steps p.tables e below (T2.setTop (mkF m 15 #[.val (.ref a1), .val (.ref a2), .unset, .unset] [(.int (1 : Int32))])) _
      refine XS.goto X2.here hx rfl (pc0 := 15) (pc' := 19) rfl (hb hby d2_15) (by decide) (by decide) ?_
      show Steps p.tables e below (T2.setTop (mkF m 19 #[.val (.ref a1), .val (.ref a2), .unset, .unset] [(.int (1 : Int32))])) _
      refine XS.istoreN X2.here hx rfl (hb hby d2_19) rfl (l' := #[.val (.ref a1), .val (.ref a2), .val (.int (1 : Int32)), .unset]) rfl ?_
      show Steps p.tables e below (T2.setTop (mkF m 20 #[.val (.ref a1), .val (.ref a2), .val (.int (1 : Int32)), .unset] [])) _
      refine XS.aloadN X2.here hx rfl (hb hby d2_20) rfl rfl ?_
      exact k)
    obtain ⟨T48, X48, e48, st48⟩ := getF X2 hx hZ hown (host := "") (Or.inl (hw _ (List.mem_of_getElem? (i := 16) rfl))) Via.refl e2 Fe1 (g := (mkF m 21 #[.val (.ref a1), .val (.ref a2), .val (.int (1 : Int32)), .unset] [(.ref a1)])) rfl rfl (hb hby d2_21)
    have pre49 : ∀ t, Steps p.tables e below (T48.setTop (mkF m 24 #[.val (.ref a1), .val (.ref a2), .val (.int (1 : Int32)), .unset] [(.int te1)])) t → Steps p.tables e below (s₁.setTop (entryFrame m #[(.ref a1), (.ref a2)] 4)) t := fun t k => pre47 t (st48 t k)
    by_cases hc24_50 : te1 = (0 : Int32)
    · have pre51 : ∀ t, Steps p.tables e below (T48.setTop (mkF m 28 #[.val (.ref a1), .val (.ref a2), .val (.int (1 : Int32)), .unset] [(.ref a2)])) t → Steps p.tables e below (s₁.setTop (entryFrame m #[(.ref a1), (.ref a2)] 4)) t := fun t k => pre49 t (by
        show Steps p.tables e below (T48.setTop (mkF m 24 #[.val (.ref a1), .val (.ref a2), .val (.int (1 : Int32)), .unset] [(.int te1)])) _
        refine XS.ifNo X48.here hx rfl (hb hby d2_24) rfl ((if0 _ _).trans (teq hc24_50).2) ?_
        show Steps p.tables e below (T48.setTop (mkF m 27 #[.val (.ref a1), .val (.ref a2), .val (.int (1 : Int32)), .unset] [])) _
        refine XS.aloadN X48.here hx rfl (hb hby d2_27) rfl rfl ?_
        exact k)
      obtain ⟨T52, X52, e52, st52⟩ := getF X48 hx hZ hown (host := "") (Or.inl (hw _ (List.mem_of_getElem? (i := 16) rfl))) Via.refl e48 Fe2 (g := (mkF m 28 #[.val (.ref a1), .val (.ref a2), .val (.int (1 : Int32)), .unset] [(.ref a2)])) rfl rfl (hb hby d2_28)
      have pre53 : ∀ t, Steps p.tables e below (T52.setTop (mkF m 31 #[.val (.ref a1), .val (.ref a2), .val (.int (1 : Int32)), .unset] [(.int te2)])) t → Steps p.tables e below (s₁.setTop (entryFrame m #[(.ref a1), (.ref a2)] 4)) t := fun t k => pre51 t (st52 t k)
      by_cases hc31_54 : te2 = (0 : Int32)
      · have pre55 : ∀ t, Steps p.tables e below (T52.setTop (mkF m 54 #[.val (.ref a1), .val (.ref a2), .val (.int (1 : Int32)), .val (.int (0 : Int32))] [])) t → Steps p.tables e below (s₁.setTop (entryFrame m #[(.ref a1), (.ref a2)] 4)) t := fun t k => pre53 t (by
          show Steps p.tables e below (T52.setTop (mkF m 31 #[.val (.ref a1), .val (.ref a2), .val (.int (1 : Int32)), .unset] [(.int te2)])) _
          refine XS.ifYes X52.here hx rfl (pc0 := 31) (pc' := 38) rfl (hb hby d2_31) rfl ((if0 _ _).trans (teq hc31_54).1) (by decide) (by decide) ?_
          show Steps p.tables e below (T52.setTop (mkF m 38 #[.val (.ref a1), .val (.ref a2), .val (.int (1 : Int32)), .unset] [])) _
          refine XS.iconst X52.here hx rfl (hb hby d2_38) ?_
          show Steps p.tables e below (T52.setTop (mkF m 39 #[.val (.ref a1), .val (.ref a2), .val (.int (1 : Int32)), .unset] [(.int (0 : Int32))])) _
          refine XS.istoreN X52.here hx rfl (hb hby d2_39) rfl (l' := #[.val (.ref a1), .val (.ref a2), .val (.int (1 : Int32)), .val (.int (0 : Int32))]) rfl ?_
          show Steps p.tables e below (T52.setTop (mkF m 40 #[.val (.ref a1), .val (.ref a2), .val (.int (1 : Int32)), .val (.int (0 : Int32))] [])) _
          refine XS.iloadN X52.here hx rfl (hb hby d2_40) rfl ?_
          show Steps p.tables e below (T52.setTop (mkF m 41 #[.val (.ref a1), .val (.ref a2), .val (.int (1 : Int32)), .val (.int (0 : Int32))] [(.int (1 : Int32))])) _
          refine XS.ifNo X52.here hx rfl (hb hby d2_41) rfl ((if0 _ _).trans (feq (by decide : ¬ ((1 : Int32) = (0 : Int32)))).1) ?_
          show Steps p.tables e below (T52.setTop (mkF m 44 #[.val (.ref a1), .val (.ref a2), .val (.int (1 : Int32)), .val (.int (0 : Int32))] [])) _
          refine XS.iloadN X52.here hx rfl (hb hby d2_44) rfl ?_
          show Steps p.tables e below (T52.setTop (mkF m 45 #[.val (.ref a1), .val (.ref a2), .val (.int (1 : Int32)), .val (.int (0 : Int32))] [(.int (0 : Int32))])) _
          refine XS.ifYes X52.here hx rfl (pc0 := 45) (pc' := 54) rfl (hb hby d2_45) rfl ((if0 _ _).trans (teq (by decide : (0 : Int32) = (0 : Int32))).1) (by decide) (by decide) ?_
          exact k)
        obtain ⟨T56, X56, e56, st56⟩ := getS2 X52 hx hZ hown (host := "") (Or.inl (hw _ (List.mem_of_getElem? (i := 24) rfl))) Via.refl e52 (Sta.ext O0 S_START) (g := (mkF m 54 #[.val (.ref a1), .val (.ref a2), .val (.int (1 : Int32)), .val (.int (0 : Int32))] [])) rfl (hb hby d2_54)
        have pre57 : ∀ t, Steps p.tables e below (T56.setTop (mkF m 57 #[.val (.ref a1), .val (.ref a2), .val (.int (1 : Int32)), .val (.int (0 : Int32))] [(.ref w_START)])) t → Steps p.tables e below (s₁.setTop (entryFrame m #[(.ref a1), (.ref a2)] 4)) t := fun t k => pre55 t (st56 t k)
        obtain ⟨fs, hr, hrun, hended, hW, hsame⟩ := X56.leave (v := some (.ref w_START)) (fun h => by rw [Bd.returns] at h; cases h)
        refine ⟨_, _, pre57 _ ?_, hrun, hended, _, _, rfl, ?_, ⟨_, rfl⟩, hW, hsame.mono (by decide) (by decide)⟩
        · show Steps p.tables e below (T56.setTop (mkF m 57 #[.val (.ref a1), .val (.ref a2), .val (.int (1 : Int32)), .val (.int (0 : Int32))] [(.ref w_START)])) _
          jvm_step X56.here [X56.here.top, hx, (hb hby d2_57), X56.method', Bd.returns, Value.isRef, FieldType.isReference]
          first | (intro acts; rw [hr _ acts rfl rfl rfl]) | rw [hr _ _ rfl rfl rfl]
          exact Steps.refl _
        · show Q_rm_and Z a1 a2 ts1 te1 ts2 te2 w_CENTER w_FILL w_END w_START h0 n0 _ T56.heap _
          rw [e56]
          exact ⟨(by simp [andF, hc4_4, hc24_50, hc31_54]), N0, rfl⟩
      · have pre58 : ∀ t, Steps p.tables e below (T52.setTop (mkF m 48 #[.val (.ref a1), .val (.ref a2), .val (.int (1 : Int32)), .val (.int (1 : Int32))] [])) t → Steps p.tables e below (s₁.setTop (entryFrame m #[(.ref a1), (.ref a2)] 4)) t := fun t k => pre53 t (by
          show Steps p.tables e below (T52.setTop (mkF m 31 #[.val (.ref a1), .val (.ref a2), .val (.int (1 : Int32)), .unset] [(.int te2)])) _
          refine XS.ifNo X52.here hx rfl (hb hby d2_31) rfl ((if0 _ _).trans (feq hc31_54).1) ?_
          show Steps p.tables e below (T52.setTop (mkF m 34 #[.val (.ref a1), .val (.ref a2), .val (.int (1 : Int32)), .unset] [])) _
          refine XS.iconst X52.here hx rfl (hb hby d2_34) ?_
          show Steps p.tables e below (T52.setTop (mkF m 35 #[.val (.ref a1), .val (.ref a2), .val (.int (1 : Int32)), .unset] [(.int (1 : Int32))])) _
          refine XS.goto X52.here hx rfl (pc0 := 35) (pc' := 39) rfl (hb hby d2_35) (by decide) (by decide) ?_
          show Steps p.tables e below (T52.setTop (mkF m 39 #[.val (.ref a1), .val (.ref a2), .val (.int (1 : Int32)), .unset] [(.int (1 : Int32))])) _
          refine XS.istoreN X52.here hx rfl (hb hby d2_39) rfl (l' := #[.val (.ref a1), .val (.ref a2), .val (.int (1 : Int32)), .val (.int (1 : Int32))]) rfl ?_
          show Steps p.tables e below (T52.setTop (mkF m 40 #[.val (.ref a1), .val (.ref a2), .val (.int (1 : Int32)), .val (.int (1 : Int32))] [])) _
          refine XS.iloadN X52.here hx rfl (hb hby d2_40) rfl ?_
          show Steps p.tables e below (T52.setTop (mkF m 41 #[.val (.ref a1), .val (.ref a2), .val (.int (1 : Int32)), .val (.int (1 : Int32))] [(.int (1 : Int32))])) _
          refine XS.ifNo X52.here hx rfl (hb hby d2_41) rfl ((if0 _ _).trans (feq (by decide : ¬ ((1 : Int32) = (0 : Int32)))).1) ?_
          show Steps p.tables e below (T52.setTop (mkF m 44 #[.val (.ref a1), .val (.ref a2), .val (.int (1 : Int32)), .val (.int (1 : Int32))] [])) _
          refine XS.iloadN X52.here hx rfl (hb hby d2_44) rfl ?_
          show Steps p.tables e below (T52.setTop (mkF m 45 #[.val (.ref a1), .val (.ref a2), .val (.int (1 : Int32)), .val (.int (1 : Int32))] [(.int (1 : Int32))])) _
          refine XS.ifNo X52.here hx rfl (hb hby d2_45) rfl ((if0 _ _).trans (feq (by decide : ¬ ((1 : Int32) = (0 : Int32)))).1) ?_
          exact k)
        obtain ⟨T59, X59, e59, st59⟩ := getS2 X52 hx hZ hown (host := "") (Or.inl (hw _ (List.mem_of_getElem? (i := 18) rfl))) Via.refl e52 (Sta.ext O0 S_FILL) (g := (mkF m 48 #[.val (.ref a1), .val (.ref a2), .val (.int (1 : Int32)), .val (.int (1 : Int32))] [])) rfl (hb hby d2_48)
        have pre60 : ∀ t, Steps p.tables e below (T59.setTop (mkF m 51 #[.val (.ref a1), .val (.ref a2), .val (.int (1 : Int32)), .val (.int (1 : Int32))] [(.ref w_FILL)])) t → Steps p.tables e below (s₁.setTop (entryFrame m #[(.ref a1), (.ref a2)] 4)) t := fun t k => pre58 t (st59 t k)
        have pre61 : ∀ t, Steps p.tables e below (T59.setTop (mkF m 57 #[.val (.ref a1), .val (.ref a2), .val (.int (1 : Int32)), .val (.int (1 : Int32))] [(.ref w_FILL)])) t → Steps p.tables e below (s₁.setTop (entryFrame m #[(.ref a1), (.ref a2)] 4)) t := fun t k => pre60 t (by
          show Steps p.tables e below (T59.setTop (mkF m 51 #[.val (.ref a1), .val (.ref a2), .val (.int (1 : Int32)), .val (.int (1 : Int32))] [(.ref w_FILL)])) _
          refine XS.goto X59.here hx rfl (pc0 := 51) (pc' := 57) rfl (hb hby d2_51) (by decide) (by decide) ?_
          exact k)
        obtain ⟨fs, hr, hrun, hended, hW, hsame⟩ := X59.leave (v := some (.ref w_FILL)) (fun h => by rw [Bd.returns] at h; cases h)
        refine ⟨_, _, pre61 _ ?_, hrun, hended, _, _, rfl, ?_, ⟨_, rfl⟩, hW, hsame.mono (by decide) (by decide)⟩
        · show Steps p.tables e below (T59.setTop (mkF m 57 #[.val (.ref a1), .val (.ref a2), .val (.int (1 : Int32)), .val (.int (1 : Int32))] [(.ref w_FILL)])) _
          jvm_step X59.here [X59.here.top, hx, (hb hby d2_57), X59.method', Bd.returns, Value.isRef, FieldType.isReference]
          first | (intro acts; rw [hr _ acts rfl rfl rfl]) | rw [hr _ _ rfl rfl rfl]
          exact Steps.refl _
        · show Q_rm_and Z a1 a2 ts1 te1 ts2 te2 w_CENTER w_FILL w_END w_START h0 n0 _ T59.heap _
          rw [e59]
          exact ⟨(by simp [andF, hc4_4, hc24_50, hc31_54]), N0, rfl⟩
    · have pre62 : ∀ t, Steps p.tables e below (T48.setTop (mkF m 48 #[.val (.ref a1), .val (.ref a2), .val (.int (1 : Int32)), .val (.int (1 : Int32))] [])) t → Steps p.tables e below (s₁.setTop (entryFrame m #[(.ref a1), (.ref a2)] 4)) t := fun t k => pre49 t (by
        show Steps p.tables e below (T48.setTop (mkF m 24 #[.val (.ref a1), .val (.ref a2), .val (.int (1 : Int32)), .unset] [(.int te1)])) _
        refine XS.ifYes X48.here hx rfl (pc0 := 24) (pc' := 34) rfl (hb hby d2_24) rfl ((if0 _ _).trans (feq hc24_50).2) (by decide) (by decide) ?_
        show Steps p.tables e below (T48.setTop (mkF m 34 #[.val (.ref a1), .val (.ref a2), .val (.int (1 : Int32)), .unset] [])) _
        refine XS.iconst X48.here hx rfl (hb hby d2_34) ?_
        show Steps p.tables e below (T48.setTop (mkF m 35 #[.val (.ref a1), .val (.ref a2), .val (.int (1 : Int32)), .unset] [(.int (1 : Int32))])) _
        refine XS.goto X48.here hx rfl (pc0 := 35) (pc' := 39) rfl (hb hby d2_35) (by decide) (by decide) ?_
        show Steps p.tables e below (T48.setTop (mkF m 39 #[.val (.ref a1), .val (.ref a2), .val (.int (1 : Int32)), .unset] [(.int (1 : Int32))])) _
        refine XS.istoreN X48.here hx rfl (hb hby d2_39) rfl (l' := #[.val (.ref a1), .val (.ref a2), .val (.int (1 : Int32)), .val (.int (1 : Int32))]) rfl ?_
        show Steps p.tables e below (T48.setTop (mkF m 40 #[.val (.ref a1), .val (.ref a2), .val (.int (1 : Int32)), .val (.int (1 : Int32))] [])) _
        refine XS.iloadN X48.here hx rfl (hb hby d2_40) rfl ?_
        show Steps p.tables e below (T48.setTop (mkF m 41 #[.val (.ref a1), .val (.ref a2), .val (.int (1 : Int32)), .val (.int (1 : Int32))] [(.int (1 : Int32))])) _
        refine XS.ifNo X48.here hx rfl (hb hby d2_41) rfl ((if0 _ _).trans (feq (by decide : ¬ ((1 : Int32) = (0 : Int32)))).1) ?_
        show Steps p.tables e below (T48.setTop (mkF m 44 #[.val (.ref a1), .val (.ref a2), .val (.int (1 : Int32)), .val (.int (1 : Int32))] [])) _
        refine XS.iloadN X48.here hx rfl (hb hby d2_44) rfl ?_
        show Steps p.tables e below (T48.setTop (mkF m 45 #[.val (.ref a1), .val (.ref a2), .val (.int (1 : Int32)), .val (.int (1 : Int32))] [(.int (1 : Int32))])) _
        refine XS.ifNo X48.here hx rfl (hb hby d2_45) rfl ((if0 _ _).trans (feq (by decide : ¬ ((1 : Int32) = (0 : Int32)))).1) ?_
        exact k)
      obtain ⟨T63, X63, e63, st63⟩ := getS2 X48 hx hZ hown (host := "") (Or.inl (hw _ (List.mem_of_getElem? (i := 18) rfl))) Via.refl e48 (Sta.ext O0 S_FILL) (g := (mkF m 48 #[.val (.ref a1), .val (.ref a2), .val (.int (1 : Int32)), .val (.int (1 : Int32))] [])) rfl (hb hby d2_48)
      have pre64 : ∀ t, Steps p.tables e below (T63.setTop (mkF m 51 #[.val (.ref a1), .val (.ref a2), .val (.int (1 : Int32)), .val (.int (1 : Int32))] [(.ref w_FILL)])) t → Steps p.tables e below (s₁.setTop (entryFrame m #[(.ref a1), (.ref a2)] 4)) t := fun t k => pre62 t (st63 t k)
      have pre65 : ∀ t, Steps p.tables e below (T63.setTop (mkF m 57 #[.val (.ref a1), .val (.ref a2), .val (.int (1 : Int32)), .val (.int (1 : Int32))] [(.ref w_FILL)])) t → Steps p.tables e below (s₁.setTop (entryFrame m #[(.ref a1), (.ref a2)] 4)) t := fun t k => pre64 t (by
        show Steps p.tables e below (T63.setTop (mkF m 51 #[.val (.ref a1), .val (.ref a2), .val (.int (1 : Int32)), .val (.int (1 : Int32))] [(.ref w_FILL)])) _
        refine XS.goto X63.here hx rfl (pc0 := 51) (pc' := 57) rfl (hb hby d2_51) (by decide) (by decide) ?_
        exact k)
      obtain ⟨fs, hr, hrun, hended, hW, hsame⟩ := X63.leave (v := some (.ref w_FILL)) (fun h => by rw [Bd.returns] at h; cases h)
      refine ⟨_, _, pre65 _ ?_, hrun, hended, _, _, rfl, ?_, ⟨_, rfl⟩, hW, hsame.mono (by decide) (by decide)⟩
      · show Steps p.tables e below (T63.setTop (mkF m 57 #[.val (.ref a1), .val (.ref a2), .val (.int (1 : Int32)), .val (.int (1 : Int32))] [(.ref w_FILL)])) _
        jvm_step X63.here [X63.here.top, hx, (hb hby d2_57), X63.method', Bd.returns, Value.isRef, FieldType.isReference]
        first | (intro acts; rw [hr _ acts rfl rfl rfl]) | rw [hr _ _ rfl rfl rfl]
        exact Steps.refl _
      · show Q_rm_and Z a1 a2 ts1 te1 ts2 te2 w_CENTER w_FILL w_END w_START h0 n0 _ T63.heap _
        rw [e63]
        exact ⟨(by simp [andF, hc4_4, hc24_50]), N0, rfl⟩
theorem ef_0 (m : MethodId) (x0 : Int32) (x1 : Int32) : entryFrame m #[(.int x0), (.int x1)] maxLocals = mkF m 0 #[.val (.int x0), .val (.int x1), .unset, .unset, .unset, .unset, .unset] [] := by first | (simp [entryFrame, mkF, argsToLocals, Value.category, maxLocals]; done) | rfl
theorem pd_0 : parseMethodDescriptor "(I)Lcom/example/blynds/blynds/engine/Gravity$Placement;" = some ⟨[.int], some (.object "com/example/blynds/blynds/engine/Gravity$Placement")⟩ := by decide +kernel
theorem pd_1 : parseMethodDescriptor "(Lcom/example/blynds/blynds/engine/Gravity$Placement;)Lcom/example/blynds/blynds/engine/Gravity$Placement;" = some ⟨[(.object "com/example/blynds/blynds/engine/Gravity$Placement")], some (.object "com/example/blynds/blynds/engine/Gravity$Placement")⟩ := by decide +kernel
def Q_rm_law (Z : State) (p1 : Int32) (p2 : Int32) (w_CENTER w_FILL w_END w_START : Addr) (h0 : Heap) (n0 : Nat) (v : Option Value) (h : Heap) (L : List Loc) : Prop := v = some (.int (1 : Int32)) ∧ Fr n0 L
set_option maxRecDepth 65536 in
set_option maxHeartbeats 40000000 in
theorem rm_law (l : Launch) (Z : State) (a0 : Array Value) (hw : ∀ d ∈ tables_1, d.before a0 Z = true) (ws : List Jvm.Cond) (p1 : Int32) (p2 : Int32) (w_CENTER w_FILL w_END w_START : Addr) (h0 : Heap) (n0 : Nat) (Z0 : n0 ≤ h0.size) (O0 : Ext Z.heap h0) (P : Pins Z w_CENTER w_FILL w_END w_START) :
    MetFree l x (head1 (Jvm.Cond.code x code maxLocals ret :: ws) room_1) (fun a U => a = #[(.int p1), (.int p2)] ∧ Z.Warmed39 U.vm ∧ U.heap = h0) (fun _ _ _ _ _ => True) (fun _ U o U' => ∃ v L, o = .returned v ∧ Q_rm_law Z p1 p2 w_CENTER w_FILL w_END w_START h0 n0 v U'.heap L ∧ FrameEnd U o U' L room_1.cells room_1.slots) := by
  refine MetFree.of_bodySF (plainFor_of_name pn_com_example_blynds_blynds_engine_GravityAndPinLaw) hisR ?_
  intro p e s m args below meth c s₁ Bd hml0 hP hK
  obtain ⟨rfl, hZ, hh⟩ := hP
  have hx := Bd.exec
  have hby := Bd.bytes
  have hml : c.maxLocals = 7 := hml0
  have hown : s.vm.findClass "com/example/blynds/blynds/engine/GravityAndPinLaw" = some m.cls := findClass_of_methodNamed Bd.named
  have hnm := (name_of_methodNamed Bd.named Bd.method).1
  have X0 : Stand p l e room_1 s m #[(.int p1), (.int p2)] below meth c s₁ [] 0 0 := Stand.of_body Bd
  have e0 : s₁.heap = h0 := by rw [← hh, Bd.state]; rfl
  have N0 := Fr.nil n0
  have pre0 : ∀ t, Steps p.tables e below (s₁.setTop (mkF m 0 #[.val (.int p1), .val (.int p2), .unset, .unset, .unset, .unset, .unset] [])) t → Steps p.tables e below (s₁.setTop (entryFrame m #[(.int p1), (.int p2)] maxLocals)) t := fun t k => castTop (ef_0 m p1 p2) k
  have P' := P
  obtain ⟨S_CENTER, S_FILL, S_END, S_START, E_CENTER, E_FILL, E_END, E_START, F_towardStart_CENTER, F_towardStart_FILL, F_towardEnd_CENTER, F_towardEnd_FILL, F_towardStart_END, F_towardStart_START, F_towardEnd_END, F_towardEnd_START⟩ := P
  have pre1 : ∀ t, Steps p.tables e below (s₁.setTop (mkF m 9 #[.val (.int p1), .val (.int p2), .val (.int (p1 &&& (3 : Int32))), .val (.int (p2 &&& (3 : Int32))), .unset, .unset, .unset] [(.int (p1 &&& (3 : Int32)))])) t → Steps p.tables e below (s₁.setTop (entryFrame m #[(.int p1), (.int p2)] maxLocals)) t := fun t k => pre0 t (by
    show Steps p.tables e below (s₁.setTop (mkF m 0 #[.val (.int p1), .val (.int p2), .unset, .unset, .unset, .unset, .unset] [])) _
    refine XS.iloadN X0.here hx rfl (hb hby at_0) rfl ?_
    show Steps p.tables e below (s₁.setTop (mkF m 1 #[.val (.int p1), .val (.int p2), .unset, .unset, .unset, .unset, .unset] [(.int p1)])) _
    refine XS.iconst X0.here hx rfl (hb hby at_1) ?_
    show Steps p.tables e below (s₁.setTop (mkF m 2 #[.val (.int p1), .val (.int p2), .unset, .unset, .unset, .unset, .unset] [(.int (3 : Int32)), (.int p1)])) _
    refine XS.iand X0.here hx rfl (hb hby at_2) rfl ?_
    show Steps p.tables e below (s₁.setTop (mkF m 3 #[.val (.int p1), .val (.int p2), .unset, .unset, .unset, .unset, .unset] [(.int (p1 &&& (3 : Int32)))])) _
    refine XS.istoreN X0.here hx rfl (hb hby at_3) rfl (l' := #[.val (.int p1), .val (.int p2), .val (.int (p1 &&& (3 : Int32))), .unset, .unset, .unset, .unset]) rfl ?_
    show Steps p.tables e below (s₁.setTop (mkF m 4 #[.val (.int p1), .val (.int p2), .val (.int (p1 &&& (3 : Int32))), .unset, .unset, .unset, .unset] [])) _
    refine XS.iloadN X0.here hx rfl (hb hby at_4) rfl ?_
    show Steps p.tables e below (s₁.setTop (mkF m 5 #[.val (.int p1), .val (.int p2), .val (.int (p1 &&& (3 : Int32))), .unset, .unset, .unset, .unset] [(.int p2)])) _
    refine XS.iconst X0.here hx rfl (hb hby at_5) ?_
    show Steps p.tables e below (s₁.setTop (mkF m 6 #[.val (.int p1), .val (.int p2), .val (.int (p1 &&& (3 : Int32))), .unset, .unset, .unset, .unset] [(.int (3 : Int32)), (.int p2)])) _
    refine XS.iand X0.here hx rfl (hb hby at_6) rfl ?_
    show Steps p.tables e below (s₁.setTop (mkF m 7 #[.val (.int p1), .val (.int p2), .val (.int (p1 &&& (3 : Int32))), .unset, .unset, .unset, .unset] [(.int (p2 &&& (3 : Int32)))])) _
    refine XS.istoreN X0.here hx rfl (hb hby at_7) rfl (l' := #[.val (.int p1), .val (.int p2), .val (.int (p1 &&& (3 : Int32))), .val (.int (p2 &&& (3 : Int32))), .unset, .unset, .unset]) rfl ?_
    show Steps p.tables e below (s₁.setTop (mkF m 8 #[.val (.int p1), .val (.int p2), .val (.int (p1 &&& (3 : Int32))), .val (.int (p2 &&& (3 : Int32))), .unset, .unset, .unset] [])) _
    refine XS.iloadN X0.here hx rfl (hb hby at_8) rfl ?_
    exact k)
  obtain ⟨_, _, ⟨T2, L2, k2, n2⟩, -, X2, ⟨Lc2, hQ2, l2, y2, z2⟩, st2⟩ := Jvm.LawKit.callS X0 hx (y := (⟨"com/example/blynds/blynds/engine/GravityAndPinLaw", "of", "(I)Lcom/example/blynds/blynds/engine/Gravity$Placement;"⟩ : MethodName)) hown (mvT hZ (hw _ (List.mem_of_getElem? (i := 0) rfl))) (mvT hZ (hw _ (List.mem_of_getElem? (i := 1) rfl))) (mvT hZ (hw _ (List.mem_of_getElem? (i := 2) rfl))) (mvT hZ (hw _ (List.mem_of_getElem? (i := 3) rfl))) (by decide) (backOf (W := 0) (rm_of l Z a0 hw [] (p1 &&& (3 : Int32)) w_CENTER w_FILL w_END w_START h0 n0 Z0 O0 P') hZ (hw _ (List.mem_of_getElem? (i := 3) rfl)) (hw _ (List.mem_of_getElem? (i := 2) rfl)) (by decide) (by decide)) (g := (mkF m 9 #[.val (.int p1), .val (.int p2), .val (.int (p1 &&& (3 : Int32))), .val (.int (p2 &&& (3 : Int32))), .unset, .unset, .unset] [(.int (p1 &&& (3 : Int32)))])) rfl (by rw [hml]; rfl) (argsL := [(.int (p1 &&& (3 : Int32)))]) (rest := []) (lenOf pd_0 rfl) rfl (by show 2 * 0 + _ ≤ _; exact Nat.le_of_eq rfl) (hb hby at_9) (fun _ _ => ⟨rfl, e0, (by decide : 0 + 0 ≤ _), (by decide : 0 + 0 ≤ _)⟩)
  dsimp only [Pt.U, Pt.locs, Pt.cells, Pt.slots] at X2 l2 y2 z2 st2 hQ2
  subst l2 y2 z2
  obtain ⟨rfl, N2q, e2⟩ := hQ2
  have N2 := Fr.app N0 N2q
  have pre3 : ∀ t, Steps p.tables e below (T2.setTop (mkF m 12 #[.val (.int p1), .val (.int p2), .val (.int (p1 &&& (3 : Int32))), .val (.int (p2 &&& (3 : Int32))), .unset, .unset, .unset] [(.ref (ofF ((p1 &&& (3 : Int32)) &&& (3 : Int32)) w_CENTER w_START w_END w_FILL))])) t → Steps p.tables e below (s₁.setTop (entryFrame m #[(.int p1), (.int p2)] maxLocals)) t := fun t k => pre1 t (st2 t k)
  have pre4 : ∀ t, Steps p.tables e below (T2.setTop (mkF m 15 #[.val (.int p1), .val (.int p2), .val (.int (p1 &&& (3 : Int32))), .val (.int (p2 &&& (3 : Int32))), .val (.ref (ofF ((p1 &&& (3 : Int32)) &&& (3 : Int32)) w_CENTER w_START w_END w_FILL)), .unset, .unset] [(.int (p2 &&& (3 : Int32)))])) t → Steps p.tables e below (s₁.setTop (entryFrame m #[(.int p1), (.int p2)] maxLocals)) t := fun t k => pre3 t (by
    show Steps p.tables e below (T2.setTop (mkF m 12 #[.val (.int p1), .val (.int p2), .val (.int (p1 &&& (3 : Int32))), .val (.int (p2 &&& (3 : Int32))), .unset, .unset, .unset] [(.ref (ofF ((p1 &&& (3 : Int32)) &&& (3 : Int32)) w_CENTER w_START w_END w_FILL))])) _
    refine XS.astore X2.here hx rfl (hb hby at_12) rfl rfl (l' := #[.val (.int p1), .val (.int p2), .val (.int (p1 &&& (3 : Int32))), .val (.int (p2 &&& (3 : Int32))), .val (.ref (ofF ((p1 &&& (3 : Int32)) &&& (3 : Int32)) w_CENTER w_START w_END w_FILL)), .unset, .unset]) rfl ?_
    show Steps p.tables e below (T2.setTop (mkF m 14 #[.val (.int p1), .val (.int p2), .val (.int (p1 &&& (3 : Int32))), .val (.int (p2 &&& (3 : Int32))), .val (.ref (ofF ((p1 &&& (3 : Int32)) &&& (3 : Int32)) w_CENTER w_START w_END w_FILL)), .unset, .unset] [])) _
    refine XS.iloadN X2.here hx rfl (hb hby at_14) rfl ?_
    exact k)
  obtain ⟨_, _, ⟨T5, L5, k5, n5⟩, -, X5, ⟨Lc5, hQ5, l5, y5, z5⟩, st5⟩ := Jvm.LawKit.callS X2 hx (y := (⟨"com/example/blynds/blynds/engine/GravityAndPinLaw", "of", "(I)Lcom/example/blynds/blynds/engine/Gravity$Placement;"⟩ : MethodName)) hown (mvT hZ (hw _ (List.mem_of_getElem? (i := 0) rfl))) (mvT hZ (hw _ (List.mem_of_getElem? (i := 1) rfl))) (mvT hZ (hw _ (List.mem_of_getElem? (i := 2) rfl))) (mvT hZ (hw _ (List.mem_of_getElem? (i := 3) rfl))) (by decide) (backOf (W := 0) (rm_of l Z a0 hw [] (p2 &&& (3 : Int32)) w_CENTER w_FILL w_END w_START h0 n0 Z0 O0 P') hZ (hw _ (List.mem_of_getElem? (i := 3) rfl)) (hw _ (List.mem_of_getElem? (i := 2) rfl)) (by decide) (by decide)) (g := (mkF m 15 #[.val (.int p1), .val (.int p2), .val (.int (p1 &&& (3 : Int32))), .val (.int (p2 &&& (3 : Int32))), .val (.ref (ofF ((p1 &&& (3 : Int32)) &&& (3 : Int32)) w_CENTER w_START w_END w_FILL)), .unset, .unset] [(.int (p2 &&& (3 : Int32)))])) rfl (by rw [hml]; rfl) (argsL := [(.int (p2 &&& (3 : Int32)))]) (rest := []) (lenOf pd_0 rfl) rfl (by show 2 * 0 + _ ≤ _; exact Nat.le_of_eq rfl) (hb hby at_15) (fun _ _ => ⟨rfl, e2, (by decide : 0 + 0 ≤ _), (by decide : 0 + 0 ≤ _)⟩)
  dsimp only [Pt.U, Pt.locs, Pt.cells, Pt.slots] at X5 l5 y5 z5 st5 hQ5
  subst l5 y5 z5
  obtain ⟨rfl, N5q, e5⟩ := hQ5
  have N5 := Fr.app N2 N5q
  have pre6 : ∀ t, Steps p.tables e below (T5.setTop (mkF m 18 #[.val (.int p1), .val (.int p2), .val (.int (p1 &&& (3 : Int32))), .val (.int (p2 &&& (3 : Int32))), .val (.ref (ofF ((p1 &&& (3 : Int32)) &&& (3 : Int32)) w_CENTER w_START w_END w_FILL)), .unset, .unset] [(.ref (ofF ((p2 &&& (3 : Int32)) &&& (3 : Int32)) w_CENTER w_START w_END w_FILL))])) t → Steps p.tables e below (s₁.setTop (entryFrame m #[(.int p1), (.int p2)] maxLocals)) t := fun t k => pre4 t (st5 t k)
  have pre7 : ∀ t, Steps p.tables e below (T5.setTop (mkF m 23 #[.val (.int p1), .val (.int p2), .val (.int (p1 &&& (3 : Int32))), .val (.int (p2 &&& (3 : Int32))), .val (.ref (ofF ((p1 &&& (3 : Int32)) &&& (3 : Int32)) w_CENTER w_START w_END w_FILL)), .val (.ref (ofF ((p2 &&& (3 : Int32)) &&& (3 : Int32)) w_CENTER w_START w_END w_FILL)), .unset] [(.int ((p1 &&& (3 : Int32)) ||| (p2 &&& (3 : Int32))))])) t → Steps p.tables e below (s₁.setTop (entryFrame m #[(.int p1), (.int p2)] maxLocals)) t := fun t k => pre6 t (by
    show Steps p.tables e below (T5.setTop (mkF m 18 #[.val (.int p1), .val (.int p2), .val (.int (p1 &&& (3 : Int32))), .val (.int (p2 &&& (3 : Int32))), .val (.ref (ofF ((p1 &&& (3 : Int32)) &&& (3 : Int32)) w_CENTER w_START w_END w_FILL)), .unset, .unset] [(.ref (ofF ((p2 &&& (3 : Int32)) &&& (3 : Int32)) w_CENTER w_START w_END w_FILL))])) _
    refine XS.astore X5.here hx rfl (hb hby at_18) rfl rfl (l' := #[.val (.int p1), .val (.int p2), .val (.int (p1 &&& (3 : Int32))), .val (.int (p2 &&& (3 : Int32))), .val (.ref (ofF ((p1 &&& (3 : Int32)) &&& (3 : Int32)) w_CENTER w_START w_END w_FILL)), .val (.ref (ofF ((p2 &&& (3 : Int32)) &&& (3 : Int32)) w_CENTER w_START w_END w_FILL)), .unset]) rfl ?_
    show Steps p.tables e below (T5.setTop (mkF m 20 #[.val (.int p1), .val (.int p2), .val (.int (p1 &&& (3 : Int32))), .val (.int (p2 &&& (3 : Int32))), .val (.ref (ofF ((p1 &&& (3 : Int32)) &&& (3 : Int32)) w_CENTER w_START w_END w_FILL)), .val (.ref (ofF ((p2 &&& (3 : Int32)) &&& (3 : Int32)) w_CENTER w_START w_END w_FILL)), .unset] [])) _
    refine XS.iloadN X5.here hx rfl (hb hby at_20) rfl ?_
    show Steps p.tables e below (T5.setTop (mkF m 21 #[.val (.int p1), .val (.int p2), .val (.int (p1 &&& (3 : Int32))), .val (.int (p2 &&& (3 : Int32))), .val (.ref (ofF ((p1 &&& (3 : Int32)) &&& (3 : Int32)) w_CENTER w_START w_END w_FILL)), .val (.ref (ofF ((p2 &&& (3 : Int32)) &&& (3 : Int32)) w_CENTER w_START w_END w_FILL)), .unset] [(.int (p1 &&& (3 : Int32)))])) _
    refine XS.iloadN X5.here hx rfl (hb hby at_21) rfl ?_
    show Steps p.tables e below (T5.setTop (mkF m 22 #[.val (.int p1), .val (.int p2), .val (.int (p1 &&& (3 : Int32))), .val (.int (p2 &&& (3 : Int32))), .val (.ref (ofF ((p1 &&& (3 : Int32)) &&& (3 : Int32)) w_CENTER w_START w_END w_FILL)), .val (.ref (ofF ((p2 &&& (3 : Int32)) &&& (3 : Int32)) w_CENTER w_START w_END w_FILL)), .unset] [(.int (p2 &&& (3 : Int32))), (.int (p1 &&& (3 : Int32)))])) _
    refine XS.ior X5.here hx rfl (hb hby at_22) rfl ?_
    exact k)
  obtain ⟨_, _, ⟨T8, L8, k8, n8⟩, -, X8, ⟨Lc8, hQ8, l8, y8, z8⟩, st8⟩ := Jvm.LawKit.callS X5 hx (y := (⟨"com/example/blynds/blynds/engine/GravityAndPinLaw", "of", "(I)Lcom/example/blynds/blynds/engine/Gravity$Placement;"⟩ : MethodName)) hown (mvT hZ (hw _ (List.mem_of_getElem? (i := 0) rfl))) (mvT hZ (hw _ (List.mem_of_getElem? (i := 1) rfl))) (mvT hZ (hw _ (List.mem_of_getElem? (i := 2) rfl))) (mvT hZ (hw _ (List.mem_of_getElem? (i := 3) rfl))) (by decide) (backOf (W := 0) (rm_of l Z a0 hw [] ((p1 &&& (3 : Int32)) ||| (p2 &&& (3 : Int32))) w_CENTER w_FILL w_END w_START h0 n0 Z0 O0 P') hZ (hw _ (List.mem_of_getElem? (i := 3) rfl)) (hw _ (List.mem_of_getElem? (i := 2) rfl)) (by decide) (by decide)) (g := (mkF m 23 #[.val (.int p1), .val (.int p2), .val (.int (p1 &&& (3 : Int32))), .val (.int (p2 &&& (3 : Int32))), .val (.ref (ofF ((p1 &&& (3 : Int32)) &&& (3 : Int32)) w_CENTER w_START w_END w_FILL)), .val (.ref (ofF ((p2 &&& (3 : Int32)) &&& (3 : Int32)) w_CENTER w_START w_END w_FILL)), .unset] [(.int ((p1 &&& (3 : Int32)) ||| (p2 &&& (3 : Int32))))])) rfl (by rw [hml]; rfl) (argsL := [(.int ((p1 &&& (3 : Int32)) ||| (p2 &&& (3 : Int32))))]) (rest := []) (lenOf pd_0 rfl) rfl (by show 2 * 0 + _ ≤ _; exact Nat.le_of_eq rfl) (hb hby at_23) (fun _ _ => ⟨rfl, e5, (by decide : 0 + 0 ≤ _), (by decide : 0 + 0 ≤ _)⟩)
  dsimp only [Pt.U, Pt.locs, Pt.cells, Pt.slots] at X8 l8 y8 z8 st8 hQ8
  subst l8 y8 z8
  obtain ⟨rfl, N8q, e8⟩ := hQ8
  have N8 := Fr.app N5 N8q
  have pre9 : ∀ t, Steps p.tables e below (T8.setTop (mkF m 26 #[.val (.int p1), .val (.int p2), .val (.int (p1 &&& (3 : Int32))), .val (.int (p2 &&& (3 : Int32))), .val (.ref (ofF ((p1 &&& (3 : Int32)) &&& (3 : Int32)) w_CENTER w_START w_END w_FILL)), .val (.ref (ofF ((p2 &&& (3 : Int32)) &&& (3 : Int32)) w_CENTER w_START w_END w_FILL)), .unset] [(.ref (ofF (((p1 &&& (3 : Int32)) ||| (p2 &&& (3 : Int32))) &&& (3 : Int32)) w_CENTER w_START w_END w_FILL))])) t → Steps p.tables e below (s₁.setTop (entryFrame m #[(.int p1), (.int p2)] maxLocals)) t := fun t k => pre7 t (st8 t k)
  have pre10 : ∀ t, Steps p.tables e below (T8.setTop (mkF m 32 #[.val (.int p1), .val (.int p2), .val (.int (p1 &&& (3 : Int32))), .val (.int (p2 &&& (3 : Int32))), .val (.ref (ofF ((p1 &&& (3 : Int32)) &&& (3 : Int32)) w_CENTER w_START w_END w_FILL)), .val (.ref (ofF ((p2 &&& (3 : Int32)) &&& (3 : Int32)) w_CENTER w_START w_END w_FILL)), .val (.ref (ofF (((p1 &&& (3 : Int32)) ||| (p2 &&& (3 : Int32))) &&& (3 : Int32)) w_CENTER w_START w_END w_FILL))] [(.ref (ofF ((p2 &&& (3 : Int32)) &&& (3 : Int32)) w_CENTER w_START w_END w_FILL)), (.ref (ofF ((p1 &&& (3 : Int32)) &&& (3 : Int32)) w_CENTER w_START w_END w_FILL))])) t → Steps p.tables e below (s₁.setTop (entryFrame m #[(.int p1), (.int p2)] maxLocals)) t := fun t k => pre9 t (by
    show Steps p.tables e below (T8.setTop (mkF m 26 #[.val (.int p1), .val (.int p2), .val (.int (p1 &&& (3 : Int32))), .val (.int (p2 &&& (3 : Int32))), .val (.ref (ofF ((p1 &&& (3 : Int32)) &&& (3 : Int32)) w_CENTER w_START w_END w_FILL)), .val (.ref (ofF ((p2 &&& (3 : Int32)) &&& (3 : Int32)) w_CENTER w_START w_END w_FILL)), .unset] [(.ref (ofF (((p1 &&& (3 : Int32)) ||| (p2 &&& (3 : Int32))) &&& (3 : Int32)) w_CENTER w_START w_END w_FILL))])) _
    refine XS.astore X8.here hx rfl (hb hby at_26) rfl rfl (l' := #[.val (.int p1), .val (.int p2), .val (.int (p1 &&& (3 : Int32))), .val (.int (p2 &&& (3 : Int32))), .val (.ref (ofF ((p1 &&& (3 : Int32)) &&& (3 : Int32)) w_CENTER w_START w_END w_FILL)), .val (.ref (ofF ((p2 &&& (3 : Int32)) &&& (3 : Int32)) w_CENTER w_START w_END w_FILL)), .val (.ref (ofF (((p1 &&& (3 : Int32)) ||| (p2 &&& (3 : Int32))) &&& (3 : Int32)) w_CENTER w_START w_END w_FILL))]) rfl ?_
    show Steps p.tables e below (T8.setTop (mkF m 28 #[.val (.int p1), .val (.int p2), .val (.int (p1 &&& (3 : Int32))), .val (.int (p2 &&& (3 : Int32))), .val (.ref (ofF ((p1 &&& (3 : Int32)) &&& (3 : Int32)) w_CENTER w_START w_END w_FILL)), .val (.ref (ofF ((p2 &&& (3 : Int32)) &&& (3 : Int32)) w_CENTER w_START w_END w_FILL)), .val (.ref (ofF (((p1 &&& (3 : Int32)) ||| (p2 &&& (3 : Int32))) &&& (3 : Int32)) w_CENTER w_START w_END w_FILL))] [])) _
    refine XS.aload X8.here hx rfl (hb hby at_28) rfl rfl ?_
    show Steps p.tables e below (T8.setTop (mkF m 30 #[.val (.int p1), .val (.int p2), .val (.int (p1 &&& (3 : Int32))), .val (.int (p2 &&& (3 : Int32))), .val (.ref (ofF ((p1 &&& (3 : Int32)) &&& (3 : Int32)) w_CENTER w_START w_END w_FILL)), .val (.ref (ofF ((p2 &&& (3 : Int32)) &&& (3 : Int32)) w_CENTER w_START w_END w_FILL)), .val (.ref (ofF (((p1 &&& (3 : Int32)) ||| (p2 &&& (3 : Int32))) &&& (3 : Int32)) w_CENTER w_START w_END w_FILL))] [(.ref (ofF ((p1 &&& (3 : Int32)) &&& (3 : Int32)) w_CENTER w_START w_END w_FILL))])) _
    refine XS.aload X8.here hx rfl (hb hby at_30) rfl rfl ?_
    exact k)
  obtain ⟨cq11, kq11, q11a, q11b, q11c⟩ := isOf hZ e8 (Exa.ext O0 (own_exa P' _))
  obtain ⟨_, _, ⟨T11, L11, k11, n11⟩, -, X11, ⟨Lc11, hQ11, l11, y11, z11⟩, st11⟩ := X8.virtualBack hx (y := (⟨"com/example/blynds/blynds/engine/Gravity$Placement", "and", "(Lcom/example/blynds/blynds/engine/Gravity$Placement;)Lcom/example/blynds/blynds/engine/Gravity$Placement;"⟩ : MethodName)) (z := (⟨"com/example/blynds/blynds/engine/Gravity$Placement", "and", "(Lcom/example/blynds/blynds/engine/Gravity$Placement;)Lcom/example/blynds/blynds/engine/Gravity$Placement;"⟩ : MethodName)) hown (mvT hZ (hw _ (List.mem_of_getElem? (i := 9) rfl))) (mvT hZ (hw _ (List.mem_of_getElem? (i := 10) rfl))) (notFace_of_selects (args := #[]) (mvT hZ (hw _ (List.mem_of_getElem? (i := 12) rfl)))) (mvT hZ (hw _ (List.mem_of_getElem? (i := 12) rfl))) (mvT hZ (hw _ (List.mem_of_getElem? (i := 11) rfl))) (by decide) (backOf (W := 0) (rm_and l Z a0 hw [] (ofF ((p1 &&& (3 : Int32)) &&& (3 : Int32)) w_CENTER w_START w_END w_FILL) (ofF ((p2 &&& (3 : Int32)) &&& (3 : Int32)) w_CENTER w_START w_END w_FILL) (tsF ((p1 &&& (3 : Int32)) &&& (3 : Int32))) (teF ((p1 &&& (3 : Int32)) &&& (3 : Int32))) (tsF ((p2 &&& (3 : Int32)) &&& (3 : Int32))) (teF ((p2 &&& (3 : Int32)) &&& (3 : Int32))) w_CENTER w_FILL w_END w_START h0 n0 Z0 O0 P' (Fld.ext O0 (own_ts P' _)) (Fld.ext O0 (own_te P' _)) (Fld.ext O0 (own_ts P' _)) (Fld.ext O0 (own_te P' _))) hZ (hw _ (List.mem_of_getElem? (i := 13) rfl)) (hw _ (List.mem_of_getElem? (i := 5) rfl)) (by decide) (by decide)) q11a q11c (g := (mkF m 32 #[.val (.int p1), .val (.int p2), .val (.int (p1 &&& (3 : Int32))), .val (.int (p2 &&& (3 : Int32))), .val (.ref (ofF ((p1 &&& (3 : Int32)) &&& (3 : Int32)) w_CENTER w_START w_END w_FILL)), .val (.ref (ofF ((p2 &&& (3 : Int32)) &&& (3 : Int32)) w_CENTER w_START w_END w_FILL)), .val (.ref (ofF (((p1 &&& (3 : Int32)) ||| (p2 &&& (3 : Int32))) &&& (3 : Int32)) w_CENTER w_START w_END w_FILL))] [(.ref (ofF ((p2 &&& (3 : Int32)) &&& (3 : Int32)) w_CENTER w_START w_END w_FILL)), (.ref (ofF ((p1 &&& (3 : Int32)) &&& (3 : Int32)) w_CENTER w_START w_END w_FILL))])) rfl (by rw [hml]; rfl) (Steps.refl _) (argsL := [(.ref (ofF ((p2 &&& (3 : Int32)) &&& (3 : Int32)) w_CENTER w_START w_END w_FILL))]) (rest := []) (lenOf pd_1 rfl) rfl (by show 2 * 0 + _ ≤ _; exact Nat.le_of_eq rfl) (hb hby at_32) (fun _ _ => ⟨rfl, e8, (by decide : 0 + 0 ≤ _), (by decide : 0 + 0 ≤ _)⟩)
  dsimp only [Pt.U, Pt.locs, Pt.cells, Pt.slots] at X11 l11 y11 z11 st11 hQ11
  subst l11 y11 z11
  obtain ⟨rfl, N11q, e11⟩ := hQ11
  have N11 := Fr.app N8 N11q
  have pre12 : ∀ t, Steps p.tables e below (T11.setTop (mkF m 35 #[.val (.int p1), .val (.int p2), .val (.int (p1 &&& (3 : Int32))), .val (.int (p2 &&& (3 : Int32))), .val (.ref (ofF ((p1 &&& (3 : Int32)) &&& (3 : Int32)) w_CENTER w_START w_END w_FILL)), .val (.ref (ofF ((p2 &&& (3 : Int32)) &&& (3 : Int32)) w_CENTER w_START w_END w_FILL)), .val (.ref (ofF (((p1 &&& (3 : Int32)) ||| (p2 &&& (3 : Int32))) &&& (3 : Int32)) w_CENTER w_START w_END w_FILL))] [(.ref (andF (tsF ((p1 &&& (3 : Int32)) &&& (3 : Int32))) (teF ((p1 &&& (3 : Int32)) &&& (3 : Int32))) (tsF ((p2 &&& (3 : Int32)) &&& (3 : Int32))) (teF ((p2 &&& (3 : Int32)) &&& (3 : Int32))) w_CENTER w_START w_END w_FILL))])) t → Steps p.tables e below (s₁.setTop (entryFrame m #[(.int p1), (.int p2)] maxLocals)) t := fun t k => pre10 t (st11.trans k)
  have pre13 : ∀ t, Steps p.tables e below (T11.setTop (mkF m 45 #[.val (.int p1), .val (.int p2), .val (.int (p1 &&& (3 : Int32))), .val (.int (p2 &&& (3 : Int32))), .val (.ref (ofF ((p1 &&& (3 : Int32)) &&& (3 : Int32)) w_CENTER w_START w_END w_FILL)), .val (.ref (ofF ((p2 &&& (3 : Int32)) &&& (3 : Int32)) w_CENTER w_START w_END w_FILL)), .val (.ref (ofF (((p1 &&& (3 : Int32)) ||| (p2 &&& (3 : Int32))) &&& (3 : Int32)) w_CENTER w_START w_END w_FILL))] [(.int (1 : Int32))])) t → Steps p.tables e below (s₁.setTop (entryFrame m #[(.int p1), (.int p2)] maxLocals)) t := fun t k => pre12 t (by
    show Steps p.tables e below (T11.setTop (mkF m 35 #[.val (.int p1), .val (.int p2), .val (.int (p1 &&& (3 : Int32))), .val (.int (p2 &&& (3 : Int32))), .val (.ref (ofF ((p1 &&& (3 : Int32)) &&& (3 : Int32)) w_CENTER w_START w_END w_FILL)), .val (.ref (ofF ((p2 &&& (3 : Int32)) &&& (3 : Int32)) w_CENTER w_START w_END w_FILL)), .val (.ref (ofF (((p1 &&& (3 : Int32)) ||| (p2 &&& (3 : Int32))) &&& (3 : Int32)) w_CENTER w_START w_END w_FILL))] [(.ref (andF (tsF ((p1 &&& (3 : Int32)) &&& (3 : Int32))) (teF ((p1 &&& (3 : Int32)) &&& (3 : Int32))) (tsF ((p2 &&& (3 : Int32)) &&& (3 : Int32))) (teF ((p2 &&& (3 : Int32)) &&& (3 : Int32))) w_CENTER w_START w_END w_FILL))])) _
    refine XS.aload X11.here hx rfl (hb hby at_35) rfl rfl ?_
    show Steps p.tables e below (T11.setTop (mkF m 37 #[.val (.int p1), .val (.int p2), .val (.int (p1 &&& (3 : Int32))), .val (.int (p2 &&& (3 : Int32))), .val (.ref (ofF ((p1 &&& (3 : Int32)) &&& (3 : Int32)) w_CENTER w_START w_END w_FILL)), .val (.ref (ofF ((p2 &&& (3 : Int32)) &&& (3 : Int32)) w_CENTER w_START w_END w_FILL)), .val (.ref (ofF (((p1 &&& (3 : Int32)) ||| (p2 &&& (3 : Int32))) &&& (3 : Int32)) w_CENTER w_START w_END w_FILL))] [(.ref (ofF (((p1 &&& (3 : Int32)) ||| (p2 &&& (3 : Int32))) &&& (3 : Int32)) w_CENTER w_START w_END w_FILL)), (.ref (andF (tsF ((p1 &&& (3 : Int32)) &&& (3 : Int32))) (teF ((p1 &&& (3 : Int32)) &&& (3 : Int32))) (tsF ((p2 &&& (3 : Int32)) &&& (3 : Int32))) (teF ((p2 &&& (3 : Int32)) &&& (3 : Int32))) w_CENTER w_START w_END w_FILL))])) _
    refine Jvm.RoadKit.acmp (g := (mkF m 37 #[.val (.int p1), .val (.int p2), .val (.int (p1 &&& (3 : Int32))), .val (.int (p2 &&& (3 : Int32))), .val (.ref (ofF ((p1 &&& (3 : Int32)) &&& (3 : Int32)) w_CENTER w_START w_END w_FILL)), .val (.ref (ofF ((p2 &&& (3 : Int32)) &&& (3 : Int32)) w_CENTER w_START w_END w_FILL)), .val (.ref (ofF (((p1 &&& (3 : Int32)) ||| (p2 &&& (3 : Int32))) &&& (3 : Int32)) w_CENTER w_START w_END w_FILL))] [(.ref (ofF (((p1 &&& (3 : Int32)) ||| (p2 &&& (3 : Int32))) &&& (3 : Int32)) w_CENTER w_START w_END w_FILL)), (.ref (andF (tsF ((p1 &&& (3 : Int32)) &&& (3 : Int32))) (teF ((p1 &&& (3 : Int32)) &&& (3 : Int32))) (tsF ((p2 &&& (3 : Int32)) &&& (3 : Int32))) (teF ((p2 &&& (3 : Int32)) &&& (3 : Int32))) w_CENTER w_START w_END w_FILL))])) X11 hx rfl rfl rfl (pc0 := 37) (pc' := 40) (same := true) rfl (hb hby at_37) rfl (decide_eq_true (congrArg Value.ref (own_plain p1 p2 w_CENTER w_START w_END w_FILL))) (by decide) (by decide) ?_
    show Steps p.tables e below (T11.setTop (mkF m 40 #[.val (.int p1), .val (.int p2), .val (.int (p1 &&& (3 : Int32))), .val (.int (p2 &&& (3 : Int32))), .val (.ref (ofF ((p1 &&& (3 : Int32)) &&& (3 : Int32)) w_CENTER w_START w_END w_FILL)), .val (.ref (ofF ((p2 &&& (3 : Int32)) &&& (3 : Int32)) w_CENTER w_START w_END w_FILL)), .val (.ref (ofF (((p1 &&& (3 : Int32)) ||| (p2 &&& (3 : Int32))) &&& (3 : Int32)) w_CENTER w_START w_END w_FILL))] [])) _
    refine XS.iconst X11.here hx rfl (hb hby at_40) ?_
    show Steps p.tables e below (T11.setTop (mkF m 41 #[.val (.int p1), .val (.int p2), .val (.int (p1 &&& (3 : Int32))), .val (.int (p2 &&& (3 : Int32))), .val (.ref (ofF ((p1 &&& (3 : Int32)) &&& (3 : Int32)) w_CENTER w_START w_END w_FILL)), .val (.ref (ofF ((p2 &&& (3 : Int32)) &&& (3 : Int32)) w_CENTER w_START w_END w_FILL)), .val (.ref (ofF (((p1 &&& (3 : Int32)) ||| (p2 &&& (3 : Int32))) &&& (3 : Int32)) w_CENTER w_START w_END w_FILL))] [(.int (1 : Int32))])) _
    refine XS.goto X11.here hx rfl (pc0 := 41) (pc' := 45) rfl (hb hby at_41) (by decide) (by decide) ?_
    exact k)
  obtain ⟨fs, hr, hrun, hended, hW, hsame⟩ := X11.leave (v := some (.int (1 : Int32))) (fun h => by rw [Bd.returns] at h; cases h)
  refine ⟨_, _, pre13 _ ?_, hrun, hended, _, _, rfl, ?_, ⟨_, rfl⟩, hW, hsame.mono (by decide) (by decide)⟩
  · exact retN X11 hx (t := .boolean) Bd.returns (by simp) (hb hby at_45) hr
  · show Q_rm_law Z p1 p2 w_CENTER w_FILL w_END w_START h0 n0 _ T11.heap _
    rw [e11]
    exact ⟨rfl, N11⟩
set_option maxRecDepth 65536 in
set_option maxHeartbeats 40000000 in
theorem comes_1 {Post : Tables → Env → Array Value → State → Outcome → State → Prop} (hpost : ∀ tb e args s v u, (limb_1_1.after args s (.returned v) u = true ∧ limb_1_2.after args s (.returned v) u = true ∧ True) → FrameEnd s (.returned v) u (Jvm.fieldLocs frame_1_writes args s ++ Jvm.arrayLocs frame_1_arrays args s ++ Jvm.staticLocs frame_1_statics s) 0 0 → Post tb e args s (.returned v) u) :
    ArmFor flags0 classFile x code maxLocals ret World_1 tables_1 room_1 Calls_1 rest_1 Pre_1 Post := by
  intro l hfl _ _ p e ha hc hk s m args below hf hA hF happ hP0
  obtain ⟨hcalls, hrest, hpre⟩ := hP0
  obtain ⟨-, -, -, hnamed, -, -, -, hat⟩ := (Spec.applies_iff hf).mp happ
  obtain ⟨hg, hn⟩ := and_e (Cond.before_iff.mp (show (Jvm.Cond.and given_1 narrow_1).before args s = true from hpre))
  obtain ⟨g0a, g0b⟩ := and_e hg
  obtain ⟨g1a, g1b⟩ := and_e g0b
  obtain ⟨w0, w1, rfl⟩ : ∃ w0 w1 : Value, args = #[w0, w1] := by
    have hs : args.size = 2 := by simpa [Cond.value, given_1] using g0a
    obtain ⟨L⟩ := args
    match L, hs with
    | [w0, w1], _ => exact ⟨w0, w1, rfl⟩
  have hw := fun d (hd : d ∈ tables_1) => atoms_spec (ws := Jvm.Cond.code x code maxLocals ret :: tables_1) hat d (List.mem_cons_of_mem _ hd)
  have hfit : Fit s := fun {y c} hc i hi => by
    obtain ⟨ha, rfl⟩ := Array.getElem?_eq_some_iff.mp hc
    have q := List.all_eq_true.mp ((Array.all_eq_true_iff_forall_mem.mp hF) _ (Array.getElem_mem ha)) i (List.mem_range.mpr hi)
    simpa [Array.getElem?_eq_getElem hi] using q
  obtain ⟨i0, ei0⟩ := is_v g1a
  obtain rfl : w0 = (.int i0) := Option.some.inj ei0
  obtain ⟨i1, ei1⟩ := is_v g1b
  obtain rfl : w1 = (.int i1) := Option.some.inj ei1
  have hn' := hn
  obtain ⟨na0, nb0⟩ := and_e hn
  obtain ⟨na1, nb1⟩ := and_e nb0
  obtain ⟨na2, nb2⟩ := and_e nb1
  obtain ⟨na3, nb3⟩ := and_e nb2
  obtain ⟨na4, nb4⟩ := and_e nb3
  obtain ⟨na5, nb5⟩ := and_e nb4
  obtain ⟨na6, nb6⟩ := and_e nb5
  obtain ⟨na7, nb7⟩ := and_e nb6
  obtain ⟨na8, nb8⟩ := and_e nb7
  obtain ⟨na9, nb9⟩ := and_e nb8
  obtain ⟨na10, nb10⟩ := and_e nb9
  obtain ⟨w_CENTER, ev_CENTER, E_CENTER⟩ := own_pin na0
  have S_CENTER := Sta.start ev_CENTER (Or.inr ⟨(hw _ (List.mem_of_getElem? (i := 5) rfl)), (hw _ (List.mem_of_getElem? (i := 6) rfl))⟩)
  obtain ⟨w_FILL, ev_FILL, E_FILL⟩ := own_pin na1
  have S_FILL := Sta.start ev_FILL (Or.inr ⟨(hw _ (List.mem_of_getElem? (i := 5) rfl)), (hw _ (List.mem_of_getElem? (i := 8) rfl))⟩)
  obtain ⟨w_END, ev_END, E_END⟩ := own_pin na6
  have S_END := Sta.start ev_END (Or.inr ⟨(hw _ (List.mem_of_getElem? (i := 5) rfl)), (hw _ (List.mem_of_getElem? (i := 20) rfl))⟩)
  obtain ⟨w_START, ev_START, E_START⟩ := own_pin na7
  have S_START := Sta.start ev_START (Or.inr ⟨(hw _ (List.mem_of_getElem? (i := 5) rfl)), (hw _ (List.mem_of_getElem? (i := 22) rfl))⟩)
  have F_towardStart_CENTER := own_fld ev_CENTER na2
  have F_towardStart_FILL := own_fld ev_FILL na3
  have F_towardEnd_CENTER := own_fld ev_CENTER na4
  have F_towardEnd_FILL := own_fld ev_FILL na5
  have F_towardStart_END := own_fld ev_END na8
  have F_towardStart_START := own_fld ev_START na9
  have F_towardEnd_END := own_fld ev_END na10
  have F_towardEnd_START := own_fld ev_START nb10
  have hP : Pins s w_CENTER w_FILL w_END w_START := ⟨S_CENTER, S_FILL, S_END, S_START, E_CENTER, E_FILL, E_END, E_START, F_towardStart_CENTER, F_towardStart_FILL, F_towardEnd_CENTER, F_towardEnd_FILL, F_towardStart_END, F_towardStart_START, F_towardEnd_END, F_towardEnd_START⟩
  obtain ⟨n, o, h1, h2, h3, _, L, rfl, ⟨rfl, N⟩, hq⟩ := rm_law l s _ hw tables_1 i0 i1 w_CENTER w_FILL w_END w_START s.heap s.heap.size (Nat.le_refl _) (own_ext_refl _) hP p e ha hc hk s m _ below hf ((Spec.applies_iff_loose hf).mp happ).1 ⟨rfl, State.Warmed39.refl s, rfl⟩ trivial
  refine ⟨n, _, h1, h2, h3, hpost _ _ _ _ _ _ ⟨Cond.after_iff.mpr rfl, Cond.after_iff.mpr (eq_i res_at (Term.int_eval (1)) rfl), trivial⟩ ⟨hq.1, hq.2.1, (hq.2.2.sift fun y hy => Or.inr (N y hy)).mono (by decide) (by decide)⟩⟩
theorem main_1_1 : Claimed_1_1 := comes_1 fun _ _ _ _ _ _ h hF => ⟨h.1, hF⟩
theorem main_1_2 : Claimed_1_2 := comes_1 fun _ _ _ _ _ _ h hF => ⟨h.2.1, hF⟩
end Jvm.Pilot.@@N@@
namespace Jvm.Pilot.@@N@@
open Jvm Jvm.ClassFile Sem Op Lib Jvm.Free Jvm.Stand Jvm.Pilot.@@N@@.Jvm.D
/-! MADE BY PROGRAM (witnessworld.py) out of the Statement's table words and the real class files: 12 classes; the members and pool entries that the words name. The judged class is class 1, her method 2. -/
namespace start1
open Jvm.ClassFile
def u (s : String) : CpInfo := .utf8 (stringToUtf16 s)
/-- a pool by its gaps: so many unusable entries, then the entry; so many at the end -/
def gap : Nat → List CpInfo → List CpInfo
  | 0, r => r
  | n + 1, r => .unusable :: gap n r
def poolList (es : List (Nat × CpInfo)) (last : Nat) : List CpInfo := es.foldr (fun e r => gap e.1 (e.2 :: r)) (gap last [])
def pool (es : List (Nat × CpInfo)) (last : Nat) : Array CpInfo := ⟨poolList es last⟩
def fileOf (pool : Array CpInfo) (this : Nat) (attrs : Array Attribute := #[]) (ms : Array MethodInfo := #[]) (fl : Nat := 33) (sup : Nat := 0) (ifs : Array Nat := #[]) (fds : Array FieldInfo := #[]) : ClassFile where
  minorVersion := 0
  majorVersion := 65
  constantPool := pool
  accessFlags := fl
  thisClass := this
  superClass := sup
  interfaces := ifs
  fields := fds
  methods := ms
  attributes := attrs
def plain (name : String) (sup : Option ClassId) : Class where
  name := name
  kind := .ordinary
  loader := none
  accessFlags := 33
  super := sup
  interfaces := #[]
  cf := none
  fields := #[]
  methods := #[]
  instanceTypes := #[]
  staticTypes := #[]
  resolved := #[]
  callSites := []
  init := .initialized
  statics := none
  mirror := none

def pool0 : Array CpInfo := pool [(5, u "<init>"), (0, u "()V"), (1, .class_ 10), (1, u "java/lang/Object")] 113

def k0m0 : Method := { name := "<init>", desc := "()V", sig := { parameters := [], returnType := none }, accessFlags := 1, code := none }
/-- java/lang/Object -/
def k0 : Class := { plain "java/lang/Object" none with
  accessFlags := 33
  interfaces := #[]
  cf := some (fileOf pool0 8 #[] #[{ accessFlags := 1, nameIndex := 5, descriptorIndex := 6, attributes := #[] }] 33 0 #[] #[])
  fields := #[]
  methods := #[k0m0]
  instanceTypes := #[]
  staticTypes := #[]
  resolved := Array.replicate 124 none
  statics := none }

def pool1 : Array CpInfo := pool [(2, .class_ 4), (1, u "java/lang/Object"), (0, u "<init>"), (0, u "()V"), (0, .fieldref 8 9), (0, .class_ 10), (0, .nameAndType 11 12), (0, u "com/example/blynds/blynds/engine/Gravity$Placement"), (0, u "CENTER"), (0, u "Lcom/example/blynds/blynds/engine/Gravity$Placement;"), (0, .fieldref 8 14), (0, .nameAndType 15 12), (0, u "START"), (0, .fieldref 8 17), (0, .nameAndType 18 12), (0, u "END"), (0, .fieldref 8 20), (0, .nameAndType 21 12), (0, u "FILL"), (0, .methodref 23 24), (0, .class_ 25), (0, .nameAndType 26 27), (0, u "com/example/blynds/blynds/engine/GravityAndPinLaw"), (0, u "of"), (0, u "(I)Lcom/example/blynds/blynds/engine/Gravity$Placement;"), (0, .methodref 8 29), (0, .nameAndType 30 31), (0, u "and"), (0, u "(Lcom/example/blynds/blynds/engine/Gravity$Placement;)Lcom/example/blynds/blynds/engine/Gravity$Placement;"), (3, u "law"), (0, u "(II)Z")] 6

def k1m0 : Method := { name := "<init>", desc := "()V", sig := { parameters := [], returnType := none }, accessFlags := 2, code := none }
def k1c1 : Code := { maxStack := 2, maxLocals := 2, code := method_2_code, exceptionTable := #[], attributes := #[] }
def k1m1 : Method := { name := "of", desc := "(I)Lcom/example/blynds/blynds/engine/Gravity$Placement;", sig := { parameters := [.int], returnType := some (.object "com/example/blynds/blynds/engine/Gravity$Placement") }, accessFlags := 10, code := some k1c1 }
def k1c2 : Code := { maxStack := 2, maxLocals := 7, code := code, exceptionTable := #[], attributes := #[] }
def k1m2 : Method := { name := "law", desc := "(II)Z", sig := { parameters := [.int, .int], returnType := some .boolean }, accessFlags := 9, code := some k1c2 }
/-- com/example/blynds/blynds/engine/GravityAndPinLaw -/
def k1 : Class := { plain "com/example/blynds/blynds/engine/GravityAndPinLaw" (some 0) with
  accessFlags := 49
  interfaces := #[]
  cf := some (fileOf pool1 23 #[] #[{ accessFlags := 2, nameIndex := 5, descriptorIndex := 6, attributes := #[] }, { accessFlags := 10, nameIndex := 26, descriptorIndex := 27, attributes := #[] }, { accessFlags := 9, nameIndex := 35, descriptorIndex := 36, attributes := #[] }] 49 2 #[] #[])
  fields := #[]
  methods := #[k1m0, k1m1, k1m2]
  instanceTypes := #[]
  staticTypes := #[]
  resolved := Array.replicate 43 none
  statics := none }

def pool2 : Array CpInfo := pool [(1, .class_ 2), (0, u "java/lang/constant/Constable"), (0, .class_ 4), (0, u "java/lang/Object")] 6

/-- java/lang/constant/Constable -/
def k2 : Class := { plain "java/lang/constant/Constable" (some 0) with
  accessFlags := 1537
  interfaces := #[]
  cf := some (fileOf pool2 1 #[] #[] 1537 3 #[] #[])
  fields := #[]
  methods := #[]
  instanceTypes := #[]
  staticTypes := #[]
  resolved := Array.replicate 11 none
  statics := none }

def pool3 : Array CpInfo := pool [(1, .class_ 2), (0, u "java/lang/Comparable"), (0, .class_ 4), (0, u "java/lang/Object")] 7

/-- java/lang/Comparable -/
def k3 : Class := { plain "java/lang/Comparable" (some 0) with
  accessFlags := 1537
  interfaces := #[]
  cf := some (fileOf pool3 1 #[] #[] 1537 3 #[] #[])
  fields := #[]
  methods := #[]
  instanceTypes := #[]
  staticTypes := #[]
  resolved := Array.replicate 12 none
  statics := none }

def pool4 : Array CpInfo := pool [(1, .class_ 2), (0, u "java/io/Serializable"), (0, .class_ 4), (0, u "java/lang/Object")] 2

/-- java/io/Serializable -/
def k4 : Class := { plain "java/io/Serializable" (some 0) with
  accessFlags := 1537
  interfaces := #[]
  cf := some (fileOf pool4 1 #[] #[] 1537 3 #[] #[])
  fields := #[]
  methods := #[]
  instanceTypes := #[]
  staticTypes := #[]
  resolved := Array.replicate 7 none
  statics := none }

def pool5 : Array CpInfo := pool [(2, .class_ 4), (1, u "java/lang/Enum"), (0, u "name"), (0, u "Ljava/lang/String;"), (2, u "ordinal"), (0, u "I"), (1, .class_ 14), (1, u "java/lang/Object"), (4, u "hash"), (86, .class_ 108), (1, u "java/lang/Enum$EnumDesc"), (2, .class_ 112), (0, u "java/lang/constant/Constable"), (0, .class_ 114), (0, u "java/lang/Comparable"), (0, .class_ 116), (0, u "java/io/Serializable")] 87

/-- java/lang/Enum -/
def k5 : Class := { plain "java/lang/Enum" (some 0) with
  accessFlags := 1057
  interfaces := #[2, 3, 4]
  cf := some (fileOf pool5 2 #[.nestMembers #[106]] #[] 1057 12 #[111, 113, 115] #[{ accessFlags := 18, nameIndex := 5, descriptorIndex := 6, attributes := #[] }, { accessFlags := 18, nameIndex := 9, descriptorIndex := 10, attributes := #[] }, { accessFlags := 2, nameIndex := 19, descriptorIndex := 10, attributes := #[] }])
  fields := #[{ name := "name", type := (.object "java/lang/String"), accessFlags := 18, slot := 0, constantValue := 0 }, { name := "ordinal", type := .int, accessFlags := 18, slot := 1, constantValue := 0 }, { name := "hash", type := .int, accessFlags := 2, slot := 2, constantValue := 0 }]
  methods := #[]
  instanceTypes := #[(.object "java/lang/String"), .int, .int]
  staticTypes := #[]
  resolved := Array.replicate 204 none
  statics := none }

def pool6 : Array CpInfo := pool [(1, .class_ 2), (0, u "com/example/blynds/blynds/engine/Gravity$Placement"), (0, .fieldref 1 4), (0, .nameAndType 5 6), (0, u "START"), (0, u "Lcom/example/blynds/blynds/engine/Gravity$Placement;"), (0, .fieldref 1 8), (0, .nameAndType 9 6), (0, u "END"), (0, .fieldref 1 11), (0, .nameAndType 12 6), (0, u "CENTER"), (0, .fieldref 1 14), (0, .nameAndType 15 6), (0, u "FILL"), (2, u "$VALUES"), (0, u "[Lcom/example/blynds/blynds/engine/Gravity$Placement;"), (6, .class_ 28), (1, u "java/lang/Enum"), (6, .fieldref 1 36), (0, .nameAndType 37 38), (0, u "towardStart"), (0, u "Z"), (0, .fieldref 1 40), (0, .nameAndType 41 38), (0, u "towardEnd"), (18, u "and"), (0, u "(Lcom/example/blynds/blynds/engine/Gravity$Placement;)Lcom/example/blynds/blynds/engine/Gravity$Placement;"), (7, .class_ 70), (0, u "com/example/blynds/blynds/engine/Gravity")] 2

def k6c0 : Code := { maxStack := 1, maxLocals := 4, code := prog_20_method_4_code, exceptionTable := #[], attributes := #[] }
def k6m0 : Method := { name := "and", desc := "(Lcom/example/blynds/blynds/engine/Gravity$Placement;)Lcom/example/blynds/blynds/engine/Gravity$Placement;", sig := { parameters := [(.object "com/example/blynds/blynds/engine/Gravity$Placement")], returnType := some (.object "com/example/blynds/blynds/engine/Gravity$Placement") }, accessFlags := 0, code := some k6c0 }
/-- com/example/blynds/blynds/engine/Gravity$Placement -/
def k6 : Class := { plain "com/example/blynds/blynds/engine/Gravity$Placement" (some 5) with
  accessFlags := 16432
  interfaces := #[]
  cf := some (fileOf pool6 1 #[.nestHost 69] #[{ accessFlags := 0, nameIndex := 60, descriptorIndex := 61, attributes := #[] }] 16432 26 #[] #[{ accessFlags := 16409, nameIndex := 5, descriptorIndex := 6, attributes := #[] }, { accessFlags := 16409, nameIndex := 9, descriptorIndex := 6, attributes := #[] }, { accessFlags := 16409, nameIndex := 12, descriptorIndex := 6, attributes := #[] }, { accessFlags := 16409, nameIndex := 15, descriptorIndex := 6, attributes := #[] }, { accessFlags := 18, nameIndex := 37, descriptorIndex := 38, attributes := #[] }, { accessFlags := 18, nameIndex := 41, descriptorIndex := 38, attributes := #[] }, { accessFlags := 4122, nameIndex := 18, descriptorIndex := 19, attributes := #[] }])
  fields := #[{ name := "START", type := (.object "com/example/blynds/blynds/engine/Gravity$Placement"), accessFlags := 16409, slot := 0, constantValue := 0 }, { name := "END", type := (.object "com/example/blynds/blynds/engine/Gravity$Placement"), accessFlags := 16409, slot := 1, constantValue := 0 }, { name := "CENTER", type := (.object "com/example/blynds/blynds/engine/Gravity$Placement"), accessFlags := 16409, slot := 2, constantValue := 0 }, { name := "FILL", type := (.object "com/example/blynds/blynds/engine/Gravity$Placement"), accessFlags := 16409, slot := 3, constantValue := 0 }, { name := "towardStart", type := .boolean, accessFlags := 18, slot := 3, constantValue := 0 }, { name := "towardEnd", type := .boolean, accessFlags := 18, slot := 4, constantValue := 0 }, { name := "$VALUES", type := (.array (.object "com/example/blynds/blynds/engine/Gravity$Placement")), accessFlags := 4122, slot := 4, constantValue := 0 }]
  methods := #[k6m0]
  instanceTypes := #[(.object "java/lang/String"), .int, .int, .boolean, .boolean]
  staticTypes := #[(.object "com/example/blynds/blynds/engine/Gravity$Placement"), (.object "com/example/blynds/blynds/engine/Gravity$Placement"), (.object "com/example/blynds/blynds/engine/Gravity$Placement"), (.object "com/example/blynds/blynds/engine/Gravity$Placement"), (.array (.object "com/example/blynds/blynds/engine/Gravity$Placement"))]
  resolved := Array.replicate 73 none
  statics := some 0 }

def pool7 : Array CpInfo := pool [(1, u "java/lang/Cloneable"), (0, .class_ 1), (0, u "java/lang/Object"), (0, .class_ 3)] 3

/-- java/lang/Cloneable -/
def k7 : Class := { plain "java/lang/Cloneable" (some 0) with
  accessFlags := 1537
  interfaces := #[]
  cf := some (fileOf pool7 2 #[] #[] 1537 4 #[] #[])
  fields := #[]
  methods := #[]
  instanceTypes := #[]
  staticTypes := #[]
  resolved := Array.replicate 8 none
  statics := none }

/-- the primitive byte -/
def k8 : Class := { plain "byte" none with kind := .primitive 'B', accessFlags := 0x411 }
/-- [B -/
def k9 : Class := { plain "[B" (some 0) with kind := .array 8 .byte, interfaces := #[7, 4], accessFlags := 1041 }

/-- the primitive int -/
def k10 : Class := { plain "int" none with kind := .primitive 'I', accessFlags := 0x411 }
/-- [I -/
def k11 : Class := { plain "[I" (some 0) with kind := .array 10 .int, interfaces := #[7, 4], accessFlags := 1041 }

def heap : Heap := #[{ cls := 6, slots := #[.ref 4, .ref 3, .ref 1, .ref 2, .null], vm := .statics 6 },
  { cls := 6, slots := #[.null, .int 0, .int 0, .int 0, .int 0], vm := .none },
  { cls := 6, slots := #[.null, .int 0, .int 0, .int 1, .int 1], vm := .none },
  { cls := 6, slots := #[.null, .int 0, .int 0, .int 0, .int 1], vm := .none },
  { cls := 6, slots := #[.null, .int 0, .int 0, .int 1, .int 0], vm := .none }]
def classes : Array Class := #[k0, k1, k2, k3, k4, k5, k6, k7, k8, k9, k10, k11]
def interned : List (Array UInt16 × Addr) := []
def slotsUsed : Nat := 25
def theMethod : MethodId := ⟨1, 2⟩
def args0 : Array Value := #[.int 5, .int 6]
def aboutOver (below : List Frame) : State where
  vm := { classes := classes, interned := interned.toArray }
  heap := heap
  slotsUsed := slotsUsed
  threads := #[{ frames := .invoking theMethod args0 :: below }]
def below0 : List Frame := [.native { method := ⟨0, 0⟩, args := #[] }]
def about1 : State := aboutOver below0
def p0 : Program := .bare "" "" ""
def e0 : Env := launch0.env 0 0 0
theorem w_frames : about1.frames = Frame.invoking theMethod args0 :: below0 := rfl
set_option maxRecDepth 65536 in
theorem w_args : argsFit about1.vm theMethod args0 = true := by decide +kernel
set_option maxRecDepth 65536 in
theorem w_heap : heapFits about1 = true := by decide +kernel
set_option maxRecDepth 65536 in
theorem w_runnable : about1.curStatus? = some .runnable := by decide +kernel
set_option maxRecDepth 65536 in
theorem w_alone : about1.alone = true := by decide +kernel
set_option maxRecDepth 65536 in
theorem w_named : about1.methodNamed? x = some theMethod := by decide +kernel
set_option maxRecDepth 65536 in
theorem w_hears : about1.hears theMethod below0 = true := by decide +kernel
set_option maxRecDepth 65536 in
theorem w_ripe : about1.ripe theMethod args0 below0 = true := by decide +kernel
theorem w_running : about1.status = .running := rfl
set_option maxRecDepth 65536 in
theorem w_room : about1.hasRoom e0.platform room_1 = true :=
  launch0.hasRoom_least _ room_1 (by decide +kernel) (by decide +kernel) (by decide +kernel) (by decide +kernel) (by decide +kernel) (by decide +kernel)
theorem allAtoms_all (ts : List Jvm.Cond) (a : Array Jvm.Value) (st : Jvm.State) : (allAtoms ts).before a st = ts.all (fun c => c.before a st) := by
  induction ts with
  | nil => rfl
  | cons c t ih =>
    show (Jvm.Cond.and c (allAtoms t)).before a st = _
    rw [Jvm.Cond.before_and, ih, List.all_cons]
def words1 : List Jvm.Cond := Jvm.Cond.code x code maxLocals ret :: tables_1
/-- a 'code' word, met by the world's own term for the bytes: nothing is compared byte by byte -/
theorem code_word {y : MethodName} {bytes : ByteArray} {mx : Nat} {rt : Option FieldType} {a : Array Value} {s : State} {m : MethodId} {meth : Method} {c : Code} (h1 : s.methodNamed? y = some m) (h2 : s.vm.method? m = some meth) (h3 : meth.code = some c) (h4 : c.code = bytes)
    (h5 : (c.maxLocals == mx && c.exceptionTable.isEmpty && decide (c.maxStack ≤ mostOperands) && decide (meth.sig.returnType = rt) && !meth.locks && decide (parseMethodDescriptor y.desc = some meth.sig)) = true) : (Jvm.Cond.code y bytes mx rt).before a s = true := by
  simp only [Bool.and_eq_true, beq_iff_eq, Bool.not_eq_true', decide_eq_true_eq] at h5
  obtain ⟨⟨⟨⟨⟨g1, g2⟩, g3⟩, g4⟩, g5⟩, g6⟩ := h5
  simp [Cond.before, Cond.holds, Cond.value, h1, h2, h3, h4, g1, g2, g3, g4, g5, g6]
def isCode : Jvm.Cond → Bool
  | .code _ _ _ _ => true
  | _ => false
theorem all_split {L : List Jvm.Cond} {P : Jvm.Cond → Bool} (h1 : L.all (fun c => isCode c || P c) = true) (h2 : ∀ c ∈ L.filter isCode, P c = true) : L.all P = true := by
  refine List.all_eq_true.mpr fun c hc => ?_
  have h := List.all_eq_true.mp h1 c hc
  rcases Bool.eq_false_or_eq_true (isCode c) with hi | hi
  · exact h2 c (List.mem_filter.mpr ⟨hc, hi⟩)
  · simpa [hi] using h
set_option maxRecDepth 65536 in
theorem w_c0 : (Jvm.Cond.code x code maxLocals ret).before args0 about1 = true := code_word (m := ⟨1, 2⟩) (meth := k1m2) (c := k1c2) (by decide +kernel) rfl rfl rfl (by decide +kernel)
set_option maxRecDepth 65536 in
theorem w_c1 : (Jvm.Cond.code ({ cls := "com/example/blynds/blynds/engine/GravityAndPinLaw", name := "of", desc := "(I)Lcom/example/blynds/blynds/engine/Gravity$Placement;" } : Jvm.MethodName) method_2_code (2 : Nat) (Option.some (Jvm.ClassFile.FieldType.object "com/example/blynds/blynds/engine/Gravity$Placement"))).before args0 about1 = true := code_word (m := ⟨1, 1⟩) (meth := k1m1) (c := k1c1) (by decide +kernel) rfl rfl rfl (by decide +kernel)
set_option maxRecDepth 65536 in
theorem w_c2 : (Jvm.Cond.code ({ cls := "com/example/blynds/blynds/engine/Gravity$Placement", name := "and", desc := "(Lcom/example/blynds/blynds/engine/Gravity$Placement;)Lcom/example/blynds/blynds/engine/Gravity$Placement;" } : Jvm.MethodName) prog_20_method_4_code (4 : Nat) (Option.some (Jvm.ClassFile.FieldType.object "com/example/blynds/blynds/engine/Gravity$Placement"))).before args0 about1 = true := code_word (m := ⟨6, 0⟩) (meth := k6m0) (c := k6c0) (by decide +kernel) rfl rfl rfl (by decide +kernel)
def codes1 : List Jvm.Cond := [Jvm.Cond.code x code maxLocals ret, Jvm.Cond.code ({ cls := "com/example/blynds/blynds/engine/GravityAndPinLaw", name := "of", desc := "(I)Lcom/example/blynds/blynds/engine/Gravity$Placement;" } : Jvm.MethodName) method_2_code (2 : Nat) (Option.some (Jvm.ClassFile.FieldType.object "com/example/blynds/blynds/engine/Gravity$Placement")), Jvm.Cond.code ({ cls := "com/example/blynds/blynds/engine/Gravity$Placement", name := "and", desc := "(Lcom/example/blynds/blynds/engine/Gravity$Placement;)Lcom/example/blynds/blynds/engine/Gravity$Placement;" } : Jvm.MethodName) prog_20_method_4_code (4 : Nat) (Option.some (Jvm.ClassFile.FieldType.object "com/example/blynds/blynds/engine/Gravity$Placement"))]
set_option maxRecDepth 65536 in
theorem codes_eq : words1.filter isCode = codes1 := rfl
theorem w_codes : ∀ c ∈ words1.filter isCode, c.before args0 about1 = true := by
  rw [codes_eq]
  intro c hc
  simp only [codes1, List.mem_cons, List.not_mem_nil, or_false] at hc
  rcases hc with rfl | rfl | rfl
  · exact w_c0
  · exact w_c1
  · exact w_c2
set_option maxRecDepth 65536 in
theorem w_t1 : (words1.take 24).all (fun c => isCode c || c.before args0 about1) = true := by decide +kernel
set_option maxRecDepth 65536 in
theorem w_t2 : (words1.drop 24).all (fun c => isCode c || c.before args0 about1) = true := by decide +kernel
theorem w_tables : (allAtoms (Jvm.Cond.code x code maxLocals ret :: tables_1)).before args0 about1 = true := by
  rw [allAtoms_all]
  show words1.all (fun c => c.before args0 about1) = true
  refine all_split ?_ w_codes
  rw [← List.take_append_drop 24 words1, List.all_append, w_t1, w_t2]
  rfl
set_option maxRecDepth 65536 in
theorem w_case : (Jvm.Cond.and given_1 narrow_1).before args0 about1 = true := by decide +kernel
theorem w_applies : (headSpec (Jvm.Cond.code x code maxLocals ret :: tables_1) room_1).applies x e0.platform about1 = true :=
  (Spec.applies_iff w_frames).mpr ⟨w_running, w_runnable, w_alone, w_named, w_hears, w_ripe, w_room, w_tables⟩
theorem atStart : AtStart classFile x code maxLocals ret World_1 tables_1 room_1 Calls_1 rest_1 Pre_1 launch0 p0 e0 about1 theMethod args0 below0 :=
  ⟨lists_1, trivial, launch0.admits_env _ _ _, launch0.least_env, fairChoices_fair.cas, fairChoices_fair.clock, w_frames, w_args, w_heap, w_applies, trivial, trivial, w_case⟩
end start1
theorem witness_1 : WitnessClaimed_1 := ⟨start1.p0, start1.e0, start1.about1, start1.theMethod, start1.args0, start1.below0, start1.atStart⟩
end Jvm.Pilot.@@N@@
