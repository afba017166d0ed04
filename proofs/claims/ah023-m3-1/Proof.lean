import JvmDerived
import JvmDerived.Pilot.@@N@@Statement
import JvmDerived.Pilot.@@N@@Code
set_option linter.unusedVariables false
set_option linter.unusedSimpArgs false
namespace Jvm.RoadKit
open Sem ClassFile Op Lib Jvm.Stand Jvm.Free Jvm.LawKit
section New
variable {p : Program} {l : Launch} {e : Env} {R : Room} {s : State} {m : MethodId} {args : Array Value} {below : List Frame} {meth : Method} {c : Code} {T : State} {locs : List Loc} {cells slots : Nat}
theorem retI (X : Stand p l e R s m args below meth c T locs cells slots) (hx : p.tables.exec = Jvm.exec) {pc : Nat} {Ls : Array Slot} {z : Int32} {rest : List Value} (hret : meth.sig.returnType = some .int) (hd : decode c.code pc = .ok (.ireturn, 1)) {fs : List Frame}
    (hl : ∀ (f : JFrame) (acts : List Action), f.method = m → f.locked = none → f.entered = [] → (doReturn e (T.setTop f) acts (some (.int z))).1 = T.setFrames fs) : Steps p.tables e below (T.setTop (mkF m pc Ls (.int z :: rest))) (T.setFrames fs) := by
  have hm' : T.vm.method? m = some meth := X.method'
  have hn : narrow .int (.int z) = .int z := rfl
  show Steps p.tables e below (T.setTop { method := m, pc := pc, locals := Ls, stack := _ :: rest, locked := none }) _
  jvm_step X.here [X.here.top, hx, hd, hm', hret, hn]
  first | (intro acts; rw [hl _ acts rfl rfl rfl]) | rw [hl _ _ rfl rfl rfl]
  exact Steps.refl _
end New
end Jvm.RoadKit
namespace Jvm.Pilot.@@N@@
open Jvm Jvm.ClassFile Sem Op Lib Jvm.Free Jvm.Stand Jvm.LawKit Jvm.RoadKit Bundle Jvm.Pilot.@@N@@.Jvm.D
theorem own_ext_refl (h : Heap) : Ext h h := ⟨Nat.le_refl _, fun _ _ q => q⟩
theorem own_ext_trans {h h' h2 : Heap} (A : Ext h h') (B : Ext h' h2) : Ext h h2 := ⟨Nat.le_trans A.1 B.1, fun a c q => B.2 a c (A.2 a c q)⟩
theorem own_ext_keep {h h' h2 : Heap} {ws : List Addr} (A : Ext h h') (K : Keep h' h2 ws) (q : ∀ x ∈ ws, h.size ≤ x) : Ext h h2 := ⟨Nat.le_trans A.1 K.1, fun a c r => K.2.1 a c (A.2 a c r) fun z => absurd (Array.getElem?_eq_some_iff.mp r).1 (Nat.not_lt.mpr (q a z))⟩
theorem own_pin {args : Array Value} {Z : State} {t : Term} {C : String} (h : (Jvm.Cond.exactly t C).value args Z none Z [] = some true) : ∃ a, t.eval args Z none [] Z = some (.ref a) ∧ Exa Z Z.heap a C := by
  obtain ⟨a, ev⟩ := exa_v h
  exact ⟨a, ev, Exa.start ev h⟩
theorem own_fld {args : Array Value} {Z : State} {t : Term} {a : Addr} {C n d : String} {k : Int32} (ev : t.eval args Z none [] Z = some (.ref a)) (h : (Jvm.Cond.eq (.field t C n d) (.int k)).value args Z none Z [] = some true) : Fld Z Z.heap a C n d (.int k) := by
  obtain ⟨x, y, h1, h2, hk, -⟩ := cmp_v (Or.inl h)
  have h2' : y = .int k := (Option.some.inj h2).symm
  subst h2'
  have hx : ∃ z, x = .int z := by cases x <;> simp [Kin, Value.isRef] at hk ⊢
  obtain ⟨z, rfl⟩ := hx
  have hv : (Jvm.Cond.eq (.field t C n d) (.int k)).value args Z none Z [] = some (decide (z = k)) := by simp only [Jvm.Cond.value, h1, h2]
  have e : z = k := gotT hv h
  subst e
  exact Fld.start (by rw [← fld_at ev]; exact h1)
def Pins (Z : State) (w_FALSE w_TRUE w_UNDEFINED w_ERROR : Addr) : Prop := Sta Z Z.heap "com/example/usage_verdict/usageverdict/engine/Truth" "FALSE" "Lcom/example/usage_verdict/usageverdict/engine/Truth;" (.ref w_FALSE) ∧ Sta Z Z.heap "com/example/usage_verdict/usageverdict/engine/Truth" "TRUE" "Lcom/example/usage_verdict/usageverdict/engine/Truth;" (.ref w_TRUE) ∧ Sta Z Z.heap "com/example/usage_verdict/usageverdict/engine/Truth" "UNDEFINED" "Lcom/example/usage_verdict/usageverdict/engine/Truth;" (.ref w_UNDEFINED) ∧ Sta Z Z.heap "com/example/usage_verdict/usageverdict/engine/Truth" "ERROR" "Lcom/example/usage_verdict/usageverdict/engine/Truth;" (.ref w_ERROR) ∧ Exa Z Z.heap w_FALSE "com/example/usage_verdict/usageverdict/engine/Truth" ∧ Exa Z Z.heap w_TRUE "com/example/usage_verdict/usageverdict/engine/Truth" ∧ Exa Z Z.heap w_UNDEFINED "com/example/usage_verdict/usageverdict/engine/Truth" ∧ Exa Z Z.heap w_ERROR "com/example/usage_verdict/usageverdict/engine/Truth" ∧ Fld Z Z.heap w_UNDEFINED "java/lang/Enum" "ordinal" "I" (.int (2 : Int32)) ∧ Fld Z Z.heap w_FALSE "java/lang/Enum" "ordinal" "I" (.int (1 : Int32)) ∧ Fld Z Z.heap w_ERROR "java/lang/Enum" "ordinal" "I" (.int (3 : Int32)) ∧ Fld Z Z.heap w_TRUE "java/lang/Enum" "ordinal" "I" (.int (0 : Int32))
theorem own_ne_FALSE_TRUE {Z : State} {w_FALSE w_TRUE w_UNDEFINED w_ERROR : Addr} (P : Pins Z w_FALSE w_TRUE w_UNDEFINED w_ERROR) : w_FALSE ≠ w_TRUE := by
  obtain ⟨S_FALSE, S_TRUE, S_UNDEFINED, S_ERROR, E_FALSE, E_TRUE, E_UNDEFINED, E_ERROR, F_ordinal_UNDEFINED, F_ordinal_FALSE, F_ordinal_ERROR, F_ordinal_TRUE⟩ := P
  exact Fld.ne F_ordinal_FALSE F_ordinal_TRUE (by decide)
theorem own_ne_FALSE_UNDEFINED {Z : State} {w_FALSE w_TRUE w_UNDEFINED w_ERROR : Addr} (P : Pins Z w_FALSE w_TRUE w_UNDEFINED w_ERROR) : w_FALSE ≠ w_UNDEFINED := by
  obtain ⟨S_FALSE, S_TRUE, S_UNDEFINED, S_ERROR, E_FALSE, E_TRUE, E_UNDEFINED, E_ERROR, F_ordinal_UNDEFINED, F_ordinal_FALSE, F_ordinal_ERROR, F_ordinal_TRUE⟩ := P
  exact Fld.ne F_ordinal_FALSE F_ordinal_UNDEFINED (by decide)
theorem own_ne_FALSE_ERROR {Z : State} {w_FALSE w_TRUE w_UNDEFINED w_ERROR : Addr} (P : Pins Z w_FALSE w_TRUE w_UNDEFINED w_ERROR) : w_FALSE ≠ w_ERROR := by
  obtain ⟨S_FALSE, S_TRUE, S_UNDEFINED, S_ERROR, E_FALSE, E_TRUE, E_UNDEFINED, E_ERROR, F_ordinal_UNDEFINED, F_ordinal_FALSE, F_ordinal_ERROR, F_ordinal_TRUE⟩ := P
  exact Fld.ne F_ordinal_FALSE F_ordinal_ERROR (by decide)
theorem own_ne_TRUE_UNDEFINED {Z : State} {w_FALSE w_TRUE w_UNDEFINED w_ERROR : Addr} (P : Pins Z w_FALSE w_TRUE w_UNDEFINED w_ERROR) : w_TRUE ≠ w_UNDEFINED := by
  obtain ⟨S_FALSE, S_TRUE, S_UNDEFINED, S_ERROR, E_FALSE, E_TRUE, E_UNDEFINED, E_ERROR, F_ordinal_UNDEFINED, F_ordinal_FALSE, F_ordinal_ERROR, F_ordinal_TRUE⟩ := P
  exact Fld.ne F_ordinal_TRUE F_ordinal_UNDEFINED (by decide)
theorem own_ne_TRUE_ERROR {Z : State} {w_FALSE w_TRUE w_UNDEFINED w_ERROR : Addr} (P : Pins Z w_FALSE w_TRUE w_UNDEFINED w_ERROR) : w_TRUE ≠ w_ERROR := by
  obtain ⟨S_FALSE, S_TRUE, S_UNDEFINED, S_ERROR, E_FALSE, E_TRUE, E_UNDEFINED, E_ERROR, F_ordinal_UNDEFINED, F_ordinal_FALSE, F_ordinal_ERROR, F_ordinal_TRUE⟩ := P
  exact Fld.ne F_ordinal_TRUE F_ordinal_ERROR (by decide)
theorem own_ne_UNDEFINED_ERROR {Z : State} {w_FALSE w_TRUE w_UNDEFINED w_ERROR : Addr} (P : Pins Z w_FALSE w_TRUE w_UNDEFINED w_ERROR) : w_UNDEFINED ≠ w_ERROR := by
  obtain ⟨S_FALSE, S_TRUE, S_UNDEFINED, S_ERROR, E_FALSE, E_TRUE, E_UNDEFINED, E_ERROR, F_ordinal_UNDEFINED, F_ordinal_FALSE, F_ordinal_ERROR, F_ordinal_TRUE⟩ := P
  exact Fld.ne F_ordinal_UNDEFINED F_ordinal_ERROR (by decide)
def frF (k : Int32) (w_FALSE w_TRUE w_UNDEFINED w_ERROR : Addr) : Addr := if k = (0 : Int32) then w_FALSE else if k = (1 : Int32) then w_ERROR else if k = (2 : Int32) then w_UNDEFINED else w_TRUE
def andF (a1 a2 : Addr) (w_FALSE w_TRUE w_UNDEFINED w_ERROR : Addr) : Addr := if a1 = w_FALSE then w_FALSE else if a2 = w_FALSE then w_FALSE else if a1 = w_ERROR then w_ERROR else if a2 = w_ERROR then w_ERROR else if a1 = w_UNDEFINED then w_UNDEFINED else if a2 = w_UNDEFINED then w_UNDEFINED else w_TRUE
def rkF (a1 : Addr) (w_FALSE w_TRUE w_UNDEFINED w_ERROR : Addr) : Int32 := if a1 = w_FALSE then (0 : Int32) else if a1 = w_ERROR then (1 : Int32) else if a1 = w_UNDEFINED then (2 : Int32) else if a1 = w_TRUE then (3 : Int32) else (-1 : Int32)
def minF (x y : Int32) : Int32 := if y < x then y else x
theorem own_mask3 (x : Int32) : x &&& 3 = 0 ∨ x &&& 3 = 1 ∨ x &&& 3 = 2 ∨ x &&& 3 = 3 := by
  have h := c_mask x 3 2 (by decide) (by decide)
  have h4 : (x &&& 3).toInt = 0 ∨ (x &&& 3).toInt = 1 ∨ (x &&& 3).toInt = 2 ∨ (x &&& 3).toInt = 3 := by omega
  rcases h4 with q | q | q | q
  · exact Or.inl (Int32.toInt_inj.mp (by rw [q]; decide))
  · exact Or.inr (Or.inl (Int32.toInt_inj.mp (by rw [q]; decide)))
  · exact Or.inr (Or.inr (Or.inl (Int32.toInt_inj.mp (by rw [q]; decide))))
  · exact Or.inr (Or.inr (Or.inr (Int32.toInt_inj.mp (by rw [q]; decide))))
theorem own_plain {Z : State} {w_FALSE w_TRUE w_UNDEFINED w_ERROR : Addr} (P : Pins Z w_FALSE w_TRUE w_UNDEFINED w_ERROR) (x y : Int32) : rkF (andF (frF (x &&& (3 : Int32)) w_FALSE w_TRUE w_UNDEFINED w_ERROR) (frF (y &&& (3 : Int32)) w_FALSE w_TRUE w_UNDEFINED w_ERROR) w_FALSE w_TRUE w_UNDEFINED w_ERROR) w_FALSE w_TRUE w_UNDEFINED w_ERROR = minF (x &&& (3 : Int32)) (y &&& (3 : Int32)) := by
  have f0 : frF (0 : Int32) w_FALSE w_TRUE w_UNDEFINED w_ERROR = w_FALSE := by simp [frF]
  have f1 : frF (1 : Int32) w_FALSE w_TRUE w_UNDEFINED w_ERROR = w_ERROR := by simp [frF]
  have f2 : frF (2 : Int32) w_FALSE w_TRUE w_UNDEFINED w_ERROR = w_UNDEFINED := by simp [frF]
  have f3 : frF (3 : Int32) w_FALSE w_TRUE w_UNDEFINED w_ERROR = w_TRUE := by simp [frF]
  have n0 := (own_ne_FALSE_TRUE P)
  have n1 := (own_ne_FALSE_UNDEFINED P)
  have n2 := (own_ne_FALSE_ERROR P)
  have n3 := (Ne.symm (own_ne_FALSE_TRUE P))
  have n4 := (own_ne_TRUE_UNDEFINED P)
  have n5 := (own_ne_TRUE_ERROR P)
  have n6 := (Ne.symm (own_ne_FALSE_UNDEFINED P))
  have n7 := (Ne.symm (own_ne_TRUE_UNDEFINED P))
  have n8 := (own_ne_UNDEFINED_ERROR P)
  have n9 := (Ne.symm (own_ne_FALSE_ERROR P))
  have n10 := (Ne.symm (own_ne_TRUE_ERROR P))
  have n11 := (Ne.symm (own_ne_UNDEFINED_ERROR P))
  rcases own_mask3 x with h | h | h | h <;> rcases own_mask3 y with k | k | k | k <;> rw [h, k] <;> simp only [f0, f1, f2, f3] <;> simp [rkF, andF, minF, n0, n1, n2, n3, n4, n5, n6, n7, n8, n9, n10, n11] <;> decide
theorem own_exa {Z : State} {w_FALSE w_TRUE w_UNDEFINED w_ERROR : Addr} (P : Pins Z w_FALSE w_TRUE w_UNDEFINED w_ERROR) (k : Int32) : Exa Z Z.heap (frF k w_FALSE w_TRUE w_UNDEFINED w_ERROR) "com/example/usage_verdict/usageverdict/engine/Truth" := by
  obtain ⟨S_FALSE, S_TRUE, S_UNDEFINED, S_ERROR, E_FALSE, E_TRUE, E_UNDEFINED, E_ERROR, F_ordinal_UNDEFINED, F_ordinal_FALSE, F_ordinal_ERROR, F_ordinal_TRUE⟩ := P
  unfold frF
  repeat' split
  all_goals assumption
theorem ef_1 (m : MethodId) (x0 : Int32) : entryFrame m #[(.int x0)] 1 = mkF m 0 #[.val (.int x0)] [] := by first | (simp [entryFrame, mkF, argsToLocals, Value.category]; done) | rfl
theorem pn_com_example_usage_verdict_usageverdict_engine_TruthAndPinLaw : plainName "com/example/usage_verdict/usageverdict/engine/TruthAndPinLaw" = true := by first | (simp [plainName, overriddenIn]; done) | decide +kernel
theorem d1_0 : decode method_2_code 0 = .ok (.iload_n 0, 1) := by decide +kernel
theorem d1_1 : decode method_2_code 1 = .ok (.ifCond .ne 7, 3) := by decide +kernel
theorem d1_4 : decode method_2_code 4 = .ok (.getstatic 7, 3) := by decide +kernel
theorem d1_7 : decode method_2_code 7 = .ok (.areturn, 1) := by decide +kernel
theorem d1_8 : decode method_2_code 8 = .ok (.iload_n 0, 1) := by decide +kernel
theorem d1_9 : decode method_2_code 9 = .ok (.iconst 1, 1) := by decide +kernel
theorem d1_10 : decode method_2_code 10 = .ok (.if_icmp .ne 7, 3) := by decide +kernel
theorem d1_13 : decode method_2_code 13 = .ok (.getstatic 13, 3) := by decide +kernel
theorem d1_16 : decode method_2_code 16 = .ok (.areturn, 1) := by decide +kernel
theorem d1_17 : decode method_2_code 17 = .ok (.iload_n 0, 1) := by decide +kernel
theorem d1_18 : decode method_2_code 18 = .ok (.iconst 2, 1) := by decide +kernel
theorem d1_19 : decode method_2_code 19 = .ok (.if_icmp .ne 7, 3) := by decide +kernel
theorem d1_22 : decode method_2_code 22 = .ok (.getstatic 16, 3) := by decide +kernel
theorem d1_25 : decode method_2_code 25 = .ok (.areturn, 1) := by decide +kernel
theorem d1_26 : decode method_2_code 26 = .ok (.getstatic 19, 3) := by decide +kernel
theorem d1_29 : decode method_2_code 29 = .ok (.areturn, 1) := by decide +kernel
def Q_rm_fr (Z : State) (p1 : Int32) (w_FALSE w_TRUE w_UNDEFINED w_ERROR : Addr) (h0 : Heap) (n0 : Nat) (v : Option Value) (h : Heap) (L : List Loc) : Prop := v = some (.ref (frF p1 w_FALSE w_TRUE w_UNDEFINED w_ERROR)) ∧ Fr n0 L ∧ h = h0
set_option maxRecDepth 65536 in
set_option maxHeartbeats 40000000 in
theorem rm_fr (l : Launch) (Z : State) (a0 : Array Value) (hw : ∀ d ∈ tables_1, d.before a0 Z = true) (ws : List Jvm.Cond) (p1 : Int32) (w_FALSE w_TRUE w_UNDEFINED w_ERROR : Addr) (h0 : Heap) (n0 : Nat) (Z0 : n0 ≤ h0.size) (O0 : Ext Z.heap h0) (P : Pins Z w_FALSE w_TRUE w_UNDEFINED w_ERROR) :
    MetFree l (⟨"com/example/usage_verdict/usageverdict/engine/TruthAndPinLaw", "fromRank", "(I)Lcom/example/usage_verdict/usageverdict/engine/Truth;"⟩ : MethodName) (head1 (Jvm.Cond.code (⟨"com/example/usage_verdict/usageverdict/engine/TruthAndPinLaw", "fromRank", "(I)Lcom/example/usage_verdict/usageverdict/engine/Truth;"⟩ : MethodName) method_2_code 1 (some (.object "com/example/usage_verdict/usageverdict/engine/Truth")) :: ws) ({ frames := 0, cells := 0, slots := 0, locals := 0 } : Room)) (fun a U => a = #[(.int p1)] ∧ Z.Warmed39 U.vm ∧ U.heap = h0) (fun _ _ _ _ _ => True) (fun _ U o U' => ∃ v L, o = .returned v ∧ Q_rm_fr Z p1 w_FALSE w_TRUE w_UNDEFINED w_ERROR h0 n0 v U'.heap L ∧ FrameEnd U o U' L ({ frames := 0, cells := 0, slots := 0, locals := 0 } : Room).cells ({ frames := 0, cells := 0, slots := 0, locals := 0 } : Room).slots) := by
  refine MetFree.of_bodySF (plainFor_of_name pn_com_example_usage_verdict_usageverdict_engine_TruthAndPinLaw) hisR ?_
  intro p e s m args below meth c s₁ Bd hml0 hP hK
  obtain ⟨rfl, hZ, hh⟩ := hP
  have hx := Bd.exec
  have hby := Bd.bytes
  have hml : c.maxLocals = 1 := hml0
  have hown : s.vm.findClass "com/example/usage_verdict/usageverdict/engine/TruthAndPinLaw" = some m.cls := findClass_of_methodNamed Bd.named
  have hnm := (name_of_methodNamed Bd.named Bd.method).1
  have X0 : Stand p l e ({ frames := 0, cells := 0, slots := 0, locals := 0 } : Room) s m #[(.int p1)] below meth c s₁ [] 0 0 := Stand.of_body Bd
  have e0 : s₁.heap = h0 := by rw [← hh, Bd.state]; rfl
  have N0 := Fr.nil n0
  have pre0 : ∀ t, Steps p.tables e below (s₁.setTop (mkF m 0 #[.val (.int p1)] [])) t → Steps p.tables e below (s₁.setTop (entryFrame m #[(.int p1)] 1)) t := fun t k => castTop (ef_1 m p1) k
  obtain ⟨S_FALSE, S_TRUE, S_UNDEFINED, S_ERROR, E_FALSE, E_TRUE, E_UNDEFINED, E_ERROR, F_ordinal_UNDEFINED, F_ordinal_FALSE, F_ordinal_ERROR, F_ordinal_TRUE⟩ := P
  have pre1 : ∀ t, Steps p.tables e below (s₁.setTop (mkF m 1 #[.val (.int p1)] [(.int p1)])) t → Steps p.tables e below (s₁.setTop (entryFrame m #[(.int p1)] 1)) t := fun t k => pre0 t (by
    show Steps p.tables e below (s₁.setTop (mkF m 0 #[.val (.int p1)] [])) _
    refine XS.iloadN X0.here hx rfl (hb hby d1_0) rfl ?_
    exact k)
  by_cases hc1_2 : p1 = (0 : Int32)
  · have pre3 : ∀ t, Steps p.tables e below (s₁.setTop (mkF m 4 #[.val (.int p1)] [])) t → Steps p.tables e below (s₁.setTop (entryFrame m #[(.int p1)] 1)) t := fun t k => pre1 t (by
      show Steps p.tables e below (s₁.setTop (mkF m 1 #[.val (.int p1)] [(.int p1)])) _
      refine XS.ifNo X0.here hx rfl (hb hby d1_1) rfl ((if0 _ _).trans (teq hc1_2).2) ?_
      exact k)
    obtain ⟨T4, X4, e4, st4⟩ := getS2 X0 hx hZ hown (host := "") (Or.inl (hw _ (List.mem_of_getElem? (i := 4) rfl))) Via.refl e0 (Sta.ext O0 S_FALSE) (g := (mkF m 4 #[.val (.int p1)] [])) rfl (hb hby d1_4)
    have pre5 : ∀ t, Steps p.tables e below (T4.setTop (mkF m 7 #[.val (.int p1)] [(.ref w_FALSE)])) t → Steps p.tables e below (s₁.setTop (entryFrame m #[(.int p1)] 1)) t := fun t k => pre3 t (st4 t k)
    obtain ⟨fs, hr, hrun, hended, hW, hsame⟩ := X4.leave (v := some (.ref w_FALSE)) (fun h => by rw [Bd.returns] at h; cases h)
    refine ⟨_, _, pre5 _ ?_, hrun, hended, _, _, rfl, ?_, ⟨_, rfl⟩, hW, hsame.mono (by decide) (by decide)⟩
    · show Steps p.tables e below (T4.setTop (mkF m 7 #[.val (.int p1)] [(.ref w_FALSE)])) _
      jvm_step X4.here [X4.here.top, hx, (hb hby d1_7), X4.method', Bd.returns, Value.isRef, FieldType.isReference]
      first | (intro acts; rw [hr _ acts rfl rfl rfl]) | rw [hr _ _ rfl rfl rfl]
      exact Steps.refl _
    · show Q_rm_fr Z p1 w_FALSE w_TRUE w_UNDEFINED w_ERROR h0 n0 _ T4.heap _
      rw [e4]
      exact ⟨(by simp only [frF, if_pos hc1_2]), N0, rfl⟩
  · have pre6 : ∀ t, Steps p.tables e below (s₁.setTop (mkF m 10 #[.val (.int p1)] [(.int (1 : Int32)), (.int p1)])) t → Steps p.tables e below (s₁.setTop (entryFrame m #[(.int p1)] 1)) t := fun t k => pre1 t (by
      show Steps p.tables e below (s₁.setTop (mkF m 1 #[.val (.int p1)] [(.int p1)])) _
      refine XS.ifYes X0.here hx rfl (pc0 := 1) (pc' := 8) rfl (hb hby d1_1) rfl ((if0 _ _).trans (feq hc1_2).2) (by decide) (by decide) ?_
      show Steps p.tables e below (s₁.setTop (mkF m 8 #[.val (.int p1)] [])) _
      refine XS.iloadN X0.here hx rfl (hb hby d1_8) rfl ?_
      show Steps p.tables e below (s₁.setTop (mkF m 9 #[.val (.int p1)] [(.int p1)])) _
      refine XS.iconst X0.here hx rfl (hb hby d1_9) ?_
      exact k)
    by_cases hc10_7 : p1 = (1 : Int32)
    · have pre8 : ∀ t, Steps p.tables e below (s₁.setTop (mkF m 13 #[.val (.int p1)] [])) t → Steps p.tables e below (s₁.setTop (entryFrame m #[(.int p1)] 1)) t := fun t k => pre6 t (by
        show Steps p.tables e below (s₁.setTop (mkF m 10 #[.val (.int p1)] [(.int (1 : Int32)), (.int p1)])) _
        refine XS.icmpNo X0.here hx rfl (hb hby d1_10) rfl (teq hc10_7).2 ?_
        exact k)
      obtain ⟨T9, X9, e9, st9⟩ := getS2 X0 hx hZ hown (host := "") (Or.inl (hw _ (List.mem_of_getElem? (i := 36) rfl))) Via.refl e0 (Sta.ext O0 S_ERROR) (g := (mkF m 13 #[.val (.int p1)] [])) rfl (hb hby d1_13)
      have pre10 : ∀ t, Steps p.tables e below (T9.setTop (mkF m 16 #[.val (.int p1)] [(.ref w_ERROR)])) t → Steps p.tables e below (s₁.setTop (entryFrame m #[(.int p1)] 1)) t := fun t k => pre8 t (st9 t k)
      obtain ⟨fs, hr, hrun, hended, hW, hsame⟩ := X9.leave (v := some (.ref w_ERROR)) (fun h => by rw [Bd.returns] at h; cases h)
      refine ⟨_, _, pre10 _ ?_, hrun, hended, _, _, rfl, ?_, ⟨_, rfl⟩, hW, hsame.mono (by decide) (by decide)⟩
      · show Steps p.tables e below (T9.setTop (mkF m 16 #[.val (.int p1)] [(.ref w_ERROR)])) _
        jvm_step X9.here [X9.here.top, hx, (hb hby d1_16), X9.method', Bd.returns, Value.isRef, FieldType.isReference]
        first | (intro acts; rw [hr _ acts rfl rfl rfl]) | rw [hr _ _ rfl rfl rfl]
        exact Steps.refl _
      · show Q_rm_fr Z p1 w_FALSE w_TRUE w_UNDEFINED w_ERROR h0 n0 _ T9.heap _
        rw [e9]
        exact ⟨(by simp only [frF, if_neg hc1_2, if_pos hc10_7]), N0, rfl⟩
    · have pre11 : ∀ t, Steps p.tables e below (s₁.setTop (mkF m 19 #[.val (.int p1)] [(.int (2 : Int32)), (.int p1)])) t → Steps p.tables e below (s₁.setTop (entryFrame m #[(.int p1)] 1)) t := fun t k => pre6 t (by
        show Steps p.tables e below (s₁.setTop (mkF m 10 #[.val (.int p1)] [(.int (1 : Int32)), (.int p1)])) _
        refine XS.icmpYes X0.here hx rfl (pc0 := 10) (pc' := 17) rfl (hb hby d1_10) rfl (feq hc10_7).2 (by decide) (by decide) ?_
        show Steps p.tables e below (s₁.setTop (mkF m 17 #[.val (.int p1)] [])) _
        refine XS.iloadN X0.here hx rfl (hb hby d1_17) rfl ?_
        show Steps p.tables e below (s₁.setTop (mkF m 18 #[.val (.int p1)] [(.int p1)])) _
        refine XS.iconst X0.here hx rfl (hb hby d1_18) ?_
        exact k)
      by_cases hc19_12 : p1 = (2 : Int32)
      · have pre13 : ∀ t, Steps p.tables e below (s₁.setTop (mkF m 22 #[.val (.int p1)] [])) t → Steps p.tables e below (s₁.setTop (entryFrame m #[(.int p1)] 1)) t := fun t k => pre11 t (by
          show Steps p.tables e below (s₁.setTop (mkF m 19 #[.val (.int p1)] [(.int (2 : Int32)), (.int p1)])) _
          refine XS.icmpNo X0.here hx rfl (hb hby d1_19) rfl (teq hc19_12).2 ?_
          exact k)
        obtain ⟨T14, X14, e14, st14⟩ := getS2 X0 hx hZ hown (host := "") (Or.inl (hw _ (List.mem_of_getElem? (i := 34) rfl))) Via.refl e0 (Sta.ext O0 S_UNDEFINED) (g := (mkF m 22 #[.val (.int p1)] [])) rfl (hb hby d1_22)
        have pre15 : ∀ t, Steps p.tables e below (T14.setTop (mkF m 25 #[.val (.int p1)] [(.ref w_UNDEFINED)])) t → Steps p.tables e below (s₁.setTop (entryFrame m #[(.int p1)] 1)) t := fun t k => pre13 t (st14 t k)
        obtain ⟨fs, hr, hrun, hended, hW, hsame⟩ := X14.leave (v := some (.ref w_UNDEFINED)) (fun h => by rw [Bd.returns] at h; cases h)
        refine ⟨_, _, pre15 _ ?_, hrun, hended, _, _, rfl, ?_, ⟨_, rfl⟩, hW, hsame.mono (by decide) (by decide)⟩
        · show Steps p.tables e below (T14.setTop (mkF m 25 #[.val (.int p1)] [(.ref w_UNDEFINED)])) _
          jvm_step X14.here [X14.here.top, hx, (hb hby d1_25), X14.method', Bd.returns, Value.isRef, FieldType.isReference]
          first | (intro acts; rw [hr _ acts rfl rfl rfl]) | rw [hr _ _ rfl rfl rfl]
          exact Steps.refl _
        · show Q_rm_fr Z p1 w_FALSE w_TRUE w_UNDEFINED w_ERROR h0 n0 _ T14.heap _
          rw [e14]
          exact ⟨(by simp only [frF, if_neg hc1_2, if_neg hc10_7, if_pos hc19_12]), N0, rfl⟩
      · have pre16 : ∀ t, Steps p.tables e below (s₁.setTop (mkF m 26 #[.val (.int p1)] [])) t → Steps p.tables e below (s₁.setTop (entryFrame m #[(.int p1)] 1)) t := fun t k => pre11 t (by
          show Steps p.tables e below (s₁.setTop (mkF m 19 #[.val (.int p1)] [(.int (2 : Int32)), (.int p1)])) _
          refine XS.icmpYes X0.here hx rfl (pc0 := 19) (pc' := 26) rfl (hb hby d1_19) rfl (feq hc19_12).2 (by decide) (by decide) ?_
          exact k)
        obtain ⟨T17, X17, e17, st17⟩ := getS2 X0 hx hZ hown (host := "") (Or.inl (hw _ (List.mem_of_getElem? (i := 7) rfl))) Via.refl e0 (Sta.ext O0 S_TRUE) (g := (mkF m 26 #[.val (.int p1)] [])) rfl (hb hby d1_26)
        have pre18 : ∀ t, Steps p.tables e below (T17.setTop (mkF m 29 #[.val (.int p1)] [(.ref w_TRUE)])) t → Steps p.tables e below (s₁.setTop (entryFrame m #[(.int p1)] 1)) t := fun t k => pre16 t (st17 t k)
        obtain ⟨fs, hr, hrun, hended, hW, hsame⟩ := X17.leave (v := some (.ref w_TRUE)) (fun h => by rw [Bd.returns] at h; cases h)
        refine ⟨_, _, pre18 _ ?_, hrun, hended, _, _, rfl, ?_, ⟨_, rfl⟩, hW, hsame.mono (by decide) (by decide)⟩
        · show Steps p.tables e below (T17.setTop (mkF m 29 #[.val (.int p1)] [(.ref w_TRUE)])) _
          jvm_step X17.here [X17.here.top, hx, (hb hby d1_29), X17.method', Bd.returns, Value.isRef, FieldType.isReference]
          first | (intro acts; rw [hr _ acts rfl rfl rfl]) | rw [hr _ _ rfl rfl rfl]
          exact Steps.refl _
        · show Q_rm_fr Z p1 w_FALSE w_TRUE w_UNDEFINED w_ERROR h0 n0 _ T17.heap _
          rw [e17]
          exact ⟨(by simp only [frF, if_neg hc1_2, if_neg hc10_7, if_neg hc19_12]), N0, rfl⟩
theorem ef_4 (m : MethodId) (x0 : Addr) : entryFrame m #[(.ref x0)] 1 = mkF m 0 #[.val (.ref x0)] [] := by first | (simp [entryFrame, mkF, argsToLocals, Value.category]; done) | rfl
theorem d4_0 : decode method_3_code 0 = .ok (.aload_n 0, 1) := by decide +kernel
theorem d4_1 : decode method_3_code 1 = .ok (.getstatic 7, 3) := by decide +kernel
theorem d4_4 : decode method_3_code 4 = .ok (.if_acmp .ne 5, 3) := by decide +kernel
theorem d4_7 : decode method_3_code 7 = .ok (.iconst 0, 1) := by decide +kernel
theorem d4_8 : decode method_3_code 8 = .ok (.ireturn, 1) := by decide +kernel
theorem d4_9 : decode method_3_code 9 = .ok (.aload_n 0, 1) := by decide +kernel
theorem d4_10 : decode method_3_code 10 = .ok (.getstatic 13, 3) := by decide +kernel
theorem d4_13 : decode method_3_code 13 = .ok (.if_acmp .ne 5, 3) := by decide +kernel
theorem d4_16 : decode method_3_code 16 = .ok (.iconst 1, 1) := by decide +kernel
theorem d4_17 : decode method_3_code 17 = .ok (.ireturn, 1) := by decide +kernel
theorem d4_18 : decode method_3_code 18 = .ok (.aload_n 0, 1) := by decide +kernel
theorem d4_19 : decode method_3_code 19 = .ok (.getstatic 16, 3) := by decide +kernel
theorem d4_22 : decode method_3_code 22 = .ok (.if_acmp .ne 5, 3) := by decide +kernel
theorem d4_25 : decode method_3_code 25 = .ok (.iconst 2, 1) := by decide +kernel
theorem d4_26 : decode method_3_code 26 = .ok (.ireturn, 1) := by decide +kernel
theorem d4_27 : decode method_3_code 27 = .ok (.aload_n 0, 1) := by decide +kernel
theorem d4_28 : decode method_3_code 28 = .ok (.getstatic 19, 3) := by decide +kernel
theorem d4_31 : decode method_3_code 31 = .ok (.if_acmp .ne 5, 3) := by decide +kernel
theorem d4_34 : decode method_3_code 34 = .ok (.iconst 3, 1) := by decide +kernel
theorem d4_35 : decode method_3_code 35 = .ok (.ireturn, 1) := by decide +kernel
theorem d4_36 : decode method_3_code 36 = .ok (.iconst (-1), 1) := by decide +kernel
theorem d4_37 : decode method_3_code 37 = .ok (.ireturn, 1) := by decide +kernel
def Q_rm_rk (Z : State) (a1 : Addr) (w_FALSE w_TRUE w_UNDEFINED w_ERROR : Addr) (h0 : Heap) (n0 : Nat) (v : Option Value) (h : Heap) (L : List Loc) : Prop := v = some (.int (rkF a1 w_FALSE w_TRUE w_UNDEFINED w_ERROR)) ∧ Fr n0 L ∧ h = h0
set_option maxRecDepth 65536 in
set_option maxHeartbeats 40000000 in
theorem rm_rk (l : Launch) (Z : State) (a0 : Array Value) (hw : ∀ d ∈ tables_1, d.before a0 Z = true) (ws : List Jvm.Cond) (a1 : Addr) (w_FALSE w_TRUE w_UNDEFINED w_ERROR : Addr) (h0 : Heap) (n0 : Nat) (Z0 : n0 ≤ h0.size) (O0 : Ext Z.heap h0) (P : Pins Z w_FALSE w_TRUE w_UNDEFINED w_ERROR) :
    MetFree l (⟨"com/example/usage_verdict/usageverdict/engine/TruthAndPinLaw", "rank", "(Lcom/example/usage_verdict/usageverdict/engine/Truth;)I"⟩ : MethodName) (head1 (Jvm.Cond.code (⟨"com/example/usage_verdict/usageverdict/engine/TruthAndPinLaw", "rank", "(Lcom/example/usage_verdict/usageverdict/engine/Truth;)I"⟩ : MethodName) method_3_code 1 (some .int) :: ws) ({ frames := 0, cells := 0, slots := 0, locals := 0 } : Room)) (fun a U => a = #[(.ref a1)] ∧ Z.Warmed39 U.vm ∧ U.heap = h0) (fun _ _ _ _ _ => True) (fun _ U o U' => ∃ v L, o = .returned v ∧ Q_rm_rk Z a1 w_FALSE w_TRUE w_UNDEFINED w_ERROR h0 n0 v U'.heap L ∧ FrameEnd U o U' L ({ frames := 0, cells := 0, slots := 0, locals := 0 } : Room).cells ({ frames := 0, cells := 0, slots := 0, locals := 0 } : Room).slots) := by
  refine MetFree.of_bodySF (plainFor_of_name pn_com_example_usage_verdict_usageverdict_engine_TruthAndPinLaw) hisR ?_
  intro p e s m args below meth c s₁ Bd hml0 hP hK
  obtain ⟨rfl, hZ, hh⟩ := hP
  have hx := Bd.exec
  have hby := Bd.bytes
  have hml : c.maxLocals = 1 := hml0
  have hown : s.vm.findClass "com/example/usage_verdict/usageverdict/engine/TruthAndPinLaw" = some m.cls := findClass_of_methodNamed Bd.named
  have hnm := (name_of_methodNamed Bd.named Bd.method).1
  have X0 : Stand p l e ({ frames := 0, cells := 0, slots := 0, locals := 0 } : Room) s m #[(.ref a1)] below meth c s₁ [] 0 0 := Stand.of_body Bd
  have e0 : s₁.heap = h0 := by rw [← hh, Bd.state]; rfl
  have N0 := Fr.nil n0
  have pre0 : ∀ t, Steps p.tables e below (s₁.setTop (mkF m 0 #[.val (.ref a1)] [])) t → Steps p.tables e below (s₁.setTop (entryFrame m #[(.ref a1)] 1)) t := fun t k => castTop (ef_4 m a1) k
  obtain ⟨S_FALSE, S_TRUE, S_UNDEFINED, S_ERROR, E_FALSE, E_TRUE, E_UNDEFINED, E_ERROR, F_ordinal_UNDEFINED, F_ordinal_FALSE, F_ordinal_ERROR, F_ordinal_TRUE⟩ := P
  have pre1 : ∀ t, Steps p.tables e below (s₁.setTop (mkF m 1 #[.val (.ref a1)] [(.ref a1)])) t → Steps p.tables e below (s₁.setTop (entryFrame m #[(.ref a1)] 1)) t := fun t k => pre0 t (by
    show Steps p.tables e below (s₁.setTop (mkF m 0 #[.val (.ref a1)] [])) _
    refine XS.aloadN X0.here hx rfl (hb hby d4_0) rfl rfl ?_
    exact k)
  obtain ⟨T2, X2, e2, st2⟩ := getS2 X0 hx hZ hown (host := "") (Or.inl (hw _ (List.mem_of_getElem? (i := 4) rfl))) Via.refl e0 (Sta.ext O0 S_FALSE) (g := (mkF m 1 #[.val (.ref a1)] [(.ref a1)])) rfl (hb hby d4_1)
  have pre3 : ∀ t, Steps p.tables e below (T2.setTop (mkF m 4 #[.val (.ref a1)] [(.ref w_FALSE), (.ref a1)])) t → Steps p.tables e below (s₁.setTop (entryFrame m #[(.ref a1)] 1)) t := fun t k => pre1 t (st2 t k)
  by_cases hc4_4 : a1 = w_FALSE
  · have pre5 : ∀ t, Steps p.tables e below (T2.setTop (mkF m 8 #[.val (.ref a1)] [(.int (0 : Int32))])) t → Steps p.tables e below (s₁.setTop (entryFrame m #[(.ref a1)] 1)) t := fun t k => pre3 t (by
      show Steps p.tables e below (T2.setTop (mkF m 4 #[.val (.ref a1)] [(.ref w_FALSE), (.ref a1)])) _
      refine Jvm.RoadKit.acmp (g := (mkF m 4 #[.val (.ref a1)] [(.ref w_FALSE), (.ref a1)])) X2 hx rfl rfl rfl (pc0 := 4) (pc' := 7) (same := true) rfl (hb hby d4_4) rfl (decide_eq_true (congrArg Value.ref hc4_4)) (by decide) (by decide) ?_
      show Steps p.tables e below (T2.setTop (mkF m 7 #[.val (.ref a1)] [])) _
      refine XS.iconst X2.here hx rfl (hb hby d4_7) ?_
      exact k)
    obtain ⟨fs, hr, hrun, hended, hW, hsame⟩ := X2.leave (v := some (.int (0 : Int32))) (fun h => by rw [Bd.returns] at h; cases h)
    refine ⟨_, _, pre5 _ ?_, hrun, hended, _, _, rfl, ?_, ⟨_, rfl⟩, hW, hsame.mono (by decide) (by decide)⟩
    · exact retI X2 hx Bd.returns (hb hby d4_8) hr
    · show Q_rm_rk Z a1 w_FALSE w_TRUE w_UNDEFINED w_ERROR h0 n0 _ T2.heap _
      rw [e2]
      exact ⟨(by simp only [rkF, if_pos hc4_4]), N0, rfl⟩
  · have pre6 : ∀ t, Steps p.tables e below (T2.setTop (mkF m 10 #[.val (.ref a1)] [(.ref a1)])) t → Steps p.tables e below (s₁.setTop (entryFrame m #[(.ref a1)] 1)) t := fun t k => pre3 t (by
      show Steps p.tables e below (T2.setTop (mkF m 4 #[.val (.ref a1)] [(.ref w_FALSE), (.ref a1)])) _
      refine Jvm.RoadKit.acmp (g := (mkF m 4 #[.val (.ref a1)] [(.ref w_FALSE), (.ref a1)])) X2 hx rfl rfl rfl (pc0 := 4) (pc' := 9) (same := false) rfl (hb hby d4_4) rfl (decide_eq_false fun q => hc4_4 (Value.ref.inj q)) (by decide) (by decide) ?_
      show Steps p.tables e below (T2.setTop (mkF m 9 #[.val (.ref a1)] [])) _
      refine XS.aloadN X2.here hx rfl (hb hby d4_9) rfl rfl ?_
      exact k)
    obtain ⟨T7, X7, e7, st7⟩ := getS2 X2 hx hZ hown (host := "") (Or.inl (hw _ (List.mem_of_getElem? (i := 36) rfl))) Via.refl e2 (Sta.ext O0 S_ERROR) (g := (mkF m 10 #[.val (.ref a1)] [(.ref a1)])) rfl (hb hby d4_10)
    have pre8 : ∀ t, Steps p.tables e below (T7.setTop (mkF m 13 #[.val (.ref a1)] [(.ref w_ERROR), (.ref a1)])) t → Steps p.tables e below (s₁.setTop (entryFrame m #[(.ref a1)] 1)) t := fun t k => pre6 t (st7 t k)
    by_cases hc13_9 : a1 = w_ERROR
    · have pre10 : ∀ t, Steps p.tables e below (T7.setTop (mkF m 17 #[.val (.ref a1)] [(.int (1 : Int32))])) t → Steps p.tables e below (s₁.setTop (entryFrame m #[(.ref a1)] 1)) t := fun t k => pre8 t (by
        show Steps p.tables e below (T7.setTop (mkF m 13 #[.val (.ref a1)] [(.ref w_ERROR), (.ref a1)])) _
        refine Jvm.RoadKit.acmp (g := (mkF m 13 #[.val (.ref a1)] [(.ref w_ERROR), (.ref a1)])) X7 hx rfl rfl rfl (pc0 := 13) (pc' := 16) (same := true) rfl (hb hby d4_13) rfl (decide_eq_true (congrArg Value.ref hc13_9)) (by decide) (by decide) ?_
        show Steps p.tables e below (T7.setTop (mkF m 16 #[.val (.ref a1)] [])) _
        refine XS.iconst X7.here hx rfl (hb hby d4_16) ?_
        exact k)
      obtain ⟨fs, hr, hrun, hended, hW, hsame⟩ := X7.leave (v := some (.int (1 : Int32))) (fun h => by rw [Bd.returns] at h; cases h)
      refine ⟨_, _, pre10 _ ?_, hrun, hended, _, _, rfl, ?_, ⟨_, rfl⟩, hW, hsame.mono (by decide) (by decide)⟩
      · exact retI X7 hx Bd.returns (hb hby d4_17) hr
      · show Q_rm_rk Z a1 w_FALSE w_TRUE w_UNDEFINED w_ERROR h0 n0 _ T7.heap _
        rw [e7]
        exact ⟨(by simp only [rkF, if_neg hc4_4, if_pos hc13_9]), N0, rfl⟩
    · have pre11 : ∀ t, Steps p.tables e below (T7.setTop (mkF m 19 #[.val (.ref a1)] [(.ref a1)])) t → Steps p.tables e below (s₁.setTop (entryFrame m #[(.ref a1)] 1)) t := fun t k => pre8 t (by
        show Steps p.tables e below (T7.setTop (mkF m 13 #[.val (.ref a1)] [(.ref w_ERROR), (.ref a1)])) _
        refine Jvm.RoadKit.acmp (g := (mkF m 13 #[.val (.ref a1)] [(.ref w_ERROR), (.ref a1)])) X7 hx rfl rfl rfl (pc0 := 13) (pc' := 18) (same := false) rfl (hb hby d4_13) rfl (decide_eq_false fun q => hc13_9 (Value.ref.inj q)) (by decide) (by decide) ?_
        show Steps p.tables e below (T7.setTop (mkF m 18 #[.val (.ref a1)] [])) _
        refine XS.aloadN X7.here hx rfl (hb hby d4_18) rfl rfl ?_
        exact k)
      obtain ⟨T12, X12, e12, st12⟩ := getS2 X7 hx hZ hown (host := "") (Or.inl (hw _ (List.mem_of_getElem? (i := 34) rfl))) Via.refl e7 (Sta.ext O0 S_UNDEFINED) (g := (mkF m 19 #[.val (.ref a1)] [(.ref a1)])) rfl (hb hby d4_19)
      have pre13 : ∀ t, Steps p.tables e below (T12.setTop (mkF m 22 #[.val (.ref a1)] [(.ref w_UNDEFINED), (.ref a1)])) t → Steps p.tables e below (s₁.setTop (entryFrame m #[(.ref a1)] 1)) t := fun t k => pre11 t (st12 t k)
      by_cases hc22_14 : a1 = w_UNDEFINED
      · have pre15 : ∀ t, Steps p.tables e below (T12.setTop (mkF m 26 #[.val (.ref a1)] [(.int (2 : Int32))])) t → Steps p.tables e below (s₁.setTop (entryFrame m #[(.ref a1)] 1)) t := fun t k => pre13 t (by
          show Steps p.tables e below (T12.setTop (mkF m 22 #[.val (.ref a1)] [(.ref w_UNDEFINED), (.ref a1)])) _
          refine Jvm.RoadKit.acmp (g := (mkF m 22 #[.val (.ref a1)] [(.ref w_UNDEFINED), (.ref a1)])) X12 hx rfl rfl rfl (pc0 := 22) (pc' := 25) (same := true) rfl (hb hby d4_22) rfl (decide_eq_true (congrArg Value.ref hc22_14)) (by decide) (by decide) ?_
          show Steps p.tables e below (T12.setTop (mkF m 25 #[.val (.ref a1)] [])) _
          refine XS.iconst X12.here hx rfl (hb hby d4_25) ?_
          exact k)
        obtain ⟨fs, hr, hrun, hended, hW, hsame⟩ := X12.leave (v := some (.int (2 : Int32))) (fun h => by rw [Bd.returns] at h; cases h)
        refine ⟨_, _, pre15 _ ?_, hrun, hended, _, _, rfl, ?_, ⟨_, rfl⟩, hW, hsame.mono (by decide) (by decide)⟩
        · exact retI X12 hx Bd.returns (hb hby d4_26) hr
        · show Q_rm_rk Z a1 w_FALSE w_TRUE w_UNDEFINED w_ERROR h0 n0 _ T12.heap _
          rw [e12]
          exact ⟨(by simp only [rkF, if_neg hc4_4, if_neg hc13_9, if_pos hc22_14]), N0, rfl⟩
      · have pre16 : ∀ t, Steps p.tables e below (T12.setTop (mkF m 28 #[.val (.ref a1)] [(.ref a1)])) t → Steps p.tables e below (s₁.setTop (entryFrame m #[(.ref a1)] 1)) t := fun t k => pre13 t (by
          show Steps p.tables e below (T12.setTop (mkF m 22 #[.val (.ref a1)] [(.ref w_UNDEFINED), (.ref a1)])) _
          refine Jvm.RoadKit.acmp (g := (mkF m 22 #[.val (.ref a1)] [(.ref w_UNDEFINED), (.ref a1)])) X12 hx rfl rfl rfl (pc0 := 22) (pc' := 27) (same := false) rfl (hb hby d4_22) rfl (decide_eq_false fun q => hc22_14 (Value.ref.inj q)) (by decide) (by decide) ?_
          show Steps p.tables e below (T12.setTop (mkF m 27 #[.val (.ref a1)] [])) _
          refine XS.aloadN X12.here hx rfl (hb hby d4_27) rfl rfl ?_
          exact k)
        obtain ⟨T17, X17, e17, st17⟩ := getS2 X12 hx hZ hown (host := "") (Or.inl (hw _ (List.mem_of_getElem? (i := 7) rfl))) Via.refl e12 (Sta.ext O0 S_TRUE) (g := (mkF m 28 #[.val (.ref a1)] [(.ref a1)])) rfl (hb hby d4_28)
        have pre18 : ∀ t, Steps p.tables e below (T17.setTop (mkF m 31 #[.val (.ref a1)] [(.ref w_TRUE), (.ref a1)])) t → Steps p.tables e below (s₁.setTop (entryFrame m #[(.ref a1)] 1)) t := fun t k => pre16 t (st17 t k)
        by_cases hc31_19 : a1 = w_TRUE
        · have pre20 : ∀ t, Steps p.tables e below (T17.setTop (mkF m 35 #[.val (.ref a1)] [(.int (3 : Int32))])) t → Steps p.tables e below (s₁.setTop (entryFrame m #[(.ref a1)] 1)) t := fun t k => pre18 t (by
            show Steps p.tables e below (T17.setTop (mkF m 31 #[.val (.ref a1)] [(.ref w_TRUE), (.ref a1)])) _
            refine Jvm.RoadKit.acmp (g := (mkF m 31 #[.val (.ref a1)] [(.ref w_TRUE), (.ref a1)])) X17 hx rfl rfl rfl (pc0 := 31) (pc' := 34) (same := true) rfl (hb hby d4_31) rfl (decide_eq_true (congrArg Value.ref hc31_19)) (by decide) (by decide) ?_
            show Steps p.tables e below (T17.setTop (mkF m 34 #[.val (.ref a1)] [])) _
            refine XS.iconst X17.here hx rfl (hb hby d4_34) ?_
            exact k)
          obtain ⟨fs, hr, hrun, hended, hW, hsame⟩ := X17.leave (v := some (.int (3 : Int32))) (fun h => by rw [Bd.returns] at h; cases h)
          refine ⟨_, _, pre20 _ ?_, hrun, hended, _, _, rfl, ?_, ⟨_, rfl⟩, hW, hsame.mono (by decide) (by decide)⟩
          · exact retI X17 hx Bd.returns (hb hby d4_35) hr
          · show Q_rm_rk Z a1 w_FALSE w_TRUE w_UNDEFINED w_ERROR h0 n0 _ T17.heap _
            rw [e17]
            exact ⟨(by simp only [rkF, if_neg hc4_4, if_neg hc13_9, if_neg hc22_14, if_pos hc31_19]), N0, rfl⟩
        · have pre21 : ∀ t, Steps p.tables e below (T17.setTop (mkF m 37 #[.val (.ref a1)] [(.int (-1 : Int32))])) t → Steps p.tables e below (s₁.setTop (entryFrame m #[(.ref a1)] 1)) t := fun t k => pre18 t (by
            show Steps p.tables e below (T17.setTop (mkF m 31 #[.val (.ref a1)] [(.ref w_TRUE), (.ref a1)])) _
            refine Jvm.RoadKit.acmp (g := (mkF m 31 #[.val (.ref a1)] [(.ref w_TRUE), (.ref a1)])) X17 hx rfl rfl rfl (pc0 := 31) (pc' := 36) (same := false) rfl (hb hby d4_31) rfl (decide_eq_false fun q => hc31_19 (Value.ref.inj q)) (by decide) (by decide) ?_
            show Steps p.tables e below (T17.setTop (mkF m 36 #[.val (.ref a1)] [])) _
            refine XS.iconst X17.here hx rfl (hb hby d4_36) ?_
            exact k)
          obtain ⟨fs, hr, hrun, hended, hW, hsame⟩ := X17.leave (v := some (.int (-1 : Int32))) (fun h => by rw [Bd.returns] at h; cases h)
          refine ⟨_, _, pre21 _ ?_, hrun, hended, _, _, rfl, ?_, ⟨_, rfl⟩, hW, hsame.mono (by decide) (by decide)⟩
          · exact retI X17 hx Bd.returns (hb hby d4_37) hr
          · show Q_rm_rk Z a1 w_FALSE w_TRUE w_UNDEFINED w_ERROR h0 n0 _ T17.heap _
            rw [e17]
            exact ⟨(by simp only [rkF, if_neg hc4_4, if_neg hc13_9, if_neg hc22_14, if_neg hc31_19]), N0, rfl⟩
theorem ef_3 (m : MethodId) (x0 : Addr) (x1 : Addr) : entryFrame m #[(.ref x0), (.ref x1)] 2 = mkF m 0 #[.val (.ref x0), .val (.ref x1)] [] := by first | (simp [entryFrame, mkF, argsToLocals, Value.category]; done) | rfl
theorem pn_java_util_Objects : plainName "java/util/Objects" = true := by first | (simp [plainName, overriddenIn]; done) | decide +kernel
theorem d3_0 : decode jdk_31_method_11_code 0 = .ok (.aload_n 0, 1) := by decide +kernel
theorem d3_1 : decode jdk_31_method_11_code 1 = .ok (.ifnonnull 12, 3) := by decide +kernel
theorem d3_13 : decode jdk_31_method_11_code 13 = .ok (.aload_n 0, 1) := by decide +kernel
theorem d3_14 : decode jdk_31_method_11_code 14 = .ok (.areturn, 1) := by decide +kernel
def Q_rm_rn (Z : State) (a1 : Addr) (a2 : Addr) (h0 : Heap) (n0 : Nat) (v : Option Value) (h : Heap) (L : List Loc) : Prop := v = some (.ref a1) ∧ Fr n0 L ∧ h = h0
set_option maxRecDepth 65536 in
set_option maxHeartbeats 40000000 in
theorem rm_rn (l : Launch) (Z : State) (a0 : Array Value) (hw : ∀ d ∈ tables_1, d.before a0 Z = true) (ws : List Jvm.Cond) (a1 : Addr) (a2 : Addr) (h0 : Heap) (n0 : Nat) (Z0 : n0 ≤ h0.size) (O0 : Ext Z.heap h0) :
    MetFree l (⟨"java/util/Objects", "requireNonNull", "(Ljava/lang/Object;Ljava/lang/String;)Ljava/lang/Object;"⟩ : MethodName) (head1 (Jvm.Cond.code (⟨"java/util/Objects", "requireNonNull", "(Ljava/lang/Object;Ljava/lang/String;)Ljava/lang/Object;"⟩ : MethodName) jdk_31_method_11_code 2 (some (.object "java/lang/Object")) :: ws) ({ frames := 0, cells := 0, slots := 0, locals := 0 } : Room)) (fun a U => a = #[(.ref a1), (.ref a2)] ∧ Z.Warmed39 U.vm ∧ U.heap = h0) (fun _ _ _ _ _ => True) (fun _ U o U' => ∃ v L, o = .returned v ∧ Q_rm_rn Z a1 a2 h0 n0 v U'.heap L ∧ FrameEnd U o U' L ({ frames := 0, cells := 0, slots := 0, locals := 0 } : Room).cells ({ frames := 0, cells := 0, slots := 0, locals := 0 } : Room).slots) := by
  refine MetFree.of_bodySF (plainFor_of_name pn_java_util_Objects) hisR ?_
  intro p e s m args below meth c s₁ Bd hml0 hP hK
  obtain ⟨rfl, hZ, hh⟩ := hP
  have hx := Bd.exec
  have hby := Bd.bytes
  have hml : c.maxLocals = 2 := hml0
  have hown : s.vm.findClass "java/util/Objects" = some m.cls := findClass_of_methodNamed Bd.named
  have hnm := (name_of_methodNamed Bd.named Bd.method).1
  have X0 : Stand p l e ({ frames := 0, cells := 0, slots := 0, locals := 0 } : Room) s m #[(.ref a1), (.ref a2)] below meth c s₁ [] 0 0 := Stand.of_body Bd
  have e0 : s₁.heap = h0 := by rw [← hh, Bd.state]; rfl
  have N0 := Fr.nil n0
  have pre0 : ∀ t, Steps p.tables e below (s₁.setTop (mkF m 0 #[.val (.ref a1), .val (.ref a2)] [])) t → Steps p.tables e below (s₁.setTop (entryFrame m #[(.ref a1), (.ref a2)] 2)) t := fun t k => castTop (ef_3 m a1 a2) k
  have pre1 : ∀ t, Steps p.tables e below (s₁.setTop (mkF m 14 #[.val (.ref a1), .val (.ref a2)] [(.ref a1)])) t → Steps p.tables e below (s₁.setTop (entryFrame m #[(.ref a1), (.ref a2)] 2)) t := fun t k => pre0 t (by
    show Steps p.tables e below (s₁.setTop (mkF m 0 #[.val (.ref a1), .val (.ref a2)] [])) _
    refine XS.aloadN X0.here hx rfl (hb hby d3_0) rfl rfl ?_
    show Steps p.tables e below (s₁.setTop (mkF m 1 #[.val (.ref a1), .val (.ref a2)] [(.ref a1)])) _
    refine XS.ifnonnullYes X0.here hx rfl (pc0 := 1) (pc' := 13) rfl (hb hby d3_1) rfl (by decide) (by decide) ?_
    show Steps p.tables e below (s₁.setTop (mkF m 13 #[.val (.ref a1), .val (.ref a2)] [])) _
    refine XS.aloadN X0.here hx rfl (hb hby d3_13) rfl rfl ?_
    exact k)
  obtain ⟨fs, hr, hrun, hended, hW, hsame⟩ := X0.leave (v := some (.ref a1)) (fun h => by rw [Bd.returns] at h; cases h)
  refine ⟨_, _, pre1 _ ?_, hrun, hended, _, _, rfl, ?_, ⟨_, rfl⟩, hW, hsame.mono (by decide) (by decide)⟩
  · show Steps p.tables e below (s₁.setTop (mkF m 14 #[.val (.ref a1), .val (.ref a2)] [(.ref a1)])) _
    jvm_step X0.here [X0.here.top, hx, (hb hby d3_14), X0.method', Bd.returns, Value.isRef, FieldType.isReference]
    first | (intro acts; rw [hr _ acts rfl rfl rfl]) | rw [hr _ _ rfl rfl rfl]
    exact Steps.refl _
  · show Q_rm_rn Z a1 a2 h0 n0 _ s₁.heap _
    rw [e0]
    exact ⟨rfl, N0, rfl⟩
theorem ef_5 (m : MethodId) (x0 : Int32) (x1 : Int32) : entryFrame m #[(.int x0), (.int x1)] 2 = mkF m 0 #[.val (.int x0), .val (.int x1)] [] := by first | (simp [entryFrame, mkF, argsToLocals, Value.category]; done) | rfl
theorem d5_0 : decode jdk_29_method_69_code 0 = .ok (.iload_n 0, 1) := by decide +kernel
theorem d5_1 : decode jdk_29_method_69_code 1 = .ok (.iload_n 1, 1) := by decide +kernel
theorem d5_2 : decode jdk_29_method_69_code 2 = .ok (.if_icmp .gt 7, 3) := by decide +kernel
theorem d5_9 : decode jdk_29_method_69_code 9 = .ok (.iload_n 1, 1) := by decide +kernel
theorem d5_10 : decode jdk_29_method_69_code 10 = .ok (.ireturn, 1) := by decide +kernel
theorem d5_5 : decode jdk_29_method_69_code 5 = .ok (.iload_n 0, 1) := by decide +kernel
theorem d5_6 : decode jdk_29_method_69_code 6 = .ok (.goto 4, 3) := by decide +kernel
def Q_rm_min (Z : State) (p1 : Int32) (p2 : Int32) (h0 : Heap) (n0 : Nat) (v : Option Value) (h : Heap) (L : List Loc) : Prop := v = some (.int (minF p1 p2)) ∧ Fr n0 L ∧ h = h0
set_option maxRecDepth 65536 in
set_option maxHeartbeats 40000000 in
theorem rm_min (l : Launch) (Z : State) (a0 : Array Value) (hw : ∀ d ∈ tables_1, d.before a0 Z = true) (ws : List Jvm.Cond) (p1 : Int32) (p2 : Int32) (h0 : Heap) (n0 : Nat) (Z0 : n0 ≤ h0.size) (O0 : Ext Z.heap h0) :
    MetFree l (⟨"java/lang/Math", "min", "(II)I"⟩ : MethodName) (head1 (Jvm.Cond.code (⟨"java/lang/Math", "min", "(II)I"⟩ : MethodName) jdk_29_method_69_code 2 (some .int) :: ws) ({ frames := 0, cells := 0, slots := 0, locals := 0 } : Room)) (fun a U => a = #[(.int p1), (.int p2)] ∧ Z.Warmed39 U.vm ∧ U.heap = h0) (fun _ _ _ _ _ => True) (fun _ U o U' => ∃ v L, o = .returned v ∧ Q_rm_min Z p1 p2 h0 n0 v U'.heap L ∧ FrameEnd U o U' L ({ frames := 0, cells := 0, slots := 0, locals := 0 } : Room).cells ({ frames := 0, cells := 0, slots := 0, locals := 0 } : Room).slots) := by
  refine MetFree.of_bodySF (Jvm.Free.JP.mathPlain rfl (by decide +kernel)) hisR ?_
  intro p e s m args below meth c s₁ Bd hml0 hP hK
  obtain ⟨rfl, hZ, hh⟩ := hP
  have hx := Bd.exec
  have hby := Bd.bytes
  have hml : c.maxLocals = 2 := hml0
  have hown : s.vm.findClass "java/lang/Math" = some m.cls := findClass_of_methodNamed Bd.named
  have hnm := (name_of_methodNamed Bd.named Bd.method).1
  have X0 : Stand p l e ({ frames := 0, cells := 0, slots := 0, locals := 0 } : Room) s m #[(.int p1), (.int p2)] below meth c s₁ [] 0 0 := Stand.of_body Bd
  have e0 : s₁.heap = h0 := by rw [← hh, Bd.state]; rfl
  have N0 := Fr.nil n0
  have pre0 : ∀ t, Steps p.tables e below (s₁.setTop (mkF m 0 #[.val (.int p1), .val (.int p2)] [])) t → Steps p.tables e below (s₁.setTop (entryFrame m #[(.int p1), (.int p2)] 2)) t := fun t k => castTop (ef_5 m p1 p2) k
  have pre1 : ∀ t, Steps p.tables e below (s₁.setTop (mkF m 2 #[.val (.int p1), .val (.int p2)] [(.int p2), (.int p1)])) t → Steps p.tables e below (s₁.setTop (entryFrame m #[(.int p1), (.int p2)] 2)) t := fun t k => pre0 t (by
    show Steps p.tables e below (s₁.setTop (mkF m 0 #[.val (.int p1), .val (.int p2)] [])) _
    refine XS.iloadN X0.here hx rfl (hb hby d5_0) rfl ?_
    show Steps p.tables e below (s₁.setTop (mkF m 1 #[.val (.int p1), .val (.int p2)] [(.int p1)])) _
    refine XS.iloadN X0.here hx rfl (hb hby d5_1) rfl ?_
    exact k)
  by_cases hc2_2 : p2 < p1
  · have pre3 : ∀ t, Steps p.tables e below (s₁.setTop (mkF m 10 #[.val (.int p1), .val (.int p2)] [(.int p2)])) t → Steps p.tables e below (s₁.setTop (entryFrame m #[(.int p1), (.int p2)] 2)) t := fun t k => pre1 t (by
      show Steps p.tables e below (s₁.setTop (mkF m 2 #[.val (.int p1), .val (.int p2)] [(.int p2), (.int p1)])) _
      refine XS.icmpYes X0.here hx rfl (pc0 := 2) (pc' := 9) rfl (hb hby d5_2) rfl (tlt hc2_2).2.2.1 (by decide) (by decide) ?_
      show Steps p.tables e below (s₁.setTop (mkF m 9 #[.val (.int p1), .val (.int p2)] [])) _
      refine XS.iloadN X0.here hx rfl (hb hby d5_9) rfl ?_
      exact k)
    obtain ⟨fs, hr, hrun, hended, hW, hsame⟩ := X0.leave (v := some (.int p2)) (fun h => by rw [Bd.returns] at h; cases h)
    refine ⟨_, _, pre3 _ ?_, hrun, hended, _, _, rfl, ?_, ⟨_, rfl⟩, hW, hsame.mono (by decide) (by decide)⟩
    · exact retI X0 hx Bd.returns (hb hby d5_10) hr
    · show Q_rm_min Z p1 p2 h0 n0 _ s₁.heap _
      rw [e0]
      exact ⟨(by simp only [minF, if_pos hc2_2]), N0, rfl⟩
  · have pre4 : ∀ t, Steps p.tables e below (s₁.setTop (mkF m 10 #[.val (.int p1), .val (.int p2)] [(.int p1)])) t → Steps p.tables e below (s₁.setTop (entryFrame m #[(.int p1), (.int p2)] 2)) t := fun t k => pre1 t (by
      show Steps p.tables e below (s₁.setTop (mkF m 2 #[.val (.int p1), .val (.int p2)] [(.int p2), (.int p1)])) _
      refine XS.icmpNo X0.here hx rfl (hb hby d5_2) rfl (flt hc2_2).2.2.1 ?_
      show Steps p.tables e below (s₁.setTop (mkF m 5 #[.val (.int p1), .val (.int p2)] [])) _
      refine XS.iloadN X0.here hx rfl (hb hby d5_5) rfl ?_
      show Steps p.tables e below (s₁.setTop (mkF m 6 #[.val (.int p1), .val (.int p2)] [(.int p1)])) _
      refine XS.goto X0.here hx rfl (pc0 := 6) (pc' := 10) rfl (hb hby d5_6) (by decide) (by decide) ?_
      exact k)
    obtain ⟨fs, hr, hrun, hended, hW, hsame⟩ := X0.leave (v := some (.int p1)) (fun h => by rw [Bd.returns] at h; cases h)
    refine ⟨_, _, pre4 _ ?_, hrun, hended, _, _, rfl, ?_, ⟨_, rfl⟩, hW, hsame.mono (by decide) (by decide)⟩
    · exact retI X0 hx Bd.returns (hb hby d5_10) hr
    · show Q_rm_min Z p1 p2 h0 n0 _ s₁.heap _
      rw [e0]
      exact ⟨(by simp only [minF, if_neg hc2_2]), N0, rfl⟩
theorem ef_2 (m : MethodId) (x0 : Addr) (x1 : Addr) : entryFrame m #[(.ref x0), (.ref x1)] 3 = mkF m 0 #[.val (.ref x0), .val (.ref x1), .unset] [] := by first | (simp [entryFrame, mkF, argsToLocals, Value.category]; done) | rfl
theorem pn_com_example_usage_verdict_usageverdict_engine_Truth : plainName "com/example/usage_verdict/usageverdict/engine/Truth" = true := by first | (simp [plainName, overriddenIn]; done) | decide +kernel
theorem d2_0 : decode prog_29_method_4_code 0 = .ok (.aload_n 1, 1) := by decide +kernel
theorem d2_1 : decode prog_29_method_4_code 1 = .ok (.ldc 35, 2) := by decide +kernel
theorem pd_0 : parseMethodDescriptor "(Ljava/lang/Object;Ljava/lang/String;)Ljava/lang/Object;" = some ⟨[(.object "java/lang/Object"), (.object "java/lang/String")], some (.object "java/lang/Object")⟩ := by decide +kernel
theorem d2_3 : decode prog_29_method_4_code 3 = .ok (.invokestatic 37, 3) := by decide +kernel
theorem d2_6 : decode prog_29_method_4_code 6 = .ok (.pop, 1) := by decide +kernel
theorem d2_7 : decode prog_29_method_4_code 7 = .ok (.aload_n 0, 1) := by decide +kernel
theorem d2_8 : decode prog_29_method_4_code 8 = .ok (.getstatic 7, 3) := by decide +kernel
theorem d2_11 : decode prog_29_method_4_code 11 = .ok (.if_acmp .eq 10, 3) := by decide +kernel
theorem d2_21 : decode prog_29_method_4_code 21 = .ok (.getstatic 7, 3) := by decide +kernel
theorem d2_24 : decode prog_29_method_4_code 24 = .ok (.astore_n 2, 1) := by decide +kernel
theorem d2_25 : decode prog_29_method_4_code 25 = .ok (.goto 49, 3) := by decide +kernel
theorem d2_74 : decode prog_29_method_4_code 74 = .ok (.aload_n 2, 1) := by decide +kernel
theorem d2_75 : decode prog_29_method_4_code 75 = .ok (.areturn, 1) := by decide +kernel
theorem d2_14 : decode prog_29_method_4_code 14 = .ok (.aload_n 1, 1) := by decide +kernel
theorem d2_15 : decode prog_29_method_4_code 15 = .ok (.getstatic 7, 3) := by decide +kernel
theorem d2_18 : decode prog_29_method_4_code 18 = .ok (.if_acmp .ne 10, 3) := by decide +kernel
theorem d2_28 : decode prog_29_method_4_code 28 = .ok (.aload_n 0, 1) := by decide +kernel
theorem d2_29 : decode prog_29_method_4_code 29 = .ok (.getstatic 13, 3) := by decide +kernel
theorem d2_32 : decode prog_29_method_4_code 32 = .ok (.if_acmp .eq 10, 3) := by decide +kernel
theorem d2_42 : decode prog_29_method_4_code 42 = .ok (.getstatic 13, 3) := by decide +kernel
theorem d2_45 : decode prog_29_method_4_code 45 = .ok (.astore_n 2, 1) := by decide +kernel
theorem d2_46 : decode prog_29_method_4_code 46 = .ok (.goto 28, 3) := by decide +kernel
theorem d2_35 : decode prog_29_method_4_code 35 = .ok (.aload_n 1, 1) := by decide +kernel
theorem d2_36 : decode prog_29_method_4_code 36 = .ok (.getstatic 13, 3) := by decide +kernel
theorem d2_39 : decode prog_29_method_4_code 39 = .ok (.if_acmp .ne 10, 3) := by decide +kernel
theorem d2_49 : decode prog_29_method_4_code 49 = .ok (.aload_n 0, 1) := by decide +kernel
theorem d2_50 : decode prog_29_method_4_code 50 = .ok (.getstatic 10, 3) := by decide +kernel
theorem d2_53 : decode prog_29_method_4_code 53 = .ok (.if_acmp .eq 10, 3) := by decide +kernel
theorem d2_63 : decode prog_29_method_4_code 63 = .ok (.getstatic 10, 3) := by decide +kernel
theorem d2_66 : decode prog_29_method_4_code 66 = .ok (.astore_n 2, 1) := by decide +kernel
theorem d2_67 : decode prog_29_method_4_code 67 = .ok (.goto 7, 3) := by decide +kernel
theorem d2_56 : decode prog_29_method_4_code 56 = .ok (.aload_n 1, 1) := by decide +kernel
theorem d2_57 : decode prog_29_method_4_code 57 = .ok (.getstatic 10, 3) := by decide +kernel
theorem d2_60 : decode prog_29_method_4_code 60 = .ok (.if_acmp .ne 10, 3) := by decide +kernel
theorem d2_70 : decode prog_29_method_4_code 70 = .ok (.getstatic 3, 3) := by decide +kernel
theorem d2_73 : decode prog_29_method_4_code 73 = .ok (.astore_n 2, 1) := by decide +kernel
def Q_rm_and (Z : State) (a1 : Addr) (a2 : Addr) (w_FALSE w_TRUE w_UNDEFINED w_ERROR : Addr) (h0 : Heap) (n0 : Nat) (v : Option Value) (h : Heap) (L : List Loc) : Prop := v = some (.ref (andF a1 a2 w_FALSE w_TRUE w_UNDEFINED w_ERROR)) ∧ Fr n0 L ∧ Keep h0 h []
set_option maxRecDepth 65536 in
set_option maxHeartbeats 40000000 in
theorem rm_and (l : Launch) (Z : State) (a0 : Array Value) (hw : ∀ d ∈ tables_1, d.before a0 Z = true) (ws : List Jvm.Cond) (a1 : Addr) (a2 : Addr) (w_FALSE w_TRUE w_UNDEFINED w_ERROR : Addr) (h0 : Heap) (n0 : Nat) (Z0 : n0 ≤ h0.size) (O0 : Ext Z.heap h0) (P : Pins Z w_FALSE w_TRUE w_UNDEFINED w_ERROR) :
    MetFree l (⟨"com/example/usage_verdict/usageverdict/engine/Truth", "and", "(Lcom/example/usage_verdict/usageverdict/engine/Truth;)Lcom/example/usage_verdict/usageverdict/engine/Truth;"⟩ : MethodName) (head1 (Jvm.Cond.code (⟨"com/example/usage_verdict/usageverdict/engine/Truth", "and", "(Lcom/example/usage_verdict/usageverdict/engine/Truth;)Lcom/example/usage_verdict/usageverdict/engine/Truth;"⟩ : MethodName) prog_29_method_4_code 3 (some (.object "com/example/usage_verdict/usageverdict/engine/Truth")) :: ws) ({ frames := 1, cells := 2, slots := 24, locals := 13 } : Room)) (fun a U => a = #[(.ref a1), (.ref a2)] ∧ Z.Warmed39 U.vm ∧ U.heap = h0) (fun _ _ _ _ _ => True) (fun _ U o U' => ∃ v L, o = .returned v ∧ Q_rm_and Z a1 a2 w_FALSE w_TRUE w_UNDEFINED w_ERROR h0 n0 v U'.heap L ∧ ReturnedEndW U o U' L ({ frames := 1, cells := 2, slots := 24, locals := 13 } : Room).cells ({ frames := 1, cells := 2, slots := 24, locals := 13 } : Room).slots) := by
  refine MetFree.of_bodySF (plainFor_of_name pn_com_example_usage_verdict_usageverdict_engine_Truth) hisR ?_
  intro p e s m args below meth c s₁ Bd hml0 hP hK
  obtain ⟨rfl, hZ, hh⟩ := hP
  have hx := Bd.exec
  have hby := Bd.bytes
  have hml : c.maxLocals = 3 := hml0
  have hown : s.vm.findClass "com/example/usage_verdict/usageverdict/engine/Truth" = some m.cls := findClass_of_methodNamed Bd.named
  have hnm := (name_of_methodNamed Bd.named Bd.method).1
  have X0 : Stand p l e ({ frames := 1, cells := 2, slots := 24, locals := 13 } : Room) s m #[(.ref a1), (.ref a2)] below meth c s₁ [] 0 0 := Stand.of_body Bd
  have e0 : s₁.heap = h0 := by rw [← hh, Bd.state]; rfl
  have N0 := Fr.nil n0
  have pre0 : ∀ t, Steps p.tables e below (s₁.setTop (mkF m 0 #[.val (.ref a1), .val (.ref a2), .unset] [])) t → Steps p.tables e below (s₁.setTop (entryFrame m #[(.ref a1), (.ref a2)] 3)) t := fun t k => castTop (ef_2 m a1 a2) k
  have wS : ∀ d ∈ Bundle.stringAtoms, d.before a0 Z = true := by
    intro d hd
    simp only [Bundle.stringAtoms, List.mem_cons, List.not_mem_nil, or_false] at hd
    rcases hd with rfl | rfl | rfl | rfl | rfl | rfl | rfl
    · exact (hw _ (List.mem_of_getElem? (i := 15) rfl))
    · exact (hw _ (List.mem_of_getElem? (i := 16) rfl))
    · exact (hw _ (List.mem_of_getElem? (i := 17) rfl))
    · exact (hw _ (List.mem_of_getElem? (i := 18) rfl))
    · exact (hw _ (List.mem_of_getElem? (i := 19) rfl))
    · exact (hw _ (List.mem_of_getElem? (i := 20) rfl))
    · exact (hw _ (List.mem_of_getElem? (i := 21) rfl))
  obtain ⟨S_FALSE, S_TRUE, S_UNDEFINED, S_ERROR, E_FALSE, E_TRUE, E_UNDEFINED, E_ERROR, F_ordinal_UNDEFINED, F_ordinal_FALSE, F_ordinal_ERROR, F_ordinal_TRUE⟩ := P
  have pre1 : ∀ t, Steps p.tables e below (s₁.setTop (mkF m 1 #[.val (.ref a1), .val (.ref a2), .unset] [(.ref a2)])) t → Steps p.tables e below (s₁.setTop (entryFrame m #[(.ref a1), (.ref a2)] 3)) t := fun t k => pre0 t (by
    show Steps p.tables e below (s₁.setTop (mkF m 0 #[.val (.ref a1), .val (.ref a2), .unset] [])) _
    refine XS.aloadN X0.here hx rfl (hb hby d2_0) rfl rfl ?_
    exact k)
  obtain ⟨sa2, T2, h2, k2, X2, e2, E2, hS2, hk2, hZ2, hown2, st2⟩ := ldcS (s := s) (vm0 := s.vm) X0 hx hZ hown (hw _ (List.mem_of_getElem? (i := 14) rfl)) wS e0 ((State.WarmedH.refl s).since 0) (Nat.zero_le _) (g := (mkF m 1 #[.val (.ref a1), .val (.ref a2), .unset] [(.ref a2)])) rfl (hb hby d2_1) (n := 20) (by decide) (by decide) (by decide) (by decide)
  have K2 := (Keep.refl h0 []).ext E2
  have O2 : Ext Z.heap h2 := own_ext_trans O0 E2
  have Z2 : n0 ≤ h2.size := Nat.le_trans Z0 E2.1
  have pre3 : ∀ t, Steps p.tables e below (T2.setTop (mkF m 3 #[.val (.ref a1), .val (.ref a2), .unset] [(.ref sa2), (.ref a2)])) t → Steps p.tables e below (s₁.setTop (entryFrame m #[(.ref a1), (.ref a2)] 3)) t := fun t k => pre1 t (st2 t k)
  obtain ⟨_, _, ⟨T4, L4, k4, n4⟩, -, X4, ⟨Lc4, hQ4, l4, y4, z4⟩, st4⟩ := Jvm.LawKit.callS X2 hx (y := (⟨"java/util/Objects", "requireNonNull", "(Ljava/lang/Object;Ljava/lang/String;)Ljava/lang/Object;"⟩ : MethodName)) hown2 (mvT hZ2 (hw _ (List.mem_of_getElem? (i := 22) rfl))) (mvT hZ2 (hw _ (List.mem_of_getElem? (i := 23) rfl))) (mvT hZ2 (hw _ (List.mem_of_getElem? (i := 24) rfl))) (mvT hZ2 (hw _ (List.mem_of_getElem? (i := 25) rfl))) (by decide) (backOf (W := 0) (rm_rn l Z a0 hw [] a2 sa2 h2 n0 Z2 O2) hZ2 (hw _ (List.mem_of_getElem? (i := 25) rfl)) (hw _ (List.mem_of_getElem? (i := 24) rfl)) (by decide) (by decide)) (g := (mkF m 3 #[.val (.ref a1), .val (.ref a2), .unset] [(.ref sa2), (.ref a2)])) rfl (by rw [hml]; rfl) (argsL := [(.ref a2), (.ref sa2)]) (rest := []) (lenOf pd_0 rfl) rfl (by show 2 * 0 + _ ≤ _; exact Nat.le_of_eq rfl) (hb hby d2_3) (fun _ _ => ⟨rfl, e2, (by decide : 2 + 0 ≤ _), (by decide : 24 + 0 ≤ _)⟩)
  dsimp only [Pt.U, Pt.locs, Pt.cells, Pt.slots] at X4 l4 y4 z4 st4 hQ4
  subst l4 y4 z4
  obtain ⟨rfl, N4q, e4⟩ := hQ4
  have N4 := Fr.app N0 N4q
  have pre5 : ∀ t, Steps p.tables e below (T4.setTop (mkF m 6 #[.val (.ref a1), .val (.ref a2), .unset] [(.ref a2)])) t → Steps p.tables e below (s₁.setTop (entryFrame m #[(.ref a1), (.ref a2)] 3)) t := fun t k => pre3 t (st4 t k)
  have pre6 : ∀ t, Steps p.tables e below (T4.setTop (mkF m 8 #[.val (.ref a1), .val (.ref a2), .unset] [(.ref a1)])) t → Steps p.tables e below (s₁.setTop (entryFrame m #[(.ref a1), (.ref a2)] 3)) t := fun t k => pre5 t (by
    show Steps p.tables e below (T4.setTop (mkF m 6 #[.val (.ref a1), .val (.ref a2), .unset] [(.ref a2)])) _
    refine XS.pop X4.here hx rfl (hb hby d2_6) rfl rfl ?_
    show Steps p.tables e below (T4.setTop (mkF m 7 #[.val (.ref a1), .val (.ref a2), .unset] [])) _
    refine XS.aloadN X4.here hx rfl (hb hby d2_7) rfl rfl ?_
    exact k)
  obtain ⟨T7, X7, e7, st7⟩ := getS2 X4 hx hZ2 hown2 (host := "") (Or.inl (hw _ (List.mem_of_getElem? (i := 26) rfl))) Via.refl e4 (Sta.ext O2 S_FALSE) (g := (mkF m 8 #[.val (.ref a1), .val (.ref a2), .unset] [(.ref a1)])) rfl (hb hby d2_8)
  have pre8 : ∀ t, Steps p.tables e below (T7.setTop (mkF m 11 #[.val (.ref a1), .val (.ref a2), .unset] [(.ref w_FALSE), (.ref a1)])) t → Steps p.tables e below (s₁.setTop (entryFrame m #[(.ref a1), (.ref a2)] 3)) t := fun t k => pre6 t (st7 t k)
  by_cases hc11_9 : a1 = w_FALSE
  · have pre10 : ∀ t, Steps p.tables e below (T7.setTop (mkF m 21 #[.val (.ref a1), .val (.ref a2), .unset] [])) t → Steps p.tables e below (s₁.setTop (entryFrame m #[(.ref a1), (.ref a2)] 3)) t := fun t k => pre8 t (by
      show Steps p.tables e below (T7.setTop (mkF m 11 #[.val (.ref a1), .val (.ref a2), .unset] [(.ref w_FALSE), (.ref a1)])) _
      refine Jvm.RoadKit.acmp (g := (mkF m 11 #[.val (.ref a1), .val (.ref a2), .unset] [(.ref w_FALSE), (.ref a1)])) X7 hx rfl rfl rfl (pc0 := 11) (pc' := 21) (same := true) rfl (hb hby d2_11) rfl (decide_eq_true (congrArg Value.ref hc11_9)) (by decide) (by decide) ?_
      exact k)
    obtain ⟨T11, X11, e11, st11⟩ := getS2 X7 hx hZ2 hown2 (host := "") (Or.inl (hw _ (List.mem_of_getElem? (i := 26) rfl))) Via.refl e7 (Sta.ext O2 S_FALSE) (g := (mkF m 21 #[.val (.ref a1), .val (.ref a2), .unset] [])) rfl (hb hby d2_21)
    have pre12 : ∀ t, Steps p.tables e below (T11.setTop (mkF m 24 #[.val (.ref a1), .val (.ref a2), .unset] [(.ref w_FALSE)])) t → Steps p.tables e below (s₁.setTop (entryFrame m #[(.ref a1), (.ref a2)] 3)) t := fun t k => pre10 t (st11 t k)
    have pre13 : ∀ t, Steps p.tables e below (T11.setTop (mkF m 75 #[.val (.ref a1), .val (.ref a2), .val (.ref w_FALSE)] [(.ref w_FALSE)])) t → Steps p.tables e below (s₁.setTop (entryFrame m #[(.ref a1), (.ref a2)] 3)) t := fun t k => pre12 t (by
      show Steps p.tables e below (T11.setTop (mkF m 24 #[.val (.ref a1), .val (.ref a2), .unset] [(.ref w_FALSE)])) _
      refine XS.astoreN X11.here hx rfl (hb hby d2_24) rfl rfl (l' := #[.val (.ref a1), .val (.ref a2), .val (.ref w_FALSE)]) rfl ?_
      show Steps p.tables e below (T11.setTop (mkF m 25 #[.val (.ref a1), .val (.ref a2), .val (.ref w_FALSE)] [])) _
      refine XS.goto X11.here hx rfl (pc0 := 25) (pc' := 74) rfl (hb hby d2_25) (by decide) (by decide) ?_
      show Steps p.tables e below (T11.setTop (mkF m 74 #[.val (.ref a1), .val (.ref a2), .val (.ref w_FALSE)] [])) _
      refine XS.aloadN X11.here hx rfl (hb hby d2_74) rfl rfl ?_
      exact k)
    obtain ⟨fs, hr, hrun, hended, hW⟩ := Jvm.Stand.leaveW (s := s) (vm₁ := T2.vm) X11 hS2 (by rw [e11]; exact hk2) (v := some (.ref w_FALSE)) (fun h => by rw [Bd.returns] at h; cases h)
    refine ⟨_, _, pre13 _ ?_, hrun, hended, _, _, rfl, ?_, hW.1, hW.2.1, hW.2.2.1, hW.2.2.2.mono (by decide) (by decide)⟩
    · show Steps p.tables e below (T11.setTop (mkF m 75 #[.val (.ref a1), .val (.ref a2), .val (.ref w_FALSE)] [(.ref w_FALSE)])) _
      jvm_step X11.here [X11.here.top, hx, (hb hby d2_75), X11.method', Bd.returns, Value.isRef, FieldType.isReference]
      first | (intro acts; rw [hr _ acts rfl rfl rfl]) | rw [hr _ _ rfl rfl rfl]
      exact Steps.refl _
    · show Q_rm_and Z a1 a2 w_FALSE w_TRUE w_UNDEFINED w_ERROR h0 n0 _ T11.heap _
      rw [e11]
      exact ⟨(by simp only [andF, if_pos hc11_9]), N4, K2⟩
  · have pre14 : ∀ t, Steps p.tables e below (T7.setTop (mkF m 15 #[.val (.ref a1), .val (.ref a2), .unset] [(.ref a2)])) t → Steps p.tables e below (s₁.setTop (entryFrame m #[(.ref a1), (.ref a2)] 3)) t := fun t k => pre8 t (by
      show Steps p.tables e below (T7.setTop (mkF m 11 #[.val (.ref a1), .val (.ref a2), .unset] [(.ref w_FALSE), (.ref a1)])) _
      refine Jvm.RoadKit.acmp (g := (mkF m 11 #[.val (.ref a1), .val (.ref a2), .unset] [(.ref w_FALSE), (.ref a1)])) X7 hx rfl rfl rfl (pc0 := 11) (pc' := 14) (same := false) rfl (hb hby d2_11) rfl (decide_eq_false fun q => hc11_9 (Value.ref.inj q)) (by decide) (by decide) ?_
      show Steps p.tables e below (T7.setTop (mkF m 14 #[.val (.ref a1), .val (.ref a2), .unset] [])) _
      refine XS.aloadN X7.here hx rfl (hb hby d2_14) rfl rfl ?_
      exact k)
    obtain ⟨T15, X15, e15, st15⟩ := getS2 X7 hx hZ2 hown2 (host := "") (Or.inl (hw _ (List.mem_of_getElem? (i := 26) rfl))) Via.refl e7 (Sta.ext O2 S_FALSE) (g := (mkF m 15 #[.val (.ref a1), .val (.ref a2), .unset] [(.ref a2)])) rfl (hb hby d2_15)
    have pre16 : ∀ t, Steps p.tables e below (T15.setTop (mkF m 18 #[.val (.ref a1), .val (.ref a2), .unset] [(.ref w_FALSE), (.ref a2)])) t → Steps p.tables e below (s₁.setTop (entryFrame m #[(.ref a1), (.ref a2)] 3)) t := fun t k => pre14 t (st15 t k)
    by_cases hc18_17 : a2 = w_FALSE
    · have pre18 : ∀ t, Steps p.tables e below (T15.setTop (mkF m 21 #[.val (.ref a1), .val (.ref a2), .unset] [])) t → Steps p.tables e below (s₁.setTop (entryFrame m #[(.ref a1), (.ref a2)] 3)) t := fun t k => pre16 t (by
        show Steps p.tables e below (T15.setTop (mkF m 18 #[.val (.ref a1), .val (.ref a2), .unset] [(.ref w_FALSE), (.ref a2)])) _
        refine Jvm.RoadKit.acmp (g := (mkF m 18 #[.val (.ref a1), .val (.ref a2), .unset] [(.ref w_FALSE), (.ref a2)])) X15 hx rfl rfl rfl (pc0 := 18) (pc' := 21) (same := true) rfl (hb hby d2_18) rfl (decide_eq_true (congrArg Value.ref hc18_17)) (by decide) (by decide) ?_
        exact k)
      obtain ⟨T19, X19, e19, st19⟩ := getS2 X15 hx hZ2 hown2 (host := "") (Or.inl (hw _ (List.mem_of_getElem? (i := 26) rfl))) Via.refl e15 (Sta.ext O2 S_FALSE) (g := (mkF m 21 #[.val (.ref a1), .val (.ref a2), .unset] [])) rfl (hb hby d2_21)
      have pre20 : ∀ t, Steps p.tables e below (T19.setTop (mkF m 24 #[.val (.ref a1), .val (.ref a2), .unset] [(.ref w_FALSE)])) t → Steps p.tables e below (s₁.setTop (entryFrame m #[(.ref a1), (.ref a2)] 3)) t := fun t k => pre18 t (st19 t k)
      have pre21 : ∀ t, Steps p.tables e below (T19.setTop (mkF m 75 #[.val (.ref a1), .val (.ref a2), .val (.ref w_FALSE)] [(.ref w_FALSE)])) t → Steps p.tables e below (s₁.setTop (entryFrame m #[(.ref a1), (.ref a2)] 3)) t := fun t k => pre20 t (by
        show Steps p.tables e below (T19.setTop (mkF m 24 #[.val (.ref a1), .val (.ref a2), .unset] [(.ref w_FALSE)])) _
        refine XS.astoreN X19.here hx rfl (hb hby d2_24) rfl rfl (l' := #[.val (.ref a1), .val (.ref a2), .val (.ref w_FALSE)]) rfl ?_
        show Steps p.tables e below (T19.setTop (mkF m 25 #[.val (.ref a1), .val (.ref a2), .val (.ref w_FALSE)] [])) _
        refine XS.goto X19.here hx rfl (pc0 := 25) (pc' := 74) rfl (hb hby d2_25) (by decide) (by decide) ?_
        show Steps p.tables e below (T19.setTop (mkF m 74 #[.val (.ref a1), .val (.ref a2), .val (.ref w_FALSE)] [])) _
        refine XS.aloadN X19.here hx rfl (hb hby d2_74) rfl rfl ?_
        exact k)
      obtain ⟨fs, hr, hrun, hended, hW⟩ := Jvm.Stand.leaveW (s := s) (vm₁ := T2.vm) X19 hS2 (by rw [e19]; exact hk2) (v := some (.ref w_FALSE)) (fun h => by rw [Bd.returns] at h; cases h)
      refine ⟨_, _, pre21 _ ?_, hrun, hended, _, _, rfl, ?_, hW.1, hW.2.1, hW.2.2.1, hW.2.2.2.mono (by decide) (by decide)⟩
      · show Steps p.tables e below (T19.setTop (mkF m 75 #[.val (.ref a1), .val (.ref a2), .val (.ref w_FALSE)] [(.ref w_FALSE)])) _
        jvm_step X19.here [X19.here.top, hx, (hb hby d2_75), X19.method', Bd.returns, Value.isRef, FieldType.isReference]
        first | (intro acts; rw [hr _ acts rfl rfl rfl]) | rw [hr _ _ rfl rfl rfl]
        exact Steps.refl _
      · show Q_rm_and Z a1 a2 w_FALSE w_TRUE w_UNDEFINED w_ERROR h0 n0 _ T19.heap _
        rw [e19]
        exact ⟨(by simp only [andF, if_neg hc11_9, if_pos hc18_17]), N4, K2⟩
    · have pre22 : ∀ t, Steps p.tables e below (T15.setTop (mkF m 29 #[.val (.ref a1), .val (.ref a2), .unset] [(.ref a1)])) t → Steps p.tables e below (s₁.setTop (entryFrame m #[(.ref a1), (.ref a2)] 3)) t := fun t k => pre16 t (by
        show Steps p.tables e below (T15.setTop (mkF m 18 #[.val (.ref a1), .val (.ref a2), .unset] [(.ref w_FALSE), (.ref a2)])) _
        refine Jvm.RoadKit.acmp (g := (mkF m 18 #[.val (.ref a1), .val (.ref a2), .unset] [(.ref w_FALSE), (.ref a2)])) X15 hx rfl rfl rfl (pc0 := 18) (pc' := 28) (same := false) rfl (hb hby d2_18) rfl (decide_eq_false fun q => hc18_17 (Value.ref.inj q)) (by decide) (by decide) ?_
        show Steps p.tables e below (T15.setTop (mkF m 28 #[.val (.ref a1), .val (.ref a2), .unset] [])) _
        refine XS.aloadN X15.here hx rfl (hb hby d2_28) rfl rfl ?_
        exact k)
      obtain ⟨T23, X23, e23, st23⟩ := getS2 X15 hx hZ2 hown2 (host := "") (Or.inl (hw _ (List.mem_of_getElem? (i := 38) rfl))) Via.refl e15 (Sta.ext O2 S_ERROR) (g := (mkF m 29 #[.val (.ref a1), .val (.ref a2), .unset] [(.ref a1)])) rfl (hb hby d2_29)
      have pre24 : ∀ t, Steps p.tables e below (T23.setTop (mkF m 32 #[.val (.ref a1), .val (.ref a2), .unset] [(.ref w_ERROR), (.ref a1)])) t → Steps p.tables e below (s₁.setTop (entryFrame m #[(.ref a1), (.ref a2)] 3)) t := fun t k => pre22 t (st23 t k)
      by_cases hc32_25 : a1 = w_ERROR
      · have pre26 : ∀ t, Steps p.tables e below (T23.setTop (mkF m 42 #[.val (.ref a1), .val (.ref a2), .unset] [])) t → Steps p.tables e below (s₁.setTop (entryFrame m #[(.ref a1), (.ref a2)] 3)) t := fun t k => pre24 t (by
          show Steps p.tables e below (T23.setTop (mkF m 32 #[.val (.ref a1), .val (.ref a2), .unset] [(.ref w_ERROR), (.ref a1)])) _
          refine Jvm.RoadKit.acmp (g := (mkF m 32 #[.val (.ref a1), .val (.ref a2), .unset] [(.ref w_ERROR), (.ref a1)])) X23 hx rfl rfl rfl (pc0 := 32) (pc' := 42) (same := true) rfl (hb hby d2_32) rfl (decide_eq_true (congrArg Value.ref hc32_25)) (by decide) (by decide) ?_
          exact k)
        obtain ⟨T27, X27, e27, st27⟩ := getS2 X23 hx hZ2 hown2 (host := "") (Or.inl (hw _ (List.mem_of_getElem? (i := 38) rfl))) Via.refl e23 (Sta.ext O2 S_ERROR) (g := (mkF m 42 #[.val (.ref a1), .val (.ref a2), .unset] [])) rfl (hb hby d2_42)
        have pre28 : ∀ t, Steps p.tables e below (T27.setTop (mkF m 45 #[.val (.ref a1), .val (.ref a2), .unset] [(.ref w_ERROR)])) t → Steps p.tables e below (s₁.setTop (entryFrame m #[(.ref a1), (.ref a2)] 3)) t := fun t k => pre26 t (st27 t k)
        have pre29 : ∀ t, Steps p.tables e below (T27.setTop (mkF m 75 #[.val (.ref a1), .val (.ref a2), .val (.ref w_ERROR)] [(.ref w_ERROR)])) t → Steps p.tables e below (s₁.setTop (entryFrame m #[(.ref a1), (.ref a2)] 3)) t := fun t k => pre28 t (by
          show Steps p.tables e below (T27.setTop (mkF m 45 #[.val (.ref a1), .val (.ref a2), .unset] [(.ref w_ERROR)])) _
          refine XS.astoreN X27.here hx rfl (hb hby d2_45) rfl rfl (l' := #[.val (.ref a1), .val (.ref a2), .val (.ref w_ERROR)]) rfl ?_
          show Steps p.tables e below (T27.setTop (mkF m 46 #[.val (.ref a1), .val (.ref a2), .val (.ref w_ERROR)] [])) _
          refine XS.goto X27.here hx rfl (pc0 := 46) (pc' := 74) rfl (hb hby d2_46) (by decide) (by decide) ?_
          show Steps p.tables e below (T27.setTop (mkF m 74 #[.val (.ref a1), .val (.ref a2), .val (.ref w_ERROR)] [])) _
          refine XS.aloadN X27.here hx rfl (hb hby d2_74) rfl rfl ?_
          exact k)
        obtain ⟨fs, hr, hrun, hended, hW⟩ := Jvm.Stand.leaveW (s := s) (vm₁ := T2.vm) X27 hS2 (by rw [e27]; exact hk2) (v := some (.ref w_ERROR)) (fun h => by rw [Bd.returns] at h; cases h)
        refine ⟨_, _, pre29 _ ?_, hrun, hended, _, _, rfl, ?_, hW.1, hW.2.1, hW.2.2.1, hW.2.2.2.mono (by decide) (by decide)⟩
        · show Steps p.tables e below (T27.setTop (mkF m 75 #[.val (.ref a1), .val (.ref a2), .val (.ref w_ERROR)] [(.ref w_ERROR)])) _
          jvm_step X27.here [X27.here.top, hx, (hb hby d2_75), X27.method', Bd.returns, Value.isRef, FieldType.isReference]
          first | (intro acts; rw [hr _ acts rfl rfl rfl]) | rw [hr _ _ rfl rfl rfl]
          exact Steps.refl _
        · show Q_rm_and Z a1 a2 w_FALSE w_TRUE w_UNDEFINED w_ERROR h0 n0 _ T27.heap _
          rw [e27]
          exact ⟨(by simp only [andF, if_neg hc11_9, if_neg hc18_17, if_pos hc32_25]), N4, K2⟩
      · have pre30 : ∀ t, Steps p.tables e below (T23.setTop (mkF m 36 #[.val (.ref a1), .val (.ref a2), .unset] [(.ref a2)])) t → Steps p.tables e below (s₁.setTop (entryFrame m #[(.ref a1), (.ref a2)] 3)) t := fun t k => pre24 t (by
          show Steps p.tables e below (T23.setTop (mkF m 32 #[.val (.ref a1), .val (.ref a2), .unset] [(.ref w_ERROR), (.ref a1)])) _
          refine Jvm.RoadKit.acmp (g := (mkF m 32 #[.val (.ref a1), .val (.ref a2), .unset] [(.ref w_ERROR), (.ref a1)])) X23 hx rfl rfl rfl (pc0 := 32) (pc' := 35) (same := false) rfl (hb hby d2_32) rfl (decide_eq_false fun q => hc32_25 (Value.ref.inj q)) (by decide) (by decide) ?_
          show Steps p.tables e below (T23.setTop (mkF m 35 #[.val (.ref a1), .val (.ref a2), .unset] [])) _
          refine XS.aloadN X23.here hx rfl (hb hby d2_35) rfl rfl ?_
          exact k)
        obtain ⟨T31, X31, e31, st31⟩ := getS2 X23 hx hZ2 hown2 (host := "") (Or.inl (hw _ (List.mem_of_getElem? (i := 38) rfl))) Via.refl e23 (Sta.ext O2 S_ERROR) (g := (mkF m 36 #[.val (.ref a1), .val (.ref a2), .unset] [(.ref a2)])) rfl (hb hby d2_36)
        have pre32 : ∀ t, Steps p.tables e below (T31.setTop (mkF m 39 #[.val (.ref a1), .val (.ref a2), .unset] [(.ref w_ERROR), (.ref a2)])) t → Steps p.tables e below (s₁.setTop (entryFrame m #[(.ref a1), (.ref a2)] 3)) t := fun t k => pre30 t (st31 t k)
        by_cases hc39_33 : a2 = w_ERROR
        · have pre34 : ∀ t, Steps p.tables e below (T31.setTop (mkF m 42 #[.val (.ref a1), .val (.ref a2), .unset] [])) t → Steps p.tables e below (s₁.setTop (entryFrame m #[(.ref a1), (.ref a2)] 3)) t := fun t k => pre32 t (by
            show Steps p.tables e below (T31.setTop (mkF m 39 #[.val (.ref a1), .val (.ref a2), .unset] [(.ref w_ERROR), (.ref a2)])) _
            refine Jvm.RoadKit.acmp (g := (mkF m 39 #[.val (.ref a1), .val (.ref a2), .unset] [(.ref w_ERROR), (.ref a2)])) X31 hx rfl rfl rfl (pc0 := 39) (pc' := 42) (same := true) rfl (hb hby d2_39) rfl (decide_eq_true (congrArg Value.ref hc39_33)) (by decide) (by decide) ?_
            exact k)
          obtain ⟨T35, X35, e35, st35⟩ := getS2 X31 hx hZ2 hown2 (host := "") (Or.inl (hw _ (List.mem_of_getElem? (i := 38) rfl))) Via.refl e31 (Sta.ext O2 S_ERROR) (g := (mkF m 42 #[.val (.ref a1), .val (.ref a2), .unset] [])) rfl (hb hby d2_42)
          have pre36 : ∀ t, Steps p.tables e below (T35.setTop (mkF m 45 #[.val (.ref a1), .val (.ref a2), .unset] [(.ref w_ERROR)])) t → Steps p.tables e below (s₁.setTop (entryFrame m #[(.ref a1), (.ref a2)] 3)) t := fun t k => pre34 t (st35 t k)
          have pre37 : ∀ t, Steps p.tables e below (T35.setTop (mkF m 75 #[.val (.ref a1), .val (.ref a2), .val (.ref w_ERROR)] [(.ref w_ERROR)])) t → Steps p.tables e below (s₁.setTop (entryFrame m #[(.ref a1), (.ref a2)] 3)) t := fun t k => pre36 t (by
            show Steps p.tables e below (T35.setTop (mkF m 45 #[.val (.ref a1), .val (.ref a2), .unset] [(.ref w_ERROR)])) _
            refine XS.astoreN X35.here hx rfl (hb hby d2_45) rfl rfl (l' := #[.val (.ref a1), .val (.ref a2), .val (.ref w_ERROR)]) rfl ?_
            show Steps p.tables e below (T35.setTop (mkF m 46 #[.val (.ref a1), .val (.ref a2), .val (.ref w_ERROR)] [])) _
            refine XS.goto X35.here hx rfl (pc0 := 46) (pc' := 74) rfl (hb hby d2_46) (by decide) (by decide) ?_
            show Steps p.tables e below (T35.setTop (mkF m 74 #[.val (.ref a1), .val (.ref a2), .val (.ref w_ERROR)] [])) _
            refine XS.aloadN X35.here hx rfl (hb hby d2_74) rfl rfl ?_
            exact k)
          obtain ⟨fs, hr, hrun, hended, hW⟩ := Jvm.Stand.leaveW (s := s) (vm₁ := T2.vm) X35 hS2 (by rw [e35]; exact hk2) (v := some (.ref w_ERROR)) (fun h => by rw [Bd.returns] at h; cases h)
          refine ⟨_, _, pre37 _ ?_, hrun, hended, _, _, rfl, ?_, hW.1, hW.2.1, hW.2.2.1, hW.2.2.2.mono (by decide) (by decide)⟩
          · show Steps p.tables e below (T35.setTop (mkF m 75 #[.val (.ref a1), .val (.ref a2), .val (.ref w_ERROR)] [(.ref w_ERROR)])) _
            jvm_step X35.here [X35.here.top, hx, (hb hby d2_75), X35.method', Bd.returns, Value.isRef, FieldType.isReference]
            first | (intro acts; rw [hr _ acts rfl rfl rfl]) | rw [hr _ _ rfl rfl rfl]
            exact Steps.refl _
          · show Q_rm_and Z a1 a2 w_FALSE w_TRUE w_UNDEFINED w_ERROR h0 n0 _ T35.heap _
            rw [e35]
            exact ⟨(by simp only [andF, if_neg hc11_9, if_neg hc18_17, if_neg hc32_25, if_pos hc39_33]), N4, K2⟩
        · have pre38 : ∀ t, Steps p.tables e below (T31.setTop (mkF m 50 #[.val (.ref a1), .val (.ref a2), .unset] [(.ref a1)])) t → Steps p.tables e below (s₁.setTop (entryFrame m #[(.ref a1), (.ref a2)] 3)) t := fun t k => pre32 t (by
            show Steps p.tables e below (T31.setTop (mkF m 39 #[.val (.ref a1), .val (.ref a2), .unset] [(.ref w_ERROR), (.ref a2)])) _
            refine Jvm.RoadKit.acmp (g := (mkF m 39 #[.val (.ref a1), .val (.ref a2), .unset] [(.ref w_ERROR), (.ref a2)])) X31 hx rfl rfl rfl (pc0 := 39) (pc' := 49) (same := false) rfl (hb hby d2_39) rfl (decide_eq_false fun q => hc39_33 (Value.ref.inj q)) (by decide) (by decide) ?_
            show Steps p.tables e below (T31.setTop (mkF m 49 #[.val (.ref a1), .val (.ref a2), .unset] [])) _
            refine XS.aloadN X31.here hx rfl (hb hby d2_49) rfl rfl ?_
            exact k)
          obtain ⟨T39, X39, e39, st39⟩ := getS2 X31 hx hZ2 hown2 (host := "") (Or.inl (hw _ (List.mem_of_getElem? (i := 39) rfl))) Via.refl e31 (Sta.ext O2 S_UNDEFINED) (g := (mkF m 50 #[.val (.ref a1), .val (.ref a2), .unset] [(.ref a1)])) rfl (hb hby d2_50)
          have pre40 : ∀ t, Steps p.tables e below (T39.setTop (mkF m 53 #[.val (.ref a1), .val (.ref a2), .unset] [(.ref w_UNDEFINED), (.ref a1)])) t → Steps p.tables e below (s₁.setTop (entryFrame m #[(.ref a1), (.ref a2)] 3)) t := fun t k => pre38 t (st39 t k)
          by_cases hc53_41 : a1 = w_UNDEFINED
          · have pre42 : ∀ t, Steps p.tables e below (T39.setTop (mkF m 63 #[.val (.ref a1), .val (.ref a2), .unset] [])) t → Steps p.tables e below (s₁.setTop (entryFrame m #[(.ref a1), (.ref a2)] 3)) t := fun t k => pre40 t (by
              show Steps p.tables e below (T39.setTop (mkF m 53 #[.val (.ref a1), .val (.ref a2), .unset] [(.ref w_UNDEFINED), (.ref a1)])) _
              refine Jvm.RoadKit.acmp (g := (mkF m 53 #[.val (.ref a1), .val (.ref a2), .unset] [(.ref w_UNDEFINED), (.ref a1)])) X39 hx rfl rfl rfl (pc0 := 53) (pc' := 63) (same := true) rfl (hb hby d2_53) rfl (decide_eq_true (congrArg Value.ref hc53_41)) (by decide) (by decide) ?_
              exact k)
            obtain ⟨T43, X43, e43, st43⟩ := getS2 X39 hx hZ2 hown2 (host := "") (Or.inl (hw _ (List.mem_of_getElem? (i := 39) rfl))) Via.refl e39 (Sta.ext O2 S_UNDEFINED) (g := (mkF m 63 #[.val (.ref a1), .val (.ref a2), .unset] [])) rfl (hb hby d2_63)
            have pre44 : ∀ t, Steps p.tables e below (T43.setTop (mkF m 66 #[.val (.ref a1), .val (.ref a2), .unset] [(.ref w_UNDEFINED)])) t → Steps p.tables e below (s₁.setTop (entryFrame m #[(.ref a1), (.ref a2)] 3)) t := fun t k => pre42 t (st43 t k)
            have pre45 : ∀ t, Steps p.tables e below (T43.setTop (mkF m 75 #[.val (.ref a1), .val (.ref a2), .val (.ref w_UNDEFINED)] [(.ref w_UNDEFINED)])) t → Steps p.tables e below (s₁.setTop (entryFrame m #[(.ref a1), (.ref a2)] 3)) t := fun t k => pre44 t (by
              show Steps p.tables e below (T43.setTop (mkF m 66 #[.val (.ref a1), .val (.ref a2), .unset] [(.ref w_UNDEFINED)])) _
              refine XS.astoreN X43.here hx rfl (hb hby d2_66) rfl rfl (l' := #[.val (.ref a1), .val (.ref a2), .val (.ref w_UNDEFINED)]) rfl ?_
              show Steps p.tables e below (T43.setTop (mkF m 67 #[.val (.ref a1), .val (.ref a2), .val (.ref w_UNDEFINED)] [])) _
              refine XS.goto X43.here hx rfl (pc0 := 67) (pc' := 74) rfl (hb hby d2_67) (by decide) (by decide) ?_
              show Steps p.tables e below (T43.setTop (mkF m 74 #[.val (.ref a1), .val (.ref a2), .val (.ref w_UNDEFINED)] [])) _
              refine XS.aloadN X43.here hx rfl (hb hby d2_74) rfl rfl ?_
              exact k)
            obtain ⟨fs, hr, hrun, hended, hW⟩ := Jvm.Stand.leaveW (s := s) (vm₁ := T2.vm) X43 hS2 (by rw [e43]; exact hk2) (v := some (.ref w_UNDEFINED)) (fun h => by rw [Bd.returns] at h; cases h)
            refine ⟨_, _, pre45 _ ?_, hrun, hended, _, _, rfl, ?_, hW.1, hW.2.1, hW.2.2.1, hW.2.2.2.mono (by decide) (by decide)⟩
            · show Steps p.tables e below (T43.setTop (mkF m 75 #[.val (.ref a1), .val (.ref a2), .val (.ref w_UNDEFINED)] [(.ref w_UNDEFINED)])) _
              jvm_step X43.here [X43.here.top, hx, (hb hby d2_75), X43.method', Bd.returns, Value.isRef, FieldType.isReference]
              first | (intro acts; rw [hr _ acts rfl rfl rfl]) | rw [hr _ _ rfl rfl rfl]
              exact Steps.refl _
            · show Q_rm_and Z a1 a2 w_FALSE w_TRUE w_UNDEFINED w_ERROR h0 n0 _ T43.heap _
              rw [e43]
              exact ⟨(by simp only [andF, if_neg hc11_9, if_neg hc18_17, if_neg hc32_25, if_neg hc39_33, if_pos hc53_41]), N4, K2⟩
          · have pre46 : ∀ t, Steps p.tables e below (T39.setTop (mkF m 57 #[.val (.ref a1), .val (.ref a2), .unset] [(.ref a2)])) t → Steps p.tables e below (s₁.setTop (entryFrame m #[(.ref a1), (.ref a2)] 3)) t := fun t k => pre40 t (by
              show Steps p.tables e below (T39.setTop (mkF m 53 #[.val (.ref a1), .val (.ref a2), .unset] [(.ref w_UNDEFINED), (.ref a1)])) _
              refine Jvm.RoadKit.acmp (g := (mkF m 53 #[.val (.ref a1), .val (.ref a2), .unset] [(.ref w_UNDEFINED), (.ref a1)])) X39 hx rfl rfl rfl (pc0 := 53) (pc' := 56) (same := false) rfl (hb hby d2_53) rfl (decide_eq_false fun q => hc53_41 (Value.ref.inj q)) (by decide) (by decide) ?_
              show Steps p.tables e below (T39.setTop (mkF m 56 #[.val (.ref a1), .val (.ref a2), .unset] [])) _
              refine XS.aloadN X39.here hx rfl (hb hby d2_56) rfl rfl ?_
              exact k)
            obtain ⟨T47, X47, e47, st47⟩ := getS2 X39 hx hZ2 hown2 (host := "") (Or.inl (hw _ (List.mem_of_getElem? (i := 39) rfl))) Via.refl e39 (Sta.ext O2 S_UNDEFINED) (g := (mkF m 57 #[.val (.ref a1), .val (.ref a2), .unset] [(.ref a2)])) rfl (hb hby d2_57)
            have pre48 : ∀ t, Steps p.tables e below (T47.setTop (mkF m 60 #[.val (.ref a1), .val (.ref a2), .unset] [(.ref w_UNDEFINED), (.ref a2)])) t → Steps p.tables e below (s₁.setTop (entryFrame m #[(.ref a1), (.ref a2)] 3)) t := fun t k => pre46 t (st47 t k)
            by_cases hc60_49 : a2 = w_UNDEFINED
            · have pre50 : ∀ t, Steps p.tables e below (T47.setTop (mkF m 63 #[.val (.ref a1), .val (.ref a2), .unset] [])) t → Steps p.tables e below (s₁.setTop (entryFrame m #[(.ref a1), (.ref a2)] 3)) t := fun t k => pre48 t (by
                show Steps p.tables e below (T47.setTop (mkF m 60 #[.val (.ref a1), .val (.ref a2), .unset] [(.ref w_UNDEFINED), (.ref a2)])) _
                refine Jvm.RoadKit.acmp (g := (mkF m 60 #[.val (.ref a1), .val (.ref a2), .unset] [(.ref w_UNDEFINED), (.ref a2)])) X47 hx rfl rfl rfl (pc0 := 60) (pc' := 63) (same := true) rfl (hb hby d2_60) rfl (decide_eq_true (congrArg Value.ref hc60_49)) (by decide) (by decide) ?_
                exact k)
              obtain ⟨T51, X51, e51, st51⟩ := getS2 X47 hx hZ2 hown2 (host := "") (Or.inl (hw _ (List.mem_of_getElem? (i := 39) rfl))) Via.refl e47 (Sta.ext O2 S_UNDEFINED) (g := (mkF m 63 #[.val (.ref a1), .val (.ref a2), .unset] [])) rfl (hb hby d2_63)
              have pre52 : ∀ t, Steps p.tables e below (T51.setTop (mkF m 66 #[.val (.ref a1), .val (.ref a2), .unset] [(.ref w_UNDEFINED)])) t → Steps p.tables e below (s₁.setTop (entryFrame m #[(.ref a1), (.ref a2)] 3)) t := fun t k => pre50 t (st51 t k)
              have pre53 : ∀ t, Steps p.tables e below (T51.setTop (mkF m 75 #[.val (.ref a1), .val (.ref a2), .val (.ref w_UNDEFINED)] [(.ref w_UNDEFINED)])) t → Steps p.tables e below (s₁.setTop (entryFrame m #[(.ref a1), (.ref a2)] 3)) t := fun t k => pre52 t (by
                show Steps p.tables e below (T51.setTop (mkF m 66 #[.val (.ref a1), .val (.ref a2), .unset] [(.ref w_UNDEFINED)])) _
                refine XS.astoreN X51.here hx rfl (hb hby d2_66) rfl rfl (l' := #[.val (.ref a1), .val (.ref a2), .val (.ref w_UNDEFINED)]) rfl ?_
                show Steps p.tables e below (T51.setTop (mkF m 67 #[.val (.ref a1), .val (.ref a2), .val (.ref w_UNDEFINED)] [])) _
                refine XS.goto X51.here hx rfl (pc0 := 67) (pc' := 74) rfl (hb hby d2_67) (by decide) (by decide) ?_
                show Steps p.tables e below (T51.setTop (mkF m 74 #[.val (.ref a1), .val (.ref a2), .val (.ref w_UNDEFINED)] [])) _
                refine XS.aloadN X51.here hx rfl (hb hby d2_74) rfl rfl ?_
                exact k)
              obtain ⟨fs, hr, hrun, hended, hW⟩ := Jvm.Stand.leaveW (s := s) (vm₁ := T2.vm) X51 hS2 (by rw [e51]; exact hk2) (v := some (.ref w_UNDEFINED)) (fun h => by rw [Bd.returns] at h; cases h)
              refine ⟨_, _, pre53 _ ?_, hrun, hended, _, _, rfl, ?_, hW.1, hW.2.1, hW.2.2.1, hW.2.2.2.mono (by decide) (by decide)⟩
              · show Steps p.tables e below (T51.setTop (mkF m 75 #[.val (.ref a1), .val (.ref a2), .val (.ref w_UNDEFINED)] [(.ref w_UNDEFINED)])) _
                jvm_step X51.here [X51.here.top, hx, (hb hby d2_75), X51.method', Bd.returns, Value.isRef, FieldType.isReference]
                first | (intro acts; rw [hr _ acts rfl rfl rfl]) | rw [hr _ _ rfl rfl rfl]
                exact Steps.refl _
              · show Q_rm_and Z a1 a2 w_FALSE w_TRUE w_UNDEFINED w_ERROR h0 n0 _ T51.heap _
                rw [e51]
                exact ⟨(by simp only [andF, if_neg hc11_9, if_neg hc18_17, if_neg hc32_25, if_neg hc39_33, if_neg hc53_41, if_pos hc60_49]), N4, K2⟩
            · have pre54 : ∀ t, Steps p.tables e below (T47.setTop (mkF m 70 #[.val (.ref a1), .val (.ref a2), .unset] [])) t → Steps p.tables e below (s₁.setTop (entryFrame m #[(.ref a1), (.ref a2)] 3)) t := fun t k => pre48 t (by
                show Steps p.tables e below (T47.setTop (mkF m 60 #[.val (.ref a1), .val (.ref a2), .unset] [(.ref w_UNDEFINED), (.ref a2)])) _
                refine Jvm.RoadKit.acmp (g := (mkF m 60 #[.val (.ref a1), .val (.ref a2), .unset] [(.ref w_UNDEFINED), (.ref a2)])) X47 hx rfl rfl rfl (pc0 := 60) (pc' := 70) (same := false) rfl (hb hby d2_60) rfl (decide_eq_false fun q => hc60_49 (Value.ref.inj q)) (by decide) (by decide) ?_
                exact k)
              obtain ⟨T55, X55, e55, st55⟩ := getS2 X47 hx hZ2 hown2 (host := "") (Or.inl (hw _ (List.mem_of_getElem? (i := 40) rfl))) Via.refl e47 (Sta.ext O2 S_TRUE) (g := (mkF m 70 #[.val (.ref a1), .val (.ref a2), .unset] [])) rfl (hb hby d2_70)
              have pre56 : ∀ t, Steps p.tables e below (T55.setTop (mkF m 73 #[.val (.ref a1), .val (.ref a2), .unset] [(.ref w_TRUE)])) t → Steps p.tables e below (s₁.setTop (entryFrame m #[(.ref a1), (.ref a2)] 3)) t := fun t k => pre54 t (st55 t k)
              have pre57 : ∀ t, Steps p.tables e below (T55.setTop (mkF m 75 #[.val (.ref a1), .val (.ref a2), .val (.ref w_TRUE)] [(.ref w_TRUE)])) t → Steps p.tables e below (s₁.setTop (entryFrame m #[(.ref a1), (.ref a2)] 3)) t := fun t k => pre56 t (by
                show Steps p.tables e below (T55.setTop (mkF m 73 #[.val (.ref a1), .val (.ref a2), .unset] [(.ref w_TRUE)])) _
                refine XS.astoreN X55.here hx rfl (hb hby d2_73) rfl rfl (l' := #[.val (.ref a1), .val (.ref a2), .val (.ref w_TRUE)]) rfl ?_
                show Steps p.tables e below (T55.setTop (mkF m 74 #[.val (.ref a1), .val (.ref a2), .val (.ref w_TRUE)] [])) _
                refine XS.aloadN X55.here hx rfl (hb hby d2_74) rfl rfl ?_
                exact k)
              obtain ⟨fs, hr, hrun, hended, hW⟩ := Jvm.Stand.leaveW (s := s) (vm₁ := T2.vm) X55 hS2 (by rw [e55]; exact hk2) (v := some (.ref w_TRUE)) (fun h => by rw [Bd.returns] at h; cases h)
              refine ⟨_, _, pre57 _ ?_, hrun, hended, _, _, rfl, ?_, hW.1, hW.2.1, hW.2.2.1, hW.2.2.2.mono (by decide) (by decide)⟩
              · show Steps p.tables e below (T55.setTop (mkF m 75 #[.val (.ref a1), .val (.ref a2), .val (.ref w_TRUE)] [(.ref w_TRUE)])) _
                jvm_step X55.here [X55.here.top, hx, (hb hby d2_75), X55.method', Bd.returns, Value.isRef, FieldType.isReference]
                first | (intro acts; rw [hr _ acts rfl rfl rfl]) | rw [hr _ _ rfl rfl rfl]
                exact Steps.refl _
              · show Q_rm_and Z a1 a2 w_FALSE w_TRUE w_UNDEFINED w_ERROR h0 n0 _ T55.heap _
                rw [e55]
                exact ⟨(by simp only [andF, if_neg hc11_9, if_neg hc18_17, if_neg hc32_25, if_neg hc39_33, if_neg hc53_41, if_neg hc60_49]), N4, K2⟩
theorem ef_0 (m : MethodId) (x0 : Int32) (x1 : Int32) : entryFrame m #[(.int x0), (.int x1)] maxLocals = mkF m 0 #[.val (.int x0), .val (.int x1), .unset, .unset, .unset, .unset, .unset] [] := by first | (simp [entryFrame, mkF, argsToLocals, Value.category, maxLocals]; done) | rfl
theorem pd_1 : parseMethodDescriptor "(I)Lcom/example/usage_verdict/usageverdict/engine/Truth;" = some ⟨[.int], some (.object "com/example/usage_verdict/usageverdict/engine/Truth")⟩ := by decide +kernel
theorem pd_2 : parseMethodDescriptor "(Lcom/example/usage_verdict/usageverdict/engine/Truth;)Lcom/example/usage_verdict/usageverdict/engine/Truth;" = some ⟨[(.object "com/example/usage_verdict/usageverdict/engine/Truth")], some (.object "com/example/usage_verdict/usageverdict/engine/Truth")⟩ := by decide +kernel
theorem pd_3 : parseMethodDescriptor "(Lcom/example/usage_verdict/usageverdict/engine/Truth;)I" = some ⟨[(.object "com/example/usage_verdict/usageverdict/engine/Truth")], some .int⟩ := by decide +kernel
theorem pd_4 : parseMethodDescriptor "(II)I" = some ⟨[.int, .int], some .int⟩ := by decide +kernel
def Q_rm_law (Z : State) (p1 : Int32) (p2 : Int32) (w_FALSE w_TRUE w_UNDEFINED w_ERROR : Addr) (h0 : Heap) (n0 : Nat) (v : Option Value) (h : Heap) (L : List Loc) : Prop := v = some (.int (1 : Int32)) ∧ Fr n0 L
set_option maxRecDepth 65536 in
set_option maxHeartbeats 40000000 in
theorem rm_law (l : Launch) (Z : State) (a0 : Array Value) (hw : ∀ d ∈ tables_1, d.before a0 Z = true) (ws : List Jvm.Cond) (p1 : Int32) (p2 : Int32) (w_FALSE w_TRUE w_UNDEFINED w_ERROR : Addr) (h0 : Heap) (n0 : Nat) (Z0 : n0 ≤ h0.size) (O0 : Ext Z.heap h0) (P : Pins Z w_FALSE w_TRUE w_UNDEFINED w_ERROR) :
    MetFree l x (head1 (Jvm.Cond.code x code maxLocals ret :: ws) room_1) (fun a U => a = #[(.int p1), (.int p2)] ∧ Z.Warmed39 U.vm ∧ U.heap = h0) (fun _ _ _ _ _ => True) (fun _ U o U' => ∃ v L, o = .returned v ∧ Q_rm_law Z p1 p2 w_FALSE w_TRUE w_UNDEFINED w_ERROR h0 n0 v U'.heap L ∧ ReturnedEndW U o U' L room_1.cells room_1.slots) := by
  refine MetFree.of_bodySF (plainFor_of_name pn_com_example_usage_verdict_usageverdict_engine_TruthAndPinLaw) hisR ?_
  intro p e s m args below meth c s₁ Bd hml0 hP hK
  obtain ⟨rfl, hZ, hh⟩ := hP
  have hx := Bd.exec
  have hby := Bd.bytes
  have hml : c.maxLocals = 7 := hml0
  have hown : s.vm.findClass "com/example/usage_verdict/usageverdict/engine/TruthAndPinLaw" = some m.cls := findClass_of_methodNamed Bd.named
  have hnm := (name_of_methodNamed Bd.named Bd.method).1
  have X0 : Stand p l e room_1 s m #[(.int p1), (.int p2)] below meth c s₁ [] 0 0 := Stand.of_body Bd
  have e0 : s₁.heap = h0 := by rw [← hh, Bd.state]; rfl
  have N0 := Fr.nil n0
  have pre0 : ∀ t, Steps p.tables e below (s₁.setTop (mkF m 0 #[.val (.int p1), .val (.int p2), .unset, .unset, .unset, .unset, .unset] [])) t → Steps p.tables e below (s₁.setTop (entryFrame m #[(.int p1), (.int p2)] maxLocals)) t := fun t k => castTop (ef_0 m p1 p2) k
  have wS : ∀ d ∈ Bundle.stringAtoms, d.before a0 Z = true := by
    intro d hd
    simp only [Bundle.stringAtoms, List.mem_cons, List.not_mem_nil, or_false] at hd
    rcases hd with rfl | rfl | rfl | rfl | rfl | rfl | rfl
    · exact (hw _ (List.mem_of_getElem? (i := 15) rfl))
    · exact (hw _ (List.mem_of_getElem? (i := 16) rfl))
    · exact (hw _ (List.mem_of_getElem? (i := 17) rfl))
    · exact (hw _ (List.mem_of_getElem? (i := 18) rfl))
    · exact (hw _ (List.mem_of_getElem? (i := 19) rfl))
    · exact (hw _ (List.mem_of_getElem? (i := 20) rfl))
    · exact (hw _ (List.mem_of_getElem? (i := 21) rfl))
  have P' := P
  obtain ⟨S_FALSE, S_TRUE, S_UNDEFINED, S_ERROR, E_FALSE, E_TRUE, E_UNDEFINED, E_ERROR, F_ordinal_UNDEFINED, F_ordinal_FALSE, F_ordinal_ERROR, F_ordinal_TRUE⟩ := P
  have pre1 : ∀ t, Steps p.tables e below (s₁.setTop (mkF m 9 #[.val (.int p1), .val (.int p2), .val (.int (p1 &&& (3 : Int32))), .val (.int (p2 &&& (3 : Int32))), .unset, .unset, .unset] [(.int (p1 &&& (3 : Int32)))])) t → Steps p.tables e below (s₁.setTop (entryFrame m #[(.int p1), (.int p2)] maxLocals)) t := fun t k => pre0 t (by
    show Steps p.tables e below (s₁.setTop (mkF m 0 #[.val (.int p1), .val (.int p2), .unset, .unset, .unset, .unset, .unset] [])) _
    refine XS.iloadN X0.here hx rfl (hb hby at_0) rfl ?_
    show Steps p.tables e below (s₁.setTop (mkF m 1 #[.val (.int p1), .val (.int p2), .unset, .unset, .unset, .unset, .unset] [(.int p1)])) _
    refine XS.iconst X0.here hx rfl (hb hby at_1) ?_
    show Steps p.tables e below (s₁.setTop (mkF m 2 #[.val (.int p1), .val (.int p2), .unset, .unset, .unset, .unset, .unset] [(.int (3 : Int32)), (.int p1)])) _
    refine XS.iand X0.here hx rfl (hb hby at_2) rfl ?_
    show Steps p.tables e below (s₁.setTop (mkF m 3 #[.val (.int p1), .val (.int p2), .unset, .unset, .unset, .unset, .unset] [(.int (p1 &&& (3 : Int32)))])) _
    refine XS.istoreN X0.here hx rfl (hb hby at_3) rfl (l' := #[.val (.int p1), .val (.int p2), .val (.int (p1 &&& (3 : Int32))), .unset, .unset, .unset, .unset]) rfl ?_
    show Steps p.tables e below (s₁.setTop (mkF m 4 #[.val (.int p1), .val (.int p2), .val (.int (p1 &&& (3 : Int32))), .unset, .unset, .unset, .unset] [])) _
    refine XS.iloadN X0.here hx rfl (hb hby at_4) rfl ?_
    show Steps p.tables e below (s₁.setTop (mkF m 5 #[.val (.int p1), .val (.int p2), .val (.int (p1 &&& (3 : Int32))), .unset, .unset, .unset, .unset] [(.int p2)])) _
    refine XS.iconst X0.here hx rfl (hb hby at_5) ?_
    show Steps p.tables e below (s₁.setTop (mkF m 6 #[.val (.int p1), .val (.int p2), .val (.int (p1 &&& (3 : Int32))), .unset, .unset, .unset, .unset] [(.int (3 : Int32)), (.int p2)])) _
    refine XS.iand X0.here hx rfl (hb hby at_6) rfl ?_
    show Steps p.tables e below (s₁.setTop (mkF m 7 #[.val (.int p1), .val (.int p2), .val (.int (p1 &&& (3 : Int32))), .unset, .unset, .unset, .unset] [(.int (p2 &&& (3 : Int32)))])) _
    refine XS.istoreN X0.here hx rfl (hb hby at_7) rfl (l' := #[.val (.int p1), .val (.int p2), .val (.int (p1 &&& (3 : Int32))), .val (.int (p2 &&& (3 : Int32))), .unset, .unset, .unset]) rfl ?_
    show Steps p.tables e below (s₁.setTop (mkF m 8 #[.val (.int p1), .val (.int p2), .val (.int (p1 &&& (3 : Int32))), .val (.int (p2 &&& (3 : Int32))), .unset, .unset, .unset] [])) _
    refine XS.iloadN X0.here hx rfl (hb hby at_8) rfl ?_
    exact k)
  obtain ⟨_, _, ⟨T2, L2, k2, n2⟩, -, X2, ⟨Lc2, hQ2, l2, y2, z2⟩, st2⟩ := Jvm.LawKit.callS X0 hx (y := (⟨"com/example/usage_verdict/usageverdict/engine/TruthAndPinLaw", "fromRank", "(I)Lcom/example/usage_verdict/usageverdict/engine/Truth;"⟩ : MethodName)) hown (mvT hZ (hw _ (List.mem_of_getElem? (i := 0) rfl))) (mvT hZ (hw _ (List.mem_of_getElem? (i := 1) rfl))) (mvT hZ (hw _ (List.mem_of_getElem? (i := 2) rfl))) (mvT hZ (hw _ (List.mem_of_getElem? (i := 3) rfl))) (by decide) (backOf (W := 0) (rm_fr l Z a0 hw [] (p1 &&& (3 : Int32)) w_FALSE w_TRUE w_UNDEFINED w_ERROR h0 n0 Z0 O0 P') hZ (hw _ (List.mem_of_getElem? (i := 3) rfl)) (hw _ (List.mem_of_getElem? (i := 2) rfl)) (by decide) (by decide)) (g := (mkF m 9 #[.val (.int p1), .val (.int p2), .val (.int (p1 &&& (3 : Int32))), .val (.int (p2 &&& (3 : Int32))), .unset, .unset, .unset] [(.int (p1 &&& (3 : Int32)))])) rfl (by rw [hml]; rfl) (argsL := [(.int (p1 &&& (3 : Int32)))]) (rest := []) (lenOf pd_1 rfl) rfl (by show 2 * 0 + _ ≤ _; exact Nat.le_of_eq rfl) (hb hby at_9) (fun _ _ => ⟨rfl, e0, (by decide : 0 + 0 ≤ _), (by decide : 0 + 0 ≤ _)⟩)
  dsimp only [Pt.U, Pt.locs, Pt.cells, Pt.slots] at X2 l2 y2 z2 st2 hQ2
  subst l2 y2 z2
  obtain ⟨rfl, N2q, e2⟩ := hQ2
  have N2 := Fr.app N0 N2q
  have pre3 : ∀ t, Steps p.tables e below (T2.setTop (mkF m 12 #[.val (.int p1), .val (.int p2), .val (.int (p1 &&& (3 : Int32))), .val (.int (p2 &&& (3 : Int32))), .unset, .unset, .unset] [(.ref (frF (p1 &&& (3 : Int32)) w_FALSE w_TRUE w_UNDEFINED w_ERROR))])) t → Steps p.tables e below (s₁.setTop (entryFrame m #[(.int p1), (.int p2)] maxLocals)) t := fun t k => pre1 t (st2 t k)
  have pre4 : ∀ t, Steps p.tables e below (T2.setTop (mkF m 15 #[.val (.int p1), .val (.int p2), .val (.int (p1 &&& (3 : Int32))), .val (.int (p2 &&& (3 : Int32))), .val (.ref (frF (p1 &&& (3 : Int32)) w_FALSE w_TRUE w_UNDEFINED w_ERROR)), .unset, .unset] [(.int (p2 &&& (3 : Int32)))])) t → Steps p.tables e below (s₁.setTop (entryFrame m #[(.int p1), (.int p2)] maxLocals)) t := fun t k => pre3 t (by
    show Steps p.tables e below (T2.setTop (mkF m 12 #[.val (.int p1), .val (.int p2), .val (.int (p1 &&& (3 : Int32))), .val (.int (p2 &&& (3 : Int32))), .unset, .unset, .unset] [(.ref (frF (p1 &&& (3 : Int32)) w_FALSE w_TRUE w_UNDEFINED w_ERROR))])) _
    refine XS.astore X2.here hx rfl (hb hby at_12) rfl rfl (l' := #[.val (.int p1), .val (.int p2), .val (.int (p1 &&& (3 : Int32))), .val (.int (p2 &&& (3 : Int32))), .val (.ref (frF (p1 &&& (3 : Int32)) w_FALSE w_TRUE w_UNDEFINED w_ERROR)), .unset, .unset]) rfl ?_
    show Steps p.tables e below (T2.setTop (mkF m 14 #[.val (.int p1), .val (.int p2), .val (.int (p1 &&& (3 : Int32))), .val (.int (p2 &&& (3 : Int32))), .val (.ref (frF (p1 &&& (3 : Int32)) w_FALSE w_TRUE w_UNDEFINED w_ERROR)), .unset, .unset] [])) _
    refine XS.iloadN X2.here hx rfl (hb hby at_14) rfl ?_
    exact k)
  obtain ⟨_, _, ⟨T5, L5, k5, n5⟩, -, X5, ⟨Lc5, hQ5, l5, y5, z5⟩, st5⟩ := Jvm.LawKit.callS X2 hx (y := (⟨"com/example/usage_verdict/usageverdict/engine/TruthAndPinLaw", "fromRank", "(I)Lcom/example/usage_verdict/usageverdict/engine/Truth;"⟩ : MethodName)) hown (mvT hZ (hw _ (List.mem_of_getElem? (i := 0) rfl))) (mvT hZ (hw _ (List.mem_of_getElem? (i := 1) rfl))) (mvT hZ (hw _ (List.mem_of_getElem? (i := 2) rfl))) (mvT hZ (hw _ (List.mem_of_getElem? (i := 3) rfl))) (by decide) (backOf (W := 0) (rm_fr l Z a0 hw [] (p2 &&& (3 : Int32)) w_FALSE w_TRUE w_UNDEFINED w_ERROR h0 n0 Z0 O0 P') hZ (hw _ (List.mem_of_getElem? (i := 3) rfl)) (hw _ (List.mem_of_getElem? (i := 2) rfl)) (by decide) (by decide)) (g := (mkF m 15 #[.val (.int p1), .val (.int p2), .val (.int (p1 &&& (3 : Int32))), .val (.int (p2 &&& (3 : Int32))), .val (.ref (frF (p1 &&& (3 : Int32)) w_FALSE w_TRUE w_UNDEFINED w_ERROR)), .unset, .unset] [(.int (p2 &&& (3 : Int32)))])) rfl (by rw [hml]; rfl) (argsL := [(.int (p2 &&& (3 : Int32)))]) (rest := []) (lenOf pd_1 rfl) rfl (by show 2 * 0 + _ ≤ _; exact Nat.le_of_eq rfl) (hb hby at_15) (fun _ _ => ⟨rfl, e2, (by decide : 0 + 0 ≤ _), (by decide : 0 + 0 ≤ _)⟩)
  dsimp only [Pt.U, Pt.locs, Pt.cells, Pt.slots] at X5 l5 y5 z5 st5 hQ5
  subst l5 y5 z5
  obtain ⟨rfl, N5q, e5⟩ := hQ5
  have N5 := Fr.app N2 N5q
  have pre6 : ∀ t, Steps p.tables e below (T5.setTop (mkF m 18 #[.val (.int p1), .val (.int p2), .val (.int (p1 &&& (3 : Int32))), .val (.int (p2 &&& (3 : Int32))), .val (.ref (frF (p1 &&& (3 : Int32)) w_FALSE w_TRUE w_UNDEFINED w_ERROR)), .unset, .unset] [(.ref (frF (p2 &&& (3 : Int32)) w_FALSE w_TRUE w_UNDEFINED w_ERROR))])) t → Steps p.tables e below (s₁.setTop (entryFrame m #[(.int p1), (.int p2)] maxLocals)) t := fun t k => pre4 t (st5 t k)
  have pre7 : ∀ t, Steps p.tables e below (T5.setTop (mkF m 24 #[.val (.int p1), .val (.int p2), .val (.int (p1 &&& (3 : Int32))), .val (.int (p2 &&& (3 : Int32))), .val (.ref (frF (p1 &&& (3 : Int32)) w_FALSE w_TRUE w_UNDEFINED w_ERROR)), .val (.ref (frF (p2 &&& (3 : Int32)) w_FALSE w_TRUE w_UNDEFINED w_ERROR)), .unset] [(.ref (frF (p2 &&& (3 : Int32)) w_FALSE w_TRUE w_UNDEFINED w_ERROR)), (.ref (frF (p1 &&& (3 : Int32)) w_FALSE w_TRUE w_UNDEFINED w_ERROR))])) t → Steps p.tables e below (s₁.setTop (entryFrame m #[(.int p1), (.int p2)] maxLocals)) t := fun t k => pre6 t (by
    show Steps p.tables e below (T5.setTop (mkF m 18 #[.val (.int p1), .val (.int p2), .val (.int (p1 &&& (3 : Int32))), .val (.int (p2 &&& (3 : Int32))), .val (.ref (frF (p1 &&& (3 : Int32)) w_FALSE w_TRUE w_UNDEFINED w_ERROR)), .unset, .unset] [(.ref (frF (p2 &&& (3 : Int32)) w_FALSE w_TRUE w_UNDEFINED w_ERROR))])) _
    refine XS.astore X5.here hx rfl (hb hby at_18) rfl rfl (l' := #[.val (.int p1), .val (.int p2), .val (.int (p1 &&& (3 : Int32))), .val (.int (p2 &&& (3 : Int32))), .val (.ref (frF (p1 &&& (3 : Int32)) w_FALSE w_TRUE w_UNDEFINED w_ERROR)), .val (.ref (frF (p2 &&& (3 : Int32)) w_FALSE w_TRUE w_UNDEFINED w_ERROR)), .unset]) rfl ?_
    show Steps p.tables e below (T5.setTop (mkF m 20 #[.val (.int p1), .val (.int p2), .val (.int (p1 &&& (3 : Int32))), .val (.int (p2 &&& (3 : Int32))), .val (.ref (frF (p1 &&& (3 : Int32)) w_FALSE w_TRUE w_UNDEFINED w_ERROR)), .val (.ref (frF (p2 &&& (3 : Int32)) w_FALSE w_TRUE w_UNDEFINED w_ERROR)), .unset] [])) _
    refine XS.aload X5.here hx rfl (hb hby at_20) rfl rfl ?_
    show Steps p.tables e below (T5.setTop (mkF m 22 #[.val (.int p1), .val (.int p2), .val (.int (p1 &&& (3 : Int32))), .val (.int (p2 &&& (3 : Int32))), .val (.ref (frF (p1 &&& (3 : Int32)) w_FALSE w_TRUE w_UNDEFINED w_ERROR)), .val (.ref (frF (p2 &&& (3 : Int32)) w_FALSE w_TRUE w_UNDEFINED w_ERROR)), .unset] [(.ref (frF (p1 &&& (3 : Int32)) w_FALSE w_TRUE w_UNDEFINED w_ERROR))])) _
    refine XS.aload X5.here hx rfl (hb hby at_22) rfl rfl ?_
    exact k)
  obtain ⟨cq8, kq8, q8a, q8b, q8c⟩ := isOf hZ e5 (Exa.ext O0 (own_exa P' _))
  obtain ⟨_, _, ⟨T8, L8, k8, n8⟩, -, X8, hs8, hgr8, ⟨Lc8, hQ8, l8, y8, z8⟩, st8⟩ := X5.virtualBackS hx (y := (⟨"com/example/usage_verdict/usageverdict/engine/Truth", "and", "(Lcom/example/usage_verdict/usageverdict/engine/Truth;)Lcom/example/usage_verdict/usageverdict/engine/Truth;"⟩ : MethodName)) (z := (⟨"com/example/usage_verdict/usageverdict/engine/Truth", "and", "(Lcom/example/usage_verdict/usageverdict/engine/Truth;)Lcom/example/usage_verdict/usageverdict/engine/Truth;"⟩ : MethodName)) hown (mvT hZ (hw _ (List.mem_of_getElem? (i := 9) rfl))) (mvT hZ (hw _ (List.mem_of_getElem? (i := 10) rfl))) (notFace_of_selects (args := #[]) (mvT hZ (hw _ (List.mem_of_getElem? (i := 12) rfl)))) (mvT hZ (hw _ (List.mem_of_getElem? (i := 12) rfl))) (mvT hZ (hw _ (List.mem_of_getElem? (i := 11) rfl))) (by decide) (backOfS (W := 0) (rm_and l Z a0 hw [] (frF (p1 &&& (3 : Int32)) w_FALSE w_TRUE w_UNDEFINED w_ERROR) (frF (p2 &&& (3 : Int32)) w_FALSE w_TRUE w_UNDEFINED w_ERROR) w_FALSE w_TRUE w_UNDEFINED w_ERROR h0 n0 Z0 O0 P') hZ (hw _ (List.mem_of_getElem? (i := 13) rfl)) (hw _ (List.mem_of_getElem? (i := 5) rfl)) (by decide) (by decide)) q8a q8c (g := (mkF m 24 #[.val (.int p1), .val (.int p2), .val (.int (p1 &&& (3 : Int32))), .val (.int (p2 &&& (3 : Int32))), .val (.ref (frF (p1 &&& (3 : Int32)) w_FALSE w_TRUE w_UNDEFINED w_ERROR)), .val (.ref (frF (p2 &&& (3 : Int32)) w_FALSE w_TRUE w_UNDEFINED w_ERROR)), .unset] [(.ref (frF (p2 &&& (3 : Int32)) w_FALSE w_TRUE w_UNDEFINED w_ERROR)), (.ref (frF (p1 &&& (3 : Int32)) w_FALSE w_TRUE w_UNDEFINED w_ERROR))])) rfl (by rw [hml]; rfl) (Steps.refl _) (argsL := [(.ref (frF (p2 &&& (3 : Int32)) w_FALSE w_TRUE w_UNDEFINED w_ERROR))]) (rest := []) (lenOf pd_2 rfl) rfl (by show 2 * 0 + _ ≤ _; exact Nat.le_of_eq rfl) (hb hby at_24) (fun _ _ => ⟨rfl, e5, (by decide : 0 + 2 ≤ _), (by decide : 0 + 24 ≤ _)⟩)
  dsimp only [Pt.U, Pt.locs, Pt.cells, Pt.slots] at X8 l8 y8 z8 st8 hQ8 hs8 hgr8
  subst l8 y8 z8
  have X8 : Stand p l e room_1 (s.setVm T8.vm) m _ below meth c T8 _ _ _ := X8
  have hS8 : s.Since T8.vm T8.heap.size := hs8
  have hZ8 : Z.Warmed39 (s.setVm T8.vm).vm := State.Warmed39.trans (t := s) hZ hs8.1
  have hown8 : (s.setVm T8.vm).vm.findClass "com/example/usage_verdict/usageverdict/engine/TruthAndPinLaw" = some m.cls := by rw [show (s.setVm T8.vm).vm = T8.vm from rfl, hs8.1.alike.findClass]; exact hown
  obtain ⟨rfl, N8q, Kq8⟩ := hQ8
  have O8 : Ext Z.heap T8.heap := own_ext_keep O0 Kq8 all0
  have K8 := (Keep.refl h0 []).trans Kq8 all0
  have Z8 : n0 ≤ T8.heap.size := Nat.le_trans Z0 Kq8.1
  have N8 := Fr.app N5 N8q
  have pre9 : ∀ t, Steps p.tables e below (T8.setTop (mkF m 27 #[.val (.int p1), .val (.int p2), .val (.int (p1 &&& (3 : Int32))), .val (.int (p2 &&& (3 : Int32))), .val (.ref (frF (p1 &&& (3 : Int32)) w_FALSE w_TRUE w_UNDEFINED w_ERROR)), .val (.ref (frF (p2 &&& (3 : Int32)) w_FALSE w_TRUE w_UNDEFINED w_ERROR)), .unset] [(.ref (andF (frF (p1 &&& (3 : Int32)) w_FALSE w_TRUE w_UNDEFINED w_ERROR) (frF (p2 &&& (3 : Int32)) w_FALSE w_TRUE w_UNDEFINED w_ERROR) w_FALSE w_TRUE w_UNDEFINED w_ERROR))])) t → Steps p.tables e below (s₁.setTop (entryFrame m #[(.int p1), (.int p2)] maxLocals)) t := fun t k => pre7 t (st8.trans k)
  have pre10 : ∀ t, Steps p.tables e below (T8.setTop (mkF m 31 #[.val (.int p1), .val (.int p2), .val (.int (p1 &&& (3 : Int32))), .val (.int (p2 &&& (3 : Int32))), .val (.ref (frF (p1 &&& (3 : Int32)) w_FALSE w_TRUE w_UNDEFINED w_ERROR)), .val (.ref (frF (p2 &&& (3 : Int32)) w_FALSE w_TRUE w_UNDEFINED w_ERROR)), .val (.ref (andF (frF (p1 &&& (3 : Int32)) w_FALSE w_TRUE w_UNDEFINED w_ERROR) (frF (p2 &&& (3 : Int32)) w_FALSE w_TRUE w_UNDEFINED w_ERROR) w_FALSE w_TRUE w_UNDEFINED w_ERROR))] [(.ref (andF (frF (p1 &&& (3 : Int32)) w_FALSE w_TRUE w_UNDEFINED w_ERROR) (frF (p2 &&& (3 : Int32)) w_FALSE w_TRUE w_UNDEFINED w_ERROR) w_FALSE w_TRUE w_UNDEFINED w_ERROR))])) t → Steps p.tables e below (s₁.setTop (entryFrame m #[(.int p1), (.int p2)] maxLocals)) t := fun t k => pre9 t (by
    show Steps p.tables e below (T8.setTop (mkF m 27 #[.val (.int p1), .val (.int p2), .val (.int (p1 &&& (3 : Int32))), .val (.int (p2 &&& (3 : Int32))), .val (.ref (frF (p1 &&& (3 : Int32)) w_FALSE w_TRUE w_UNDEFINED w_ERROR)), .val (.ref (frF (p2 &&& (3 : Int32)) w_FALSE w_TRUE w_UNDEFINED w_ERROR)), .unset] [(.ref (andF (frF (p1 &&& (3 : Int32)) w_FALSE w_TRUE w_UNDEFINED w_ERROR) (frF (p2 &&& (3 : Int32)) w_FALSE w_TRUE w_UNDEFINED w_ERROR) w_FALSE w_TRUE w_UNDEFINED w_ERROR))])) _
    refine XS.astore X8.here hx rfl (hb hby at_27) rfl rfl (l' := #[.val (.int p1), .val (.int p2), .val (.int (p1 &&& (3 : Int32))), .val (.int (p2 &&& (3 : Int32))), .val (.ref (frF (p1 &&& (3 : Int32)) w_FALSE w_TRUE w_UNDEFINED w_ERROR)), .val (.ref (frF (p2 &&& (3 : Int32)) w_FALSE w_TRUE w_UNDEFINED w_ERROR)), .val (.ref (andF (frF (p1 &&& (3 : Int32)) w_FALSE w_TRUE w_UNDEFINED w_ERROR) (frF (p2 &&& (3 : Int32)) w_FALSE w_TRUE w_UNDEFINED w_ERROR) w_FALSE w_TRUE w_UNDEFINED w_ERROR))]) rfl ?_
    show Steps p.tables e below (T8.setTop (mkF m 29 #[.val (.int p1), .val (.int p2), .val (.int (p1 &&& (3 : Int32))), .val (.int (p2 &&& (3 : Int32))), .val (.ref (frF (p1 &&& (3 : Int32)) w_FALSE w_TRUE w_UNDEFINED w_ERROR)), .val (.ref (frF (p2 &&& (3 : Int32)) w_FALSE w_TRUE w_UNDEFINED w_ERROR)), .val (.ref (andF (frF (p1 &&& (3 : Int32)) w_FALSE w_TRUE w_UNDEFINED w_ERROR) (frF (p2 &&& (3 : Int32)) w_FALSE w_TRUE w_UNDEFINED w_ERROR) w_FALSE w_TRUE w_UNDEFINED w_ERROR))] [])) _
    refine XS.aload X8.here hx rfl (hb hby at_29) rfl rfl ?_
    exact k)
  obtain ⟨_, _, ⟨T11, L11, k11, n11⟩, -, X11, ⟨Lc11, hQ11, l11, y11, z11⟩, st11⟩ := Jvm.LawKit.callS X8 hx (y := (⟨"com/example/usage_verdict/usageverdict/engine/TruthAndPinLaw", "rank", "(Lcom/example/usage_verdict/usageverdict/engine/Truth;)I"⟩ : MethodName)) hown8 (mvT hZ8 (hw _ (List.mem_of_getElem? (i := 27) rfl))) (mvT hZ8 (hw _ (List.mem_of_getElem? (i := 28) rfl))) (mvT hZ8 (hw _ (List.mem_of_getElem? (i := 2) rfl))) (mvT hZ8 (hw _ (List.mem_of_getElem? (i := 29) rfl))) (by decide) (backOf (W := 0) (rm_rk l Z a0 hw [] (andF (frF (p1 &&& (3 : Int32)) w_FALSE w_TRUE w_UNDEFINED w_ERROR) (frF (p2 &&& (3 : Int32)) w_FALSE w_TRUE w_UNDEFINED w_ERROR) w_FALSE w_TRUE w_UNDEFINED w_ERROR) w_FALSE w_TRUE w_UNDEFINED w_ERROR T8.heap n0 Z8 O8 P') hZ8 (hw _ (List.mem_of_getElem? (i := 29) rfl)) (hw _ (List.mem_of_getElem? (i := 2) rfl)) (by decide) (by decide)) (g := (mkF m 31 #[.val (.int p1), .val (.int p2), .val (.int (p1 &&& (3 : Int32))), .val (.int (p2 &&& (3 : Int32))), .val (.ref (frF (p1 &&& (3 : Int32)) w_FALSE w_TRUE w_UNDEFINED w_ERROR)), .val (.ref (frF (p2 &&& (3 : Int32)) w_FALSE w_TRUE w_UNDEFINED w_ERROR)), .val (.ref (andF (frF (p1 &&& (3 : Int32)) w_FALSE w_TRUE w_UNDEFINED w_ERROR) (frF (p2 &&& (3 : Int32)) w_FALSE w_TRUE w_UNDEFINED w_ERROR) w_FALSE w_TRUE w_UNDEFINED w_ERROR))] [(.ref (andF (frF (p1 &&& (3 : Int32)) w_FALSE w_TRUE w_UNDEFINED w_ERROR) (frF (p2 &&& (3 : Int32)) w_FALSE w_TRUE w_UNDEFINED w_ERROR) w_FALSE w_TRUE w_UNDEFINED w_ERROR))])) rfl (by rw [hml]; rfl) (argsL := [(.ref (andF (frF (p1 &&& (3 : Int32)) w_FALSE w_TRUE w_UNDEFINED w_ERROR) (frF (p2 &&& (3 : Int32)) w_FALSE w_TRUE w_UNDEFINED w_ERROR) w_FALSE w_TRUE w_UNDEFINED w_ERROR))]) (rest := []) (lenOf pd_3 rfl) rfl (by show 2 * 0 + _ ≤ _; exact Nat.le_of_eq rfl) (hb hby at_31) (fun _ _ => ⟨rfl, rfl, (by decide : 2 + 0 ≤ _), (by decide : 24 + 0 ≤ _)⟩)
  dsimp only [Pt.U, Pt.locs, Pt.cells, Pt.slots] at X11 l11 y11 z11 st11 hQ11
  subst l11 y11 z11
  obtain ⟨rfl, N11q, e11⟩ := hQ11
  have N11 := Fr.app N8 N11q
  have pre12 : ∀ t, Steps p.tables e below (T11.setTop (mkF m 34 #[.val (.int p1), .val (.int p2), .val (.int (p1 &&& (3 : Int32))), .val (.int (p2 &&& (3 : Int32))), .val (.ref (frF (p1 &&& (3 : Int32)) w_FALSE w_TRUE w_UNDEFINED w_ERROR)), .val (.ref (frF (p2 &&& (3 : Int32)) w_FALSE w_TRUE w_UNDEFINED w_ERROR)), .val (.ref (andF (frF (p1 &&& (3 : Int32)) w_FALSE w_TRUE w_UNDEFINED w_ERROR) (frF (p2 &&& (3 : Int32)) w_FALSE w_TRUE w_UNDEFINED w_ERROR) w_FALSE w_TRUE w_UNDEFINED w_ERROR))] [(.int (rkF (andF (frF (p1 &&& (3 : Int32)) w_FALSE w_TRUE w_UNDEFINED w_ERROR) (frF (p2 &&& (3 : Int32)) w_FALSE w_TRUE w_UNDEFINED w_ERROR) w_FALSE w_TRUE w_UNDEFINED w_ERROR) w_FALSE w_TRUE w_UNDEFINED w_ERROR))])) t → Steps p.tables e below (s₁.setTop (entryFrame m #[(.int p1), (.int p2)] maxLocals)) t := fun t k => pre10 t (st11 t k)
  have pre13 : ∀ t, Steps p.tables e below (T11.setTop (mkF m 36 #[.val (.int p1), .val (.int p2), .val (.int (p1 &&& (3 : Int32))), .val (.int (p2 &&& (3 : Int32))), .val (.ref (frF (p1 &&& (3 : Int32)) w_FALSE w_TRUE w_UNDEFINED w_ERROR)), .val (.ref (frF (p2 &&& (3 : Int32)) w_FALSE w_TRUE w_UNDEFINED w_ERROR)), .val (.ref (andF (frF (p1 &&& (3 : Int32)) w_FALSE w_TRUE w_UNDEFINED w_ERROR) (frF (p2 &&& (3 : Int32)) w_FALSE w_TRUE w_UNDEFINED w_ERROR) w_FALSE w_TRUE w_UNDEFINED w_ERROR))] [(.int (p2 &&& (3 : Int32))), (.int (p1 &&& (3 : Int32))), (.int (rkF (andF (frF (p1 &&& (3 : Int32)) w_FALSE w_TRUE w_UNDEFINED w_ERROR) (frF (p2 &&& (3 : Int32)) w_FALSE w_TRUE w_UNDEFINED w_ERROR) w_FALSE w_TRUE w_UNDEFINED w_ERROR) w_FALSE w_TRUE w_UNDEFINED w_ERROR))])) t → Steps p.tables e below (s₁.setTop (entryFrame m #[(.int p1), (.int p2)] maxLocals)) t := fun t k => pre12 t (by
    show Steps p.tables e below (T11.setTop (mkF m 34 #[.val (.int p1), .val (.int p2), .val (.int (p1 &&& (3 : Int32))), .val (.int (p2 &&& (3 : Int32))), .val (.ref (frF (p1 &&& (3 : Int32)) w_FALSE w_TRUE w_UNDEFINED w_ERROR)), .val (.ref (frF (p2 &&& (3 : Int32)) w_FALSE w_TRUE w_UNDEFINED w_ERROR)), .val (.ref (andF (frF (p1 &&& (3 : Int32)) w_FALSE w_TRUE w_UNDEFINED w_ERROR) (frF (p2 &&& (3 : Int32)) w_FALSE w_TRUE w_UNDEFINED w_ERROR) w_FALSE w_TRUE w_UNDEFINED w_ERROR))] [(.int (rkF (andF (frF (p1 &&& (3 : Int32)) w_FALSE w_TRUE w_UNDEFINED w_ERROR) (frF (p2 &&& (3 : Int32)) w_FALSE w_TRUE w_UNDEFINED w_ERROR) w_FALSE w_TRUE w_UNDEFINED w_ERROR) w_FALSE w_TRUE w_UNDEFINED w_ERROR))])) _
    refine XS.iloadN X11.here hx rfl (hb hby at_34) rfl ?_
    show Steps p.tables e below (T11.setTop (mkF m 35 #[.val (.int p1), .val (.int p2), .val (.int (p1 &&& (3 : Int32))), .val (.int (p2 &&& (3 : Int32))), .val (.ref (frF (p1 &&& (3 : Int32)) w_FALSE w_TRUE w_UNDEFINED w_ERROR)), .val (.ref (frF (p2 &&& (3 : Int32)) w_FALSE w_TRUE w_UNDEFINED w_ERROR)), .val (.ref (andF (frF (p1 &&& (3 : Int32)) w_FALSE w_TRUE w_UNDEFINED w_ERROR) (frF (p2 &&& (3 : Int32)) w_FALSE w_TRUE w_UNDEFINED w_ERROR) w_FALSE w_TRUE w_UNDEFINED w_ERROR))] [(.int (p1 &&& (3 : Int32))), (.int (rkF (andF (frF (p1 &&& (3 : Int32)) w_FALSE w_TRUE w_UNDEFINED w_ERROR) (frF (p2 &&& (3 : Int32)) w_FALSE w_TRUE w_UNDEFINED w_ERROR) w_FALSE w_TRUE w_UNDEFINED w_ERROR) w_FALSE w_TRUE w_UNDEFINED w_ERROR))])) _
    refine XS.iloadN X11.here hx rfl (hb hby at_35) rfl ?_
    exact k)
  obtain ⟨_, _, ⟨T14, L14, k14, n14⟩, -, X14, ⟨Lc14, hQ14, l14, y14, z14⟩, st14⟩ := Jvm.LawKit.callS X11 hx (y := (⟨"java/lang/Math", "min", "(II)I"⟩ : MethodName)) hown8 (mvT hZ8 (hw _ (List.mem_of_getElem? (i := 30) rfl))) (mvT hZ8 (hw _ (List.mem_of_getElem? (i := 31) rfl))) (mvT hZ8 (hw _ (List.mem_of_getElem? (i := 32) rfl))) (mvT hZ8 (hw _ (List.mem_of_getElem? (i := 33) rfl))) (by decide) (backOf (W := 1) (rm_min l Z a0 hw [] (p1 &&& (3 : Int32)) (p2 &&& (3 : Int32)) T8.heap n0 Z8 O8) hZ8 (hw _ (List.mem_of_getElem? (i := 33) rfl)) (hw _ (List.mem_of_getElem? (i := 32) rfl)) (by decide) (by decide)) (g := (mkF m 36 #[.val (.int p1), .val (.int p2), .val (.int (p1 &&& (3 : Int32))), .val (.int (p2 &&& (3 : Int32))), .val (.ref (frF (p1 &&& (3 : Int32)) w_FALSE w_TRUE w_UNDEFINED w_ERROR)), .val (.ref (frF (p2 &&& (3 : Int32)) w_FALSE w_TRUE w_UNDEFINED w_ERROR)), .val (.ref (andF (frF (p1 &&& (3 : Int32)) w_FALSE w_TRUE w_UNDEFINED w_ERROR) (frF (p2 &&& (3 : Int32)) w_FALSE w_TRUE w_UNDEFINED w_ERROR) w_FALSE w_TRUE w_UNDEFINED w_ERROR))] [(.int (p2 &&& (3 : Int32))), (.int (p1 &&& (3 : Int32))), (.int (rkF (andF (frF (p1 &&& (3 : Int32)) w_FALSE w_TRUE w_UNDEFINED w_ERROR) (frF (p2 &&& (3 : Int32)) w_FALSE w_TRUE w_UNDEFINED w_ERROR) w_FALSE w_TRUE w_UNDEFINED w_ERROR) w_FALSE w_TRUE w_UNDEFINED w_ERROR))])) rfl (by rw [hml]; rfl) (argsL := [(.int (p1 &&& (3 : Int32))), (.int (p2 &&& (3 : Int32)))]) (rest := [(.int (rkF (andF (frF (p1 &&& (3 : Int32)) w_FALSE w_TRUE w_UNDEFINED w_ERROR) (frF (p2 &&& (3 : Int32)) w_FALSE w_TRUE w_UNDEFINED w_ERROR) w_FALSE w_TRUE w_UNDEFINED w_ERROR) w_FALSE w_TRUE w_UNDEFINED w_ERROR))]) (lenOf pd_4 rfl) rfl (by show 2 * 0 + _ ≤ _; exact Nat.le_of_eq rfl) (hb hby at_36) (fun _ _ => ⟨rfl, e11, (by decide : 2 + 0 ≤ _), (by decide : 24 + 0 ≤ _)⟩)
  dsimp only [Pt.U, Pt.locs, Pt.cells, Pt.slots] at X14 l14 y14 z14 st14 hQ14
  subst l14 y14 z14
  obtain ⟨rfl, N14q, e14⟩ := hQ14
  have N14 := Fr.app N11 N14q
  have pre15 : ∀ t, Steps p.tables e below (T14.setTop (mkF m 39 #[.val (.int p1), .val (.int p2), .val (.int (p1 &&& (3 : Int32))), .val (.int (p2 &&& (3 : Int32))), .val (.ref (frF (p1 &&& (3 : Int32)) w_FALSE w_TRUE w_UNDEFINED w_ERROR)), .val (.ref (frF (p2 &&& (3 : Int32)) w_FALSE w_TRUE w_UNDEFINED w_ERROR)), .val (.ref (andF (frF (p1 &&& (3 : Int32)) w_FALSE w_TRUE w_UNDEFINED w_ERROR) (frF (p2 &&& (3 : Int32)) w_FALSE w_TRUE w_UNDEFINED w_ERROR) w_FALSE w_TRUE w_UNDEFINED w_ERROR))] [(.int (minF (p1 &&& (3 : Int32)) (p2 &&& (3 : Int32)))), (.int (rkF (andF (frF (p1 &&& (3 : Int32)) w_FALSE w_TRUE w_UNDEFINED w_ERROR) (frF (p2 &&& (3 : Int32)) w_FALSE w_TRUE w_UNDEFINED w_ERROR) w_FALSE w_TRUE w_UNDEFINED w_ERROR) w_FALSE w_TRUE w_UNDEFINED w_ERROR))])) t → Steps p.tables e below (s₁.setTop (entryFrame m #[(.int p1), (.int p2)] maxLocals)) t := fun t k => pre13 t (st14 t k)
  have pre16 : ∀ t, Steps p.tables e below (T14.setTop (mkF m 47 #[.val (.int p1), .val (.int p2), .val (.int (p1 &&& (3 : Int32))), .val (.int (p2 &&& (3 : Int32))), .val (.ref (frF (p1 &&& (3 : Int32)) w_FALSE w_TRUE w_UNDEFINED w_ERROR)), .val (.ref (frF (p2 &&& (3 : Int32)) w_FALSE w_TRUE w_UNDEFINED w_ERROR)), .val (.ref (andF (frF (p1 &&& (3 : Int32)) w_FALSE w_TRUE w_UNDEFINED w_ERROR) (frF (p2 &&& (3 : Int32)) w_FALSE w_TRUE w_UNDEFINED w_ERROR) w_FALSE w_TRUE w_UNDEFINED w_ERROR))] [(.int (1 : Int32))])) t → Steps p.tables e below (s₁.setTop (entryFrame m #[(.int p1), (.int p2)] maxLocals)) t := fun t k => pre15 t (by
    show Steps p.tables e below (T14.setTop (mkF m 39 #[.val (.int p1), .val (.int p2), .val (.int (p1 &&& (3 : Int32))), .val (.int (p2 &&& (3 : Int32))), .val (.ref (frF (p1 &&& (3 : Int32)) w_FALSE w_TRUE w_UNDEFINED w_ERROR)), .val (.ref (frF (p2 &&& (3 : Int32)) w_FALSE w_TRUE w_UNDEFINED w_ERROR)), .val (.ref (andF (frF (p1 &&& (3 : Int32)) w_FALSE w_TRUE w_UNDEFINED w_ERROR) (frF (p2 &&& (3 : Int32)) w_FALSE w_TRUE w_UNDEFINED w_ERROR) w_FALSE w_TRUE w_UNDEFINED w_ERROR))] [(.int (minF (p1 &&& (3 : Int32)) (p2 &&& (3 : Int32)))), (.int (rkF (andF (frF (p1 &&& (3 : Int32)) w_FALSE w_TRUE w_UNDEFINED w_ERROR) (frF (p2 &&& (3 : Int32)) w_FALSE w_TRUE w_UNDEFINED w_ERROR) w_FALSE w_TRUE w_UNDEFINED w_ERROR) w_FALSE w_TRUE w_UNDEFINED w_ERROR))])) _
    refine XS.icmpNo X14.here hx rfl (hb hby at_39) rfl (teq (own_plain P' p1 p2)).2 ?_
    show Steps p.tables e below (T14.setTop (mkF m 42 #[.val (.int p1), .val (.int p2), .val (.int (p1 &&& (3 : Int32))), .val (.int (p2 &&& (3 : Int32))), .val (.ref (frF (p1 &&& (3 : Int32)) w_FALSE w_TRUE w_UNDEFINED w_ERROR)), .val (.ref (frF (p2 &&& (3 : Int32)) w_FALSE w_TRUE w_UNDEFINED w_ERROR)), .val (.ref (andF (frF (p1 &&& (3 : Int32)) w_FALSE w_TRUE w_UNDEFINED w_ERROR) (frF (p2 &&& (3 : Int32)) w_FALSE w_TRUE w_UNDEFINED w_ERROR) w_FALSE w_TRUE w_UNDEFINED w_ERROR))] [])) _
    refine XS.iconst X14.here hx rfl (hb hby at_42) ?_
    show Steps p.tables e below (T14.setTop (mkF m 43 #[.val (.int p1), .val (.int p2), .val (.int (p1 &&& (3 : Int32))), .val (.int (p2 &&& (3 : Int32))), .val (.ref (frF (p1 &&& (3 : Int32)) w_FALSE w_TRUE w_UNDEFINED w_ERROR)), .val (.ref (frF (p2 &&& (3 : Int32)) w_FALSE w_TRUE w_UNDEFINED w_ERROR)), .val (.ref (andF (frF (p1 &&& (3 : Int32)) w_FALSE w_TRUE w_UNDEFINED w_ERROR) (frF (p2 &&& (3 : Int32)) w_FALSE w_TRUE w_UNDEFINED w_ERROR) w_FALSE w_TRUE w_UNDEFINED w_ERROR))] [(.int (1 : Int32))])) _
    refine XS.goto X14.here hx rfl (pc0 := 43) (pc' := 47) rfl (hb hby at_43) (by decide) (by decide) ?_
    exact k)
  obtain ⟨fs, hr, hrun, hended, hW⟩ := Jvm.Stand.leaveW (s := s) (vm₁ := T8.vm) X14 hS8 (by rw [e14]; exact (Nat.le_refl _)) (v := some (.int (1 : Int32))) (fun h => by rw [Bd.returns] at h; cases h)
  refine ⟨_, _, pre16 _ ?_, hrun, hended, _, _, rfl, ?_, hW.1, hW.2.1, hW.2.2.1, hW.2.2.2.mono (by decide) (by decide)⟩
  · exact retN X14 hx (t := .boolean) Bd.returns (by simp) (hb hby at_47) hr
  · show Q_rm_law Z p1 p2 w_FALSE w_TRUE w_UNDEFINED w_ERROR h0 n0 _ T14.heap _
    rw [e14]
    exact ⟨rfl, N14⟩
set_option maxRecDepth 65536 in
set_option maxHeartbeats 40000000 in
theorem comes_1 {Post : Tables → Env → Array Value → State → Outcome → State → Prop} (hpost : ∀ tb e args s v u, (limb_1_1.after args s (.returned v) u = true ∧ limb_1_2.after args s (.returned v) u = true ∧ True) → ReturnedEndW s (.returned v) u (Jvm.fieldLocs frame_1_writes args s ++ Jvm.arrayLocs frame_1_arrays args s ++ Jvm.staticLocs frame_1_statics s) 8 1088 → Post tb e args s (.returned v) u) :
    ArmFor flags0 classFile x code maxLocals ret World_1 tables_1 room_1 Calls_1 rest_1 Pre_1 Post := by
  intro l hfl _ _ p e ha hc hk s m args below hf hA hF happ hP0
  obtain ⟨hcalls, hrest, hpre⟩ := hP0
  obtain ⟨-, -, -, hnamed, -, -, -, hat⟩ := (Spec.applies_iff hf).mp happ
  obtain ⟨hg, hn⟩ := and_e (Cond.before_iff.mp (show (Jvm.Cond.and given_1 narrow_1).before args s = true from hpre))
  obtain ⟨g0a, g0b⟩ := and_e hg
  obtain ⟨g1a, g1b⟩ := and_e g0b
  obtain ⟨w0, w1, rfl⟩ : ∃ w0 w1 : Value, args = #[w0, w1] := by
    have hs : args.size = 2 := by simpa [Cond.value, given_1] using g0a
    obtain ⟨L⟩ := args
    match L, hs with
    | [w0, w1], _ => exact ⟨w0, w1, rfl⟩
  have hw := fun d (hd : d ∈ tables_1) => atoms_spec (ws := Jvm.Cond.code x code maxLocals ret :: tables_1) hat d (List.mem_cons_of_mem _ hd)
  have hfit : Fit s := fun {y c} hc i hi => by
    obtain ⟨ha, rfl⟩ := Array.getElem?_eq_some_iff.mp hc
    have q := List.all_eq_true.mp ((Array.all_eq_true_iff_forall_mem.mp hF) _ (Array.getElem_mem ha)) i (List.mem_range.mpr hi)
    simpa [Array.getElem?_eq_getElem hi] using q
  obtain ⟨i0, ei0⟩ := is_v g1a
  obtain rfl : w0 = (.int i0) := Option.some.inj ei0
  obtain ⟨i1, ei1⟩ := is_v g1b
  obtain rfl : w1 = (.int i1) := Option.some.inj ei1
  have hn' := hn
  obtain ⟨na0, nb0⟩ := and_e hn
  obtain ⟨na1, nb1⟩ := and_e nb0
  obtain ⟨na2, nb2⟩ := and_e nb1
  obtain ⟨na3, nb3⟩ := and_e nb2
  obtain ⟨na4, nb4⟩ := and_e nb3
  obtain ⟨na5, nb5⟩ := and_e nb4
  obtain ⟨na6, nb6⟩ := and_e nb5
  obtain ⟨w_FALSE, ev_FALSE, E_FALSE⟩ := own_pin na0
  have S_FALSE := Sta.start ev_FALSE (Or.inr ⟨(hw _ (List.mem_of_getElem? (i := 5) rfl)), (hw _ (List.mem_of_getElem? (i := 6) rfl))⟩)
  obtain ⟨w_TRUE, ev_TRUE, E_TRUE⟩ := own_pin na1
  have S_TRUE := Sta.start ev_TRUE (Or.inr ⟨(hw _ (List.mem_of_getElem? (i := 5) rfl)), (hw _ (List.mem_of_getElem? (i := 8) rfl))⟩)
  obtain ⟨w_UNDEFINED, ev_UNDEFINED, E_UNDEFINED⟩ := own_pin na2
  have S_UNDEFINED := Sta.start ev_UNDEFINED (Or.inr ⟨(hw _ (List.mem_of_getElem? (i := 5) rfl)), (hw _ (List.mem_of_getElem? (i := 35) rfl))⟩)
  obtain ⟨w_ERROR, ev_ERROR, E_ERROR⟩ := own_pin na3
  have S_ERROR := Sta.start ev_ERROR (Or.inr ⟨(hw _ (List.mem_of_getElem? (i := 5) rfl)), (hw _ (List.mem_of_getElem? (i := 37) rfl))⟩)
  have F_ordinal_UNDEFINED := own_fld ev_UNDEFINED na4
  have F_ordinal_FALSE := own_fld ev_FALSE na5
  have F_ordinal_ERROR := own_fld ev_ERROR na6
  have F_ordinal_TRUE := own_fld ev_TRUE nb6
  have hP : Pins s w_FALSE w_TRUE w_UNDEFINED w_ERROR := ⟨S_FALSE, S_TRUE, S_UNDEFINED, S_ERROR, E_FALSE, E_TRUE, E_UNDEFINED, E_ERROR, F_ordinal_UNDEFINED, F_ordinal_FALSE, F_ordinal_ERROR, F_ordinal_TRUE⟩
  obtain ⟨n, o, h1, h2, h3, _, L, rfl, ⟨rfl, N⟩, hq⟩ := rm_law l s _ hw tables_1 i0 i1 w_FALSE w_TRUE w_UNDEFINED w_ERROR s.heap s.heap.size (Nat.le_refl _) (own_ext_refl _) hP p e ha hc hk s m _ below hf ((Spec.applies_iff_loose hf).mp happ).1 ⟨rfl, State.Warmed39.refl s, rfl⟩ trivial
  refine ⟨n, _, h1, h2, h3, hpost _ _ _ _ _ _ ⟨Cond.after_iff.mpr rfl, Cond.after_iff.mpr (eq_i res_at (Term.int_eval (1)) rfl), trivial⟩ ⟨hq.1, hq.2.1, hq.2.2.1, (hq.2.2.2.sift fun y hy => Or.inr (N y hy)).mono (by decide) (by decide)⟩⟩
theorem main_1_1 : Claimed_1_1 := comes_1 fun _ _ _ _ _ _ h hF => ⟨h.1, hF⟩
theorem main_1_2 : Claimed_1_2 := comes_1 fun _ _ _ _ _ _ h hF => ⟨h.2.1, hF⟩
end Jvm.Pilot.@@N@@
namespace Jvm.Pilot.@@N@@
open Jvm Jvm.ClassFile Sem Op Lib Jvm.Free Jvm.Stand Jvm.Pilot.@@N@@.Jvm.D
/-! MADE BY PROGRAM (witnessworld.py) out of the Statement's table words and the real class files: 17 classes; the members and pool entries that the words name. The judged class is class 1, her method 3. -/
namespace start1
open Jvm.ClassFile
def u (s : String) : CpInfo := .utf8 (stringToUtf16 s)
/-- a pool by its gaps: so many unusable entries, then the entry; so many at the end -/
def gap : Nat → List CpInfo → List CpInfo
  | 0, r => r
  | n + 1, r => .unusable :: gap n r
def poolList (es : List (Nat × CpInfo)) (last : Nat) : List CpInfo := es.foldr (fun e r => gap e.1 (e.2 :: r)) (gap last [])
def pool (es : List (Nat × CpInfo)) (last : Nat) : Array CpInfo := ⟨poolList es last⟩
def fileOf (pool : Array CpInfo) (this : Nat) (attrs : Array Attribute := #[]) (ms : Array MethodInfo := #[]) (fl : Nat := 33) (sup : Nat := 0) (ifs : Array Nat := #[]) (fds : Array FieldInfo := #[]) : ClassFile where
  minorVersion := 0
  majorVersion := 65
  constantPool := pool
  accessFlags := fl
  thisClass := this
  superClass := sup
  interfaces := ifs
  fields := fds
  methods := ms
  attributes := attrs
def plain (name : String) (sup : Option ClassId) : Class where
  name := name
  kind := .ordinary
  loader := none
  accessFlags := 33
  super := sup
  interfaces := #[]
  cf := none
  fields := #[]
  methods := #[]
  instanceTypes := #[]
  staticTypes := #[]
  resolved := #[]
  callSites := []
  init := .initialized
  statics := none
  mirror := none

def pool0 : Array CpInfo := pool [(5, u "<init>"), (0, u "()V"), (1, .class_ 10), (1, u "java/lang/Object")] 113

def k0m0 : Method := { name := "<init>", desc := "()V", sig := { parameters := [], returnType := none }, accessFlags := 1, code := none }
/-- java/lang/Object -/
def k0 : Class := { plain "java/lang/Object" none with
  accessFlags := 33
  interfaces := #[]
  cf := some (fileOf pool0 8 #[] #[{ accessFlags := 1, nameIndex := 5, descriptorIndex := 6, attributes := #[] }] 33 0 #[] #[])
  fields := #[]
  methods := #[k0m0]
  instanceTypes := #[]
  staticTypes := #[]
  resolved := Array.replicate 124 none
  statics := none }

def pool1 : Array CpInfo := pool [(2, .class_ 4), (1, u "java/lang/Object"), (0, u "<init>"), (0, u "()V"), (0, .fieldref 8 9), (0, .class_ 10), (0, .nameAndType 11 12), (0, u "com/example/usage_verdict/usageverdict/engine/Truth"), (0, u "FALSE"), (0, u "Lcom/example/usage_verdict/usageverdict/engine/Truth;"), (0, .fieldref 8 14), (0, .nameAndType 15 12), (0, u "ERROR"), (0, .fieldref 8 17), (0, .nameAndType 18 12), (0, u "UNDEFINED"), (0, .fieldref 8 20), (0, .nameAndType 21 12), (0, u "TRUE"), (0, .methodref 23 24), (0, .class_ 25), (0, .nameAndType 26 27), (0, u "com/example/usage_verdict/usageverdict/engine/TruthAndPinLaw"), (0, u "fromRank"), (0, u "(I)Lcom/example/usage_verdict/usageverdict/engine/Truth;"), (0, .methodref 8 29), (0, .nameAndType 30 31), (0, u "and"), (0, u "(Lcom/example/usage_verdict/usageverdict/engine/Truth;)Lcom/example/usage_verdict/usageverdict/engine/Truth;"), (0, .methodref 23 33), (0, .nameAndType 34 35), (0, u "rank"), (0, u "(Lcom/example/usage_verdict/usageverdict/engine/Truth;)I"), (0, .methodref 37 38), (0, .class_ 39), (0, .nameAndType 40 41), (0, u "java/lang/Math"), (0, u "min"), (0, u "(II)I"), (3, u "law"), (0, u "(II)Z")] 2

def k1m0 : Method := { name := "<init>", desc := "()V", sig := { parameters := [], returnType := none }, accessFlags := 1, code := none }
def k1c1 : Code := { maxStack := 2, maxLocals := 1, code := method_2_code, exceptionTable := #[], attributes := #[] }
def k1m1 : Method := { name := "fromRank", desc := "(I)Lcom/example/usage_verdict/usageverdict/engine/Truth;", sig := { parameters := [.int], returnType := some (.object "com/example/usage_verdict/usageverdict/engine/Truth") }, accessFlags := 10, code := some k1c1 }
def k1c2 : Code := { maxStack := 2, maxLocals := 1, code := method_3_code, exceptionTable := #[], attributes := #[] }
def k1m2 : Method := { name := "rank", desc := "(Lcom/example/usage_verdict/usageverdict/engine/Truth;)I", sig := { parameters := [(.object "com/example/usage_verdict/usageverdict/engine/Truth")], returnType := some .int }, accessFlags := 10, code := some k1c2 }
def k1c3 : Code := { maxStack := 3, maxLocals := 7, code := code, exceptionTable := #[], attributes := #[] }
def k1m3 : Method := { name := "law", desc := "(II)Z", sig := { parameters := [.int, .int], returnType := some .boolean }, accessFlags := 9, code := some k1c3 }
/-- com/example/usage_verdict/usageverdict/engine/TruthAndPinLaw -/
def k1 : Class := { plain "com/example/usage_verdict/usageverdict/engine/TruthAndPinLaw" (some 0) with
  accessFlags := 49
  interfaces := #[]
  cf := some (fileOf pool1 23 #[] #[{ accessFlags := 1, nameIndex := 5, descriptorIndex := 6, attributes := #[] }, { accessFlags := 10, nameIndex := 26, descriptorIndex := 27, attributes := #[] }, { accessFlags := 10, nameIndex := 34, descriptorIndex := 35, attributes := #[] }, { accessFlags := 9, nameIndex := 45, descriptorIndex := 46, attributes := #[] }] 49 2 #[] #[])
  fields := #[]
  methods := #[k1m0, k1m1, k1m2, k1m3]
  instanceTypes := #[]
  staticTypes := #[]
  resolved := Array.replicate 49 none
  statics := none }

def pool2 : Array CpInfo := pool [(1, .class_ 2), (0, u "java/lang/constant/Constable"), (0, .class_ 4), (0, u "java/lang/Object")] 6

/-- java/lang/constant/Constable -/
def k2 : Class := { plain "java/lang/constant/Constable" (some 0) with
  accessFlags := 1537
  interfaces := #[]
  cf := some (fileOf pool2 1 #[] #[] 1537 3 #[] #[])
  fields := #[]
  methods := #[]
  instanceTypes := #[]
  staticTypes := #[]
  resolved := Array.replicate 11 none
  statics := none }

def pool3 : Array CpInfo := pool [(1, .class_ 2), (0, u "java/lang/Comparable"), (0, .class_ 4), (0, u "java/lang/Object")] 7

/-- java/lang/Comparable -/
def k3 : Class := { plain "java/lang/Comparable" (some 0) with
  accessFlags := 1537
  interfaces := #[]
  cf := some (fileOf pool3 1 #[] #[] 1537 3 #[] #[])
  fields := #[]
  methods := #[]
  instanceTypes := #[]
  staticTypes := #[]
  resolved := Array.replicate 12 none
  statics := none }

def pool4 : Array CpInfo := pool [(1, .class_ 2), (0, u "java/io/Serializable"), (0, .class_ 4), (0, u "java/lang/Object")] 2

/-- java/io/Serializable -/
def k4 : Class := { plain "java/io/Serializable" (some 0) with
  accessFlags := 1537
  interfaces := #[]
  cf := some (fileOf pool4 1 #[] #[] 1537 3 #[] #[])
  fields := #[]
  methods := #[]
  instanceTypes := #[]
  staticTypes := #[]
  resolved := Array.replicate 7 none
  statics := none }

def pool5 : Array CpInfo := pool [(2, .class_ 4), (1, u "java/lang/Enum"), (0, u "name"), (0, u "Ljava/lang/String;"), (2, u "ordinal"), (0, u "I"), (1, .class_ 14), (1, u "java/lang/Object"), (4, u "hash"), (86, .class_ 108), (1, u "java/lang/Enum$EnumDesc"), (2, .class_ 112), (0, u "java/lang/constant/Constable"), (0, .class_ 114), (0, u "java/lang/Comparable"), (0, .class_ 116), (0, u "java/io/Serializable")] 87

/-- java/lang/Enum -/
def k5 : Class := { plain "java/lang/Enum" (some 0) with
  accessFlags := 1057
  interfaces := #[2, 3, 4]
  cf := some (fileOf pool5 2 #[.nestMembers #[106]] #[] 1057 12 #[111, 113, 115] #[{ accessFlags := 18, nameIndex := 5, descriptorIndex := 6, attributes := #[] }, { accessFlags := 18, nameIndex := 9, descriptorIndex := 10, attributes := #[] }, { accessFlags := 2, nameIndex := 19, descriptorIndex := 10, attributes := #[] }])
  fields := #[{ name := "name", type := (.object "java/lang/String"), accessFlags := 18, slot := 0, constantValue := 0 }, { name := "ordinal", type := .int, accessFlags := 18, slot := 1, constantValue := 0 }, { name := "hash", type := .int, accessFlags := 2, slot := 2, constantValue := 0 }]
  methods := #[]
  instanceTypes := #[(.object "java/lang/String"), .int, .int]
  staticTypes := #[]
  resolved := Array.replicate 204 none
  statics := none }

def pool6 : Array CpInfo := pool [(1, .class_ 2), (0, u "com/example/usage_verdict/usageverdict/engine/Truth"), (0, .fieldref 1 4), (0, .nameAndType 5 6), (0, u "TRUE"), (0, u "Lcom/example/usage_verdict/usageverdict/engine/Truth;"), (0, .fieldref 1 8), (0, .nameAndType 9 6), (0, u "FALSE"), (0, .fieldref 1 11), (0, .nameAndType 12 6), (0, u "UNDEFINED"), (0, .fieldref 1 14), (0, .nameAndType 15 6), (0, u "ERROR"), (2, u "$VALUES"), (0, u "[Lcom/example/usage_verdict/usageverdict/engine/Truth;"), (6, .class_ 28), (1, u "java/lang/Enum"), (6, .string 36), (0, u "other"), (0, .methodref 38 39), (0, .class_ 40), (0, .nameAndType 41 42), (0, u "java/util/Objects"), (0, u "requireNonNull"), (0, u "(Ljava/lang/Object;Ljava/lang/String;)Ljava/lang/Object;"), (6, u "and"), (0, u "(Lcom/example/usage_verdict/usageverdict/engine/Truth;)Lcom/example/usage_verdict/usageverdict/engine/Truth;")] 31

def k6c0 : Code := { maxStack := 2, maxLocals := 3, code := prog_29_method_4_code, exceptionTable := #[], attributes := #[] }
def k6m0 : Method := { name := "and", desc := "(Lcom/example/usage_verdict/usageverdict/engine/Truth;)Lcom/example/usage_verdict/usageverdict/engine/Truth;", sig := { parameters := [(.object "com/example/usage_verdict/usageverdict/engine/Truth")], returnType := some (.object "com/example/usage_verdict/usageverdict/engine/Truth") }, accessFlags := 1, code := some k6c0 }
/-- com/example/usage_verdict/usageverdict/engine/Truth -/
def k6 : Class := { plain "com/example/usage_verdict/usageverdict/engine/Truth" (some 5) with
  accessFlags := 16433
  interfaces := #[]
  cf := some (fileOf pool6 1 #[] #[{ accessFlags := 1, nameIndex := 49, descriptorIndex := 50, attributes := #[] }] 16433 26 #[] #[{ accessFlags := 16409, nameIndex := 5, descriptorIndex := 6, attributes := #[] }, { accessFlags := 16409, nameIndex := 9, descriptorIndex := 6, attributes := #[] }, { accessFlags := 16409, nameIndex := 12, descriptorIndex := 6, attributes := #[] }, { accessFlags := 16409, nameIndex := 15, descriptorIndex := 6, attributes := #[] }, { accessFlags := 4122, nameIndex := 18, descriptorIndex := 19, attributes := #[] }])
  fields := #[{ name := "TRUE", type := (.object "com/example/usage_verdict/usageverdict/engine/Truth"), accessFlags := 16409, slot := 0, constantValue := 0 }, { name := "FALSE", type := (.object "com/example/usage_verdict/usageverdict/engine/Truth"), accessFlags := 16409, slot := 1, constantValue := 0 }, { name := "UNDEFINED", type := (.object "com/example/usage_verdict/usageverdict/engine/Truth"), accessFlags := 16409, slot := 2, constantValue := 0 }, { name := "ERROR", type := (.object "com/example/usage_verdict/usageverdict/engine/Truth"), accessFlags := 16409, slot := 3, constantValue := 0 }, { name := "$VALUES", type := (.array (.object "com/example/usage_verdict/usageverdict/engine/Truth")), accessFlags := 4122, slot := 4, constantValue := 0 }]
  methods := #[k6m0]
  instanceTypes := #[(.object "java/lang/String"), .int, .int]
  staticTypes := #[(.object "com/example/usage_verdict/usageverdict/engine/Truth"), (.object "com/example/usage_verdict/usageverdict/engine/Truth"), (.object "com/example/usage_verdict/usageverdict/engine/Truth"), (.object "com/example/usage_verdict/usageverdict/engine/Truth"), (.array (.object "com/example/usage_verdict/usageverdict/engine/Truth"))]
  resolved := Array.replicate 82 none
  statics := some 0 }

def pool7 : Array CpInfo := pool [(2, .class_ 4), (1, u "java/lang/CharSequence"), (42, .class_ 48), (0, u "java/lang/CharSequence$1CodePointIterator"), (10, .class_ 60), (0, u "java/lang/CharSequence$1CharIterator"), (5, .class_ 67), (0, u "java/lang/Object")] 63

/-- java/lang/CharSequence -/
def k7 : Class := { plain "java/lang/CharSequence" (some 0) with
  accessFlags := 1537
  interfaces := #[]
  cf := some (fileOf pool7 2 #[.nestMembers #[47, 59]] #[] 1537 66 #[] #[])
  fields := #[]
  methods := #[]
  instanceTypes := #[]
  staticTypes := #[]
  resolved := Array.replicate 131 none
  statics := none }

def pool8 : Array CpInfo := pool [(1, .class_ 2), (0, u "java/lang/constant/ConstantDesc"), (0, .class_ 4), (0, u "java/lang/Object")] 32

/-- java/lang/constant/ConstantDesc -/
def k8 : Class := { plain "java/lang/constant/ConstantDesc" (some 0) with
  accessFlags := 1537
  interfaces := #[]
  cf := some (fileOf pool8 1 #[] #[] 1537 3 #[] #[])
  fields := #[]
  methods := #[]
  instanceTypes := #[]
  staticTypes := #[]
  resolved := Array.replicate 37 none
  statics := none }

def pool9 : Array CpInfo := pool [(2, .class_ 4), (1, u "java/lang/Object"), (0, u "<init>"), (0, u "()V"), (3, .class_ 12), (1, u "java/lang/String"), (0, u "value"), (0, u "[B"), (2, u "coder"), (0, u "B"), (2, u "hash"), (0, u "I"), (2, u "hashIsZero"), (0, u "Z"), (13, u "COMPACT_STRINGS"), (534, .class_ 576), (0, u "java/lang/CharSequence"), (22, u "CASE_INSENSITIVE_ORDER"), (0, u "Ljava/util/Comparator;"), (500, u "serialPersistentFields"), (0, u "[Ljava/io/ObjectStreamField;"), (0, .class_ 1104), (0, u "java/lang/String$CaseInsensitiveComparator"), (1, .class_ 1107), (0, u "java/io/Serializable"), (0, .class_ 1109), (0, u "java/lang/Comparable"), (0, .class_ 1111), (0, u "java/lang/constant/Constable"), (0, .class_ 1113), (0, u "java/lang/constant/ConstantDesc"), (2, u "serialVersionUID"), (0, u "J"), (3, u "REPL"), (0, u "C"), (2, u "LATIN1"), (1, u "UTF16")] 323

def k9m0 : Method := { name := "<init>", desc := "()V", sig := { parameters := [], returnType := none }, accessFlags := 1, code := none }
/-- java/lang/String -/
def k9 : Class := { plain "java/lang/String" (some 0) with
  accessFlags := 49
  interfaces := #[4, 3, 7, 2, 8]
  cf := some (fileOf pool9 10 #[.nestMembers #[1103]] #[{ accessFlags := 1, nameIndex := 5, descriptorIndex := 6, attributes := #[] }] 49 2 #[1106, 1108, 575, 1110, 1112] #[{ accessFlags := 18, nameIndex := 13, descriptorIndex := 14, attributes := #[] }, { accessFlags := 18, nameIndex := 17, descriptorIndex := 18, attributes := #[] }, { accessFlags := 2, nameIndex := 21, descriptorIndex := 22, attributes := #[] }, { accessFlags := 2, nameIndex := 25, descriptorIndex := 26, attributes := #[] }, { accessFlags := 26, nameIndex := 1116, descriptorIndex := 1117, attributes := #[] }, { accessFlags := 24, nameIndex := 40, descriptorIndex := 26, attributes := #[] }, { accessFlags := 26, nameIndex := 1101, descriptorIndex := 1102, attributes := #[] }, { accessFlags := 26, nameIndex := 1121, descriptorIndex := 1122, attributes := #[] }, { accessFlags := 25, nameIndex := 599, descriptorIndex := 600, attributes := #[] }, { accessFlags := 24, nameIndex := 1125, descriptorIndex := 18, attributes := #[] }, { accessFlags := 24, nameIndex := 1127, descriptorIndex := 18, attributes := #[] }])
  fields := #[{ name := "value", type := (.array .byte), accessFlags := 18, slot := 0, constantValue := 0 }, { name := "coder", type := .byte, accessFlags := 18, slot := 1, constantValue := 0 }, { name := "hash", type := .int, accessFlags := 2, slot := 2, constantValue := 0 }, { name := "hashIsZero", type := .boolean, accessFlags := 2, slot := 3, constantValue := 0 }, { name := "serialVersionUID", type := .long, accessFlags := 26, slot := 0, constantValue := 0 }, { name := "COMPACT_STRINGS", type := .boolean, accessFlags := 24, slot := 1, constantValue := 0 }, { name := "serialPersistentFields", type := (.array (.object "java/io/ObjectStreamField")), accessFlags := 26, slot := 2, constantValue := 0 }, { name := "REPL", type := .char, accessFlags := 26, slot := 3, constantValue := 0 }, { name := "CASE_INSENSITIVE_ORDER", type := (.object "java/util/Comparator"), accessFlags := 25, slot := 4, constantValue := 0 }, { name := "LATIN1", type := .byte, accessFlags := 24, slot := 5, constantValue := 0 }, { name := "UTF16", type := .byte, accessFlags := 24, slot := 6, constantValue := 0 }]
  methods := #[k9m0]
  instanceTypes := #[(.array .byte), .byte, .int, .boolean]
  staticTypes := #[.long, .boolean, (.array (.object "java/io/ObjectStreamField")), .char, (.object "java/util/Comparator"), .byte, .byte]
  resolved := Array.replicate 1451 none
  statics := none }

def pool10 : Array CpInfo := pool [(2, .class_ 4), (1, u "java/lang/Object"), (0, u "<init>"), (0, u "()V"), (35, .class_ 44), (1, u "java/util/Objects"), (0, u "requireNonNull"), (48, u "(Ljava/lang/Object;Ljava/lang/String;)Ljava/lang/Object;")] 89

def k10m0 : Method := { name := "<init>", desc := "()V", sig := { parameters := [], returnType := none }, accessFlags := 2, code := none }
def k10c1 : Code := { maxStack := 3, maxLocals := 2, code := jdk_31_method_11_code, exceptionTable := #[], attributes := #[] }
def k10m1 : Method := { name := "requireNonNull", desc := "(Ljava/lang/Object;Ljava/lang/String;)Ljava/lang/Object;", sig := { parameters := [(.object "java/lang/Object"), (.object "java/lang/String")], returnType := some (.object "java/lang/Object") }, accessFlags := 9, code := some k10c1 }
/-- java/util/Objects -/
def k10 : Class := { plain "java/util/Objects" (some 0) with
  accessFlags := 49
  interfaces := #[]
  cf := some (fileOf pool10 42 #[] #[{ accessFlags := 2, nameIndex := 5, descriptorIndex := 6, attributes := #[] }, { accessFlags := 9, nameIndex := 45, descriptorIndex := 94, attributes := #[] }] 49 2 #[] #[])
  fields := #[]
  methods := #[k10m0, k10m1]
  instanceTypes := #[]
  staticTypes := #[]
  resolved := Array.replicate 184 none
  statics := none }

def pool11 : Array CpInfo := pool [(1, .class_ 2), (0, u "java/lang/Math"), (1, .class_ 6), (1, u "java/lang/Object"), (0, u "<init>"), (0, u "()V"), (89, .class_ 100), (1, u "java/lang/Math$RandomNumberGeneratorHolder"), (71, u "negativeZeroFloatBits"), (0, u "J"), (2, u "negativeZeroDoubleBits"), (24, u "min"), (43, u "$assertionsDisabled"), (0, u "Z"), (88, u "(II)I"), (2, u "twoToTheDoubleScaleDown"), (0, u "D"), (4, u "twoToTheDoubleScaleUp"), (9, u "E"), (3, u "PI"), (2, u "TAU"), (2, u "DEGREES_TO_RADIANS"), (0, u "RADIANS_TO_DEGREES")] 94

def k11m0 : Method := { name := "<init>", desc := "()V", sig := { parameters := [], returnType := none }, accessFlags := 2, code := none }
def k11c1 : Code := { maxStack := 2, maxLocals := 2, code := jdk_29_method_69_code, exceptionTable := #[], attributes := #[] }
def k11m1 : Method := { name := "min", desc := "(II)I", sig := { parameters := [.int, .int], returnType := some .int }, accessFlags := 9, code := some k11c1 }
/-- java/lang/Math -/
def k11 : Class := { plain "java/lang/Math" (some 0) with
  accessFlags := 49
  interfaces := #[]
  cf := some (fileOf pool11 1 #[.nestMembers #[98]] #[{ accessFlags := 2, nameIndex := 7, descriptorIndex := 8, attributes := #[] }, { accessFlags := 9, nameIndex := 201, descriptorIndex := 335, attributes := #[] }] 49 4 #[] #[{ accessFlags := 25, nameIndex := 354, descriptorIndex := 339, attributes := #[] }, { accessFlags := 25, nameIndex := 358, descriptorIndex := 339, attributes := #[] }, { accessFlags := 25, nameIndex := 361, descriptorIndex := 339, attributes := #[] }, { accessFlags := 26, nameIndex := 364, descriptorIndex := 339, attributes := #[] }, { accessFlags := 26, nameIndex := 365, descriptorIndex := 339, attributes := #[] }, { accessFlags := 26, nameIndex := 172, descriptorIndex := 173, attributes := #[] }, { accessFlags := 26, nameIndex := 176, descriptorIndex := 173, attributes := #[] }, { accessFlags := 8, nameIndex := 344, descriptorIndex := 339, attributes := #[] }, { accessFlags := 8, nameIndex := 338, descriptorIndex := 339, attributes := #[] }, { accessFlags := 4120, nameIndex := 245, descriptorIndex := 246, attributes := #[] }])
  fields := #[{ name := "E", type := .double, accessFlags := 25, slot := 0, constantValue := 0 }, { name := "PI", type := .double, accessFlags := 25, slot := 1, constantValue := 0 }, { name := "TAU", type := .double, accessFlags := 25, slot := 2, constantValue := 0 }, { name := "DEGREES_TO_RADIANS", type := .double, accessFlags := 26, slot := 3, constantValue := 0 }, { name := "RADIANS_TO_DEGREES", type := .double, accessFlags := 26, slot := 4, constantValue := 0 }, { name := "negativeZeroFloatBits", type := .long, accessFlags := 26, slot := 5, constantValue := 0 }, { name := "negativeZeroDoubleBits", type := .long, accessFlags := 26, slot := 6, constantValue := 0 }, { name := "twoToTheDoubleScaleUp", type := .double, accessFlags := 8, slot := 7, constantValue := 0 }, { name := "twoToTheDoubleScaleDown", type := .double, accessFlags := 8, slot := 8, constantValue := 0 }, { name := "$assertionsDisabled", type := .boolean, accessFlags := 4120, slot := 9, constantValue := 0 }]
  methods := #[k11m0, k11m1]
  instanceTypes := #[]
  staticTypes := #[.double, .double, .double, .double, .double, .long, .long, .double, .double, .boolean]
  resolved := Array.replicate 460 none
  statics := none }

def pool12 : Array CpInfo := pool [(1, u "java/lang/Cloneable"), (0, .class_ 1), (0, u "java/lang/Object"), (0, .class_ 3)] 3

/-- java/lang/Cloneable -/
def k12 : Class := { plain "java/lang/Cloneable" (some 0) with
  accessFlags := 1537
  interfaces := #[]
  cf := some (fileOf pool12 2 #[] #[] 1537 4 #[] #[])
  fields := #[]
  methods := #[]
  instanceTypes := #[]
  staticTypes := #[]
  resolved := Array.replicate 8 none
  statics := none }

/-- the primitive byte -/
def k13 : Class := { plain "byte" none with kind := .primitive 'B', accessFlags := 0x411 }
/-- [B -/
def k14 : Class := { plain "[B" (some 0) with kind := .array 13 .byte, interfaces := #[12, 4], accessFlags := 1041 }

/-- the primitive int -/
def k15 : Class := { plain "int" none with kind := .primitive 'I', accessFlags := 0x411 }
/-- [I -/
def k16 : Class := { plain "[I" (some 0) with kind := .array 15 .int, interfaces := #[12, 4], accessFlags := 1041 }

def heap : Heap := #[{ cls := 6, slots := #[.ref 2, .ref 1, .ref 3, .ref 4, .null], vm := .statics 6 },
  { cls := 6, slots := #[.null, .int 1, .int 0], vm := .none },
  { cls := 6, slots := #[.null, .int 0, .int 0], vm := .none },
  { cls := 6, slots := #[.null, .int 2, .int 0], vm := .none },
  { cls := 6, slots := #[.null, .int 3, .int 0], vm := .none }]
def classes : Array Class := #[k0, k1, k2, k3, k4, k5, k6, k7, k8, k9, k10, k11, k12, k13, k14, k15, k16]
def interned : List (Array UInt16 × Addr) := []
def slotsUsed : Nat := 17
def theMethod : MethodId := ⟨1, 3⟩
def args0 : Array Value := #[.int 5, .int 6]
def aboutOver (below : List Frame) : State where
  vm := { classes := classes, interned := interned.toArray }
  heap := heap
  slotsUsed := slotsUsed
  threads := #[{ frames := .invoking theMethod args0 :: below }]
def below0 : List Frame := [.native { method := ⟨0, 0⟩, args := #[] }]
def about1 : State := aboutOver below0
def p0 : Program := .bare "" "" ""
def e0 : Env := launch0.env 0 0 0
theorem w_frames : about1.frames = Frame.invoking theMethod args0 :: below0 := rfl
set_option maxRecDepth 65536 in
theorem w_args : argsFit about1.vm theMethod args0 = true := by decide +kernel
set_option maxRecDepth 65536 in
theorem w_heap : heapFits about1 = true := by decide +kernel
set_option maxRecDepth 65536 in
theorem w_runnable : about1.curStatus? = some .runnable := by decide +kernel
set_option maxRecDepth 65536 in
theorem w_alone : about1.alone = true := by decide +kernel
set_option maxRecDepth 65536 in
theorem w_named : about1.methodNamed? x = some theMethod := by decide +kernel
set_option maxRecDepth 65536 in
theorem w_hears : about1.hears theMethod below0 = true := by decide +kernel
set_option maxRecDepth 65536 in
theorem w_ripe : about1.ripe theMethod args0 below0 = true := by decide +kernel
theorem w_running : about1.status = .running := rfl
set_option maxRecDepth 65536 in
theorem w_room : about1.hasRoom e0.platform room_1 = true :=
  launch0.hasRoom_least _ room_1 (by decide +kernel) (by decide +kernel) (by decide +kernel) (by decide +kernel) (by decide +kernel) (by decide +kernel)
theorem allAtoms_all (ts : List Jvm.Cond) (a : Array Jvm.Value) (st : Jvm.State) : (allAtoms ts).before a st = ts.all (fun c => c.before a st) := by
  induction ts with
  | nil => rfl
  | cons c t ih =>
    show (Jvm.Cond.and c (allAtoms t)).before a st = _
    rw [Jvm.Cond.before_and, ih, List.all_cons]
def words1 : List Jvm.Cond := Jvm.Cond.code x code maxLocals ret :: tables_1
/-- a 'code' word, met by the world's own term for the bytes: nothing is compared byte by byte -/
theorem code_word {y : MethodName} {bytes : ByteArray} {mx : Nat} {rt : Option FieldType} {a : Array Value} {s : State} {m : MethodId} {meth : Method} {c : Code} (h1 : s.methodNamed? y = some m) (h2 : s.vm.method? m = some meth) (h3 : meth.code = some c) (h4 : c.code = bytes)
    (h5 : (c.maxLocals == mx && c.exceptionTable.isEmpty && decide (c.maxStack ≤ mostOperands) && decide (meth.sig.returnType = rt) && !meth.locks && decide (parseMethodDescriptor y.desc = some meth.sig)) = true) : (Jvm.Cond.code y bytes mx rt).before a s = true := by
  simp only [Bool.and_eq_true, beq_iff_eq, Bool.not_eq_true', decide_eq_true_eq] at h5
  obtain ⟨⟨⟨⟨⟨g1, g2⟩, g3⟩, g4⟩, g5⟩, g6⟩ := h5
  simp [Cond.before, Cond.holds, Cond.value, h1, h2, h3, h4, g1, g2, g3, g4, g5, g6]
def isCode : Jvm.Cond → Bool
  | .code _ _ _ _ => true
  | _ => false
theorem all_split {L : List Jvm.Cond} {P : Jvm.Cond → Bool} (h1 : L.all (fun c => isCode c || P c) = true) (h2 : ∀ c ∈ L.filter isCode, P c = true) : L.all P = true := by
  refine List.all_eq_true.mpr fun c hc => ?_
  have h := List.all_eq_true.mp h1 c hc
  rcases Bool.eq_false_or_eq_true (isCode c) with hi | hi
  · exact h2 c (List.mem_filter.mpr ⟨hc, hi⟩)
  · simpa [hi] using h
set_option maxRecDepth 65536 in
theorem w_c0 : (Jvm.Cond.code x code maxLocals ret).before args0 about1 = true := code_word (m := ⟨1, 3⟩) (meth := k1m3) (c := k1c3) (by decide +kernel) rfl rfl rfl (by decide +kernel)
set_option maxRecDepth 65536 in
theorem w_c1 : (Jvm.Cond.code ({ cls := "com/example/usage_verdict/usageverdict/engine/TruthAndPinLaw", name := "fromRank", desc := "(I)Lcom/example/usage_verdict/usageverdict/engine/Truth;" } : Jvm.MethodName) method_2_code (1 : Nat) (Option.some (Jvm.ClassFile.FieldType.object "com/example/usage_verdict/usageverdict/engine/Truth"))).before args0 about1 = true := code_word (m := ⟨1, 1⟩) (meth := k1m1) (c := k1c1) (by decide +kernel) rfl rfl rfl (by decide +kernel)
set_option maxRecDepth 65536 in
theorem w_c2 : (Jvm.Cond.code ({ cls := "com/example/usage_verdict/usageverdict/engine/Truth", name := "and", desc := "(Lcom/example/usage_verdict/usageverdict/engine/Truth;)Lcom/example/usage_verdict/usageverdict/engine/Truth;" } : Jvm.MethodName) prog_29_method_4_code (3 : Nat) (Option.some (Jvm.ClassFile.FieldType.object "com/example/usage_verdict/usageverdict/engine/Truth"))).before args0 about1 = true := code_word (m := ⟨6, 0⟩) (meth := k6m0) (c := k6c0) (by decide +kernel) rfl rfl rfl (by decide +kernel)
set_option maxRecDepth 65536 in
theorem w_c3 : (Jvm.Cond.code ({ cls := "java/util/Objects", name := "requireNonNull", desc := "(Ljava/lang/Object;Ljava/lang/String;)Ljava/lang/Object;" } : Jvm.MethodName) jdk_31_method_11_code (2 : Nat) (Option.some (Jvm.ClassFile.FieldType.object "java/lang/Object"))).before args0 about1 = true := code_word (m := ⟨10, 1⟩) (meth := k10m1) (c := k10c1) (by decide +kernel) rfl rfl rfl (by decide +kernel)
set_option maxRecDepth 65536 in
theorem w_c4 : (Jvm.Cond.code ({ cls := "com/example/usage_verdict/usageverdict/engine/TruthAndPinLaw", name := "rank", desc := "(Lcom/example/usage_verdict/usageverdict/engine/Truth;)I" } : Jvm.MethodName) method_3_code (1 : Nat) (Option.some Jvm.ClassFile.FieldType.int)).before args0 about1 = true := code_word (m := ⟨1, 2⟩) (meth := k1m2) (c := k1c2) (by decide +kernel) rfl rfl rfl (by decide +kernel)
set_option maxRecDepth 65536 in
theorem w_c5 : (Jvm.Cond.code ({ cls := "java/lang/Math", name := "min", desc := "(II)I" } : Jvm.MethodName) jdk_29_method_69_code (2 : Nat) (Option.some Jvm.ClassFile.FieldType.int)).before args0 about1 = true := code_word (m := ⟨11, 1⟩) (meth := k11m1) (c := k11c1) (by decide +kernel) rfl rfl rfl (by decide +kernel)
def codes1 : List Jvm.Cond := [Jvm.Cond.code x code maxLocals ret, Jvm.Cond.code ({ cls := "com/example/usage_verdict/usageverdict/engine/TruthAndPinLaw", name := "fromRank", desc := "(I)Lcom/example/usage_verdict/usageverdict/engine/Truth;" } : Jvm.MethodName) method_2_code (1 : Nat) (Option.some (Jvm.ClassFile.FieldType.object "com/example/usage_verdict/usageverdict/engine/Truth")), Jvm.Cond.code ({ cls := "com/example/usage_verdict/usageverdict/engine/Truth", name := "and", desc := "(Lcom/example/usage_verdict/usageverdict/engine/Truth;)Lcom/example/usage_verdict/usageverdict/engine/Truth;" } : Jvm.MethodName) prog_29_method_4_code (3 : Nat) (Option.some (Jvm.ClassFile.FieldType.object "com/example/usage_verdict/usageverdict/engine/Truth")), Jvm.Cond.code ({ cls := "java/util/Objects", name := "requireNonNull", desc := "(Ljava/lang/Object;Ljava/lang/String;)Ljava/lang/Object;" } : Jvm.MethodName) jdk_31_method_11_code (2 : Nat) (Option.some (Jvm.ClassFile.FieldType.object "java/lang/Object")), Jvm.Cond.code ({ cls := "com/example/usage_verdict/usageverdict/engine/TruthAndPinLaw", name := "rank", desc := "(Lcom/example/usage_verdict/usageverdict/engine/Truth;)I" } : Jvm.MethodName) method_3_code (1 : Nat) (Option.some Jvm.ClassFile.FieldType.int), Jvm.Cond.code ({ cls := "java/lang/Math", name := "min", desc := "(II)I" } : Jvm.MethodName) jdk_29_method_69_code (2 : Nat) (Option.some Jvm.ClassFile.FieldType.int)]
set_option maxRecDepth 65536 in
theorem codes_eq : words1.filter isCode = codes1 := rfl
theorem w_codes : ∀ c ∈ words1.filter isCode, c.before args0 about1 = true := by
  rw [codes_eq]
  intro c hc
  simp only [codes1, List.mem_cons, List.not_mem_nil, or_false] at hc
  rcases hc with rfl | rfl | rfl | rfl | rfl | rfl
  · exact w_c0
  · exact w_c1
  · exact w_c2
  · exact w_c3
  · exact w_c4
  · exact w_c5
set_option maxRecDepth 65536 in
theorem w_t1 : (words1.take 24).all (fun c => isCode c || c.before args0 about1) = true := by decide +kernel
set_option maxRecDepth 65536 in
theorem w_t2 : (words1.drop 24).all (fun c => isCode c || c.before args0 about1) = true := by decide +kernel
theorem w_tables : (allAtoms (Jvm.Cond.code x code maxLocals ret :: tables_1)).before args0 about1 = true := by
  rw [allAtoms_all]
  show words1.all (fun c => c.before args0 about1) = true
  refine all_split ?_ w_codes
  rw [← List.take_append_drop 24 words1, List.all_append, w_t1, w_t2]
  rfl
set_option maxRecDepth 65536 in
theorem w_case : (Jvm.Cond.and given_1 narrow_1).before args0 about1 = true := by decide +kernel
theorem w_applies : (headSpec (Jvm.Cond.code x code maxLocals ret :: tables_1) room_1).applies x e0.platform about1 = true :=
  (Spec.applies_iff w_frames).mpr ⟨w_running, w_runnable, w_alone, w_named, w_hears, w_ripe, w_room, w_tables⟩
theorem atStart : AtStart classFile x code maxLocals ret World_1 tables_1 room_1 Calls_1 rest_1 Pre_1 launch0 p0 e0 about1 theMethod args0 below0 :=
  ⟨lists_1, trivial, launch0.admits_env _ _ _, launch0.least_env, fairChoices_fair.cas, fairChoices_fair.clock, w_frames, w_args, w_heap, w_applies, trivial, trivial, w_case⟩
end start1
theorem witness_1 : WitnessClaimed_1 := ⟨start1.p0, start1.e0, start1.about1, start1.theMethod, start1.args0, start1.below0, start1.atStart⟩
end Jvm.Pilot.@@N@@
