import JvmDerived
import JvmDerived.Pilot.@@N@@Statement
import JvmDerived.Pilot.@@N@@Code
set_option linter.unusedVariables false
set_option linter.unusedSimpArgs false
namespace Jvm.RoadKit
open Sem ClassFile Op Lib Jvm.Stand Jvm.Free Jvm.LawKit
section New
variable {p : Program} {l : Launch} {e : Env} {R : Room} {s : State} {m : MethodId} {args : Array Value} {below : List Frame} {meth : Method} {c : Code} {T : State} {locs : List Loc} {cells slots : Nat}
theorem retI (X : Stand p l e R s m args below meth c T locs cells slots) (hx : p.tables.exec = Jvm.exec) {pc : Nat} {Ls : Array Slot} {z : Int32} {rest : List Value} (hret : meth.sig.returnType = some .int) (hd : decode c.code pc = .ok (.ireturn, 1)) {fs : List Frame}
    (hl : ∀ (f : JFrame) (acts : List Action), f.method = m → f.locked = none → f.entered = [] → (doReturn e (T.setTop f) acts (some (.int z))).1 = T.setFrames fs) : Steps p.tables e below (T.setTop (mkF m pc Ls (.int z :: rest))) (T.setFrames fs) := by
  have hm' : T.vm.method? m = some meth := X.method'
  have hn : narrow .int (.int z) = .int z := rfl
  show Steps p.tables e below (T.setTop { method := m, pc := pc, locals := Ls, stack := _ :: rest, locked := none }) _
  jvm_step X.here [X.here.top, hx, hd, hm', hret, hn]
  first | (intro acts; rw [hl _ acts rfl rfl rfl]) | rw [hl _ _ rfl rfl rfl]
  exact Steps.refl _
end New
end Jvm.RoadKit
namespace Jvm.Pilot.@@N@@
open Jvm Jvm.ClassFile Sem Op Lib Jvm.Free Jvm.Stand Jvm.LawKit Jvm.RoadKit Bundle Jvm.Pilot.@@N@@.Jvm.D
theorem own_ext_refl (h : Heap) : Ext h h := ⟨Nat.le_refl _, fun _ _ q => q⟩
theorem own_ext_trans {h h' h2 : Heap} (A : Ext h h') (B : Ext h' h2) : Ext h h2 := ⟨Nat.le_trans A.1 B.1, fun a c q => B.2 a c (A.2 a c q)⟩
theorem own_ext_keep {h h' h2 : Heap} {ws : List Addr} (A : Ext h h') (K : Keep h' h2 ws) (q : ∀ x ∈ ws, h.size ≤ x) : Ext h h2 := ⟨Nat.le_trans A.1 K.1, fun a c r => K.2.1 a c (A.2 a c r) fun z => absurd (Array.getElem?_eq_some_iff.mp r).1 (Nat.not_lt.mpr (q a z))⟩
theorem own_pin {args : Array Value} {Z : State} {t : Term} {C : String} (h : (Jvm.Cond.exactly t C).value args Z none Z [] = some true) : ∃ a, t.eval args Z none [] Z = some (.ref a) ∧ Exa Z Z.heap a C := by
  obtain ⟨a, ev⟩ := exa_v h
  exact ⟨a, ev, Exa.start ev h⟩
theorem own_fld {args : Array Value} {Z : State} {t : Term} {a : Addr} {C n d : String} {k : Int32} (ev : t.eval args Z none [] Z = some (.ref a)) (h : (Jvm.Cond.eq (.field t C n d) (.int k)).value args Z none Z [] = some true) : Fld Z Z.heap a C n d (.int k) := by
  obtain ⟨x, y, h1, h2, hk, -⟩ := cmp_v (Or.inl h)
  have h2' : y = .int k := (Option.some.inj h2).symm
  subst h2'
  have hx : ∃ z, x = .int z := by cases x <;> simp [Kin, Value.isRef] at hk ⊢
  obtain ⟨z, rfl⟩ := hx
  have hv : (Jvm.Cond.eq (.field t C n d) (.int k)).value args Z none Z [] = some (decide (z = k)) := by simp only [Jvm.Cond.value, h1, h2]
  have e : z = k := gotT hv h
  subst e
  exact Fld.start (by rw [← fld_at ev]; exact h1)
def Pins (Z : State) (w_DAY w_AT_THE_OPEN w_AT_THE_CLOSE w_IMMEDIATE_OR_CANCEL w_GOOD_TILL_CANCEL w_FILL_OR_KILL : Addr) : Prop := Sta Z Z.heap "com/example/synallage/synallage/model/TimeInForce" "DAY" "Lcom/example/synallage/synallage/model/TimeInForce;" (.ref w_DAY) ∧ Sta Z Z.heap "com/example/synallage/synallage/model/TimeInForce" "AT_THE_OPEN" "Lcom/example/synallage/synallage/model/TimeInForce;" (.ref w_AT_THE_OPEN) ∧ Sta Z Z.heap "com/example/synallage/synallage/model/TimeInForce" "AT_THE_CLOSE" "Lcom/example/synallage/synallage/model/TimeInForce;" (.ref w_AT_THE_CLOSE) ∧ Sta Z Z.heap "com/example/synallage/synallage/model/TimeInForce" "IMMEDIATE_OR_CANCEL" "Lcom/example/synallage/synallage/model/TimeInForce;" (.ref w_IMMEDIATE_OR_CANCEL) ∧ Sta Z Z.heap "com/example/synallage/synallage/model/TimeInForce" "GOOD_TILL_CANCEL" "Lcom/example/synallage/synallage/model/TimeInForce;" (.ref w_GOOD_TILL_CANCEL) ∧ Sta Z Z.heap "com/example/synallage/synallage/model/TimeInForce" "FILL_OR_KILL" "Lcom/example/synallage/synallage/model/TimeInForce;" (.ref w_FILL_OR_KILL) ∧ Exa Z Z.heap w_DAY "com/example/synallage/synallage/model/TimeInForce" ∧ Exa Z Z.heap w_AT_THE_OPEN "com/example/synallage/synallage/model/TimeInForce" ∧ Exa Z Z.heap w_AT_THE_CLOSE "com/example/synallage/synallage/model/TimeInForce" ∧ Exa Z Z.heap w_IMMEDIATE_OR_CANCEL "com/example/synallage/synallage/model/TimeInForce" ∧ Exa Z Z.heap w_GOOD_TILL_CANCEL "com/example/synallage/synallage/model/TimeInForce" ∧ Exa Z Z.heap w_FILL_OR_KILL "com/example/synallage/synallage/model/TimeInForce" ∧ Fld Z Z.heap w_DAY "java/lang/Enum" "ordinal" "I" (.int (0 : Int32)) ∧ Fld Z Z.heap w_AT_THE_OPEN "java/lang/Enum" "ordinal" "I" (.int (2 : Int32)) ∧ Fld Z Z.heap w_AT_THE_CLOSE "java/lang/Enum" "ordinal" "I" (.int (5 : Int32)) ∧ Fld Z Z.heap w_IMMEDIATE_OR_CANCEL "java/lang/Enum" "ordinal" "I" (.int (3 : Int32)) ∧ Fld Z Z.heap w_GOOD_TILL_CANCEL "java/lang/Enum" "ordinal" "I" (.int (1 : Int32)) ∧ Fld Z Z.heap w_FILL_OR_KILL "java/lang/Enum" "ordinal" "I" (.int (4 : Int32))
theorem own_ne_DAY_AT_THE_OPEN {Z : State} {w_DAY w_AT_THE_OPEN w_AT_THE_CLOSE w_IMMEDIATE_OR_CANCEL w_GOOD_TILL_CANCEL w_FILL_OR_KILL : Addr} (P : Pins Z w_DAY w_AT_THE_OPEN w_AT_THE_CLOSE w_IMMEDIATE_OR_CANCEL w_GOOD_TILL_CANCEL w_FILL_OR_KILL) : w_DAY ≠ w_AT_THE_OPEN := by
  obtain ⟨S_DAY, S_AT_THE_OPEN, S_AT_THE_CLOSE, S_IMMEDIATE_OR_CANCEL, S_GOOD_TILL_CANCEL, S_FILL_OR_KILL, E_DAY, E_AT_THE_OPEN, E_AT_THE_CLOSE, E_IMMEDIATE_OR_CANCEL, E_GOOD_TILL_CANCEL, E_FILL_OR_KILL, F_ordinal_DAY, F_ordinal_AT_THE_OPEN, F_ordinal_AT_THE_CLOSE, F_ordinal_IMMEDIATE_OR_CANCEL, F_ordinal_GOOD_TILL_CANCEL, F_ordinal_FILL_OR_KILL⟩ := P
  exact Fld.ne F_ordinal_DAY F_ordinal_AT_THE_OPEN (by decide)
theorem own_ne_DAY_AT_THE_CLOSE {Z : State} {w_DAY w_AT_THE_OPEN w_AT_THE_CLOSE w_IMMEDIATE_OR_CANCEL w_GOOD_TILL_CANCEL w_FILL_OR_KILL : Addr} (P : Pins Z w_DAY w_AT_THE_OPEN w_AT_THE_CLOSE w_IMMEDIATE_OR_CANCEL w_GOOD_TILL_CANCEL w_FILL_OR_KILL) : w_DAY ≠ w_AT_THE_CLOSE := by
  obtain ⟨S_DAY, S_AT_THE_OPEN, S_AT_THE_CLOSE, S_IMMEDIATE_OR_CANCEL, S_GOOD_TILL_CANCEL, S_FILL_OR_KILL, E_DAY, E_AT_THE_OPEN, E_AT_THE_CLOSE, E_IMMEDIATE_OR_CANCEL, E_GOOD_TILL_CANCEL, E_FILL_OR_KILL, F_ordinal_DAY, F_ordinal_AT_THE_OPEN, F_ordinal_AT_THE_CLOSE, F_ordinal_IMMEDIATE_OR_CANCEL, F_ordinal_GOOD_TILL_CANCEL, F_ordinal_FILL_OR_KILL⟩ := P
  exact Fld.ne F_ordinal_DAY F_ordinal_AT_THE_CLOSE (by decide)
theorem own_ne_DAY_IMMEDIATE_OR_CANCEL {Z : State} {w_DAY w_AT_THE_OPEN w_AT_THE_CLOSE w_IMMEDIATE_OR_CANCEL w_GOOD_TILL_CANCEL w_FILL_OR_KILL : Addr} (P : Pins Z w_DAY w_AT_THE_OPEN w_AT_THE_CLOSE w_IMMEDIATE_OR_CANCEL w_GOOD_TILL_CANCEL w_FILL_OR_KILL) : w_DAY ≠ w_IMMEDIATE_OR_CANCEL := by
  obtain ⟨S_DAY, S_AT_THE_OPEN, S_AT_THE_CLOSE, S_IMMEDIATE_OR_CANCEL, S_GOOD_TILL_CANCEL, S_FILL_OR_KILL, E_DAY, E_AT_THE_OPEN, E_AT_THE_CLOSE, E_IMMEDIATE_OR_CANCEL, E_GOOD_TILL_CANCEL, E_FILL_OR_KILL, F_ordinal_DAY, F_ordinal_AT_THE_OPEN, F_ordinal_AT_THE_CLOSE, F_ordinal_IMMEDIATE_OR_CANCEL, F_ordinal_GOOD_TILL_CANCEL, F_ordinal_FILL_OR_KILL⟩ := P
  exact Fld.ne F_ordinal_DAY F_ordinal_IMMEDIATE_OR_CANCEL (by decide)
theorem own_ne_DAY_GOOD_TILL_CANCEL {Z : State} {w_DAY w_AT_THE_OPEN w_AT_THE_CLOSE w_IMMEDIATE_OR_CANCEL w_GOOD_TILL_CANCEL w_FILL_OR_KILL : Addr} (P : Pins Z w_DAY w_AT_THE_OPEN w_AT_THE_CLOSE w_IMMEDIATE_OR_CANCEL w_GOOD_TILL_CANCEL w_FILL_OR_KILL) : w_DAY ≠ w_GOOD_TILL_CANCEL := by
  obtain ⟨S_DAY, S_AT_THE_OPEN, S_AT_THE_CLOSE, S_IMMEDIATE_OR_CANCEL, S_GOOD_TILL_CANCEL, S_FILL_OR_KILL, E_DAY, E_AT_THE_OPEN, E_AT_THE_CLOSE, E_IMMEDIATE_OR_CANCEL, E_GOOD_TILL_CANCEL, E_FILL_OR_KILL, F_ordinal_DAY, F_ordinal_AT_THE_OPEN, F_ordinal_AT_THE_CLOSE, F_ordinal_IMMEDIATE_OR_CANCEL, F_ordinal_GOOD_TILL_CANCEL, F_ordinal_FILL_OR_KILL⟩ := P
  exact Fld.ne F_ordinal_DAY F_ordinal_GOOD_TILL_CANCEL (by decide)
theorem own_ne_DAY_FILL_OR_KILL {Z : State} {w_DAY w_AT_THE_OPEN w_AT_THE_CLOSE w_IMMEDIATE_OR_CANCEL w_GOOD_TILL_CANCEL w_FILL_OR_KILL : Addr} (P : Pins Z w_DAY w_AT_THE_OPEN w_AT_THE_CLOSE w_IMMEDIATE_OR_CANCEL w_GOOD_TILL_CANCEL w_FILL_OR_KILL) : w_DAY ≠ w_FILL_OR_KILL := by
  obtain ⟨S_DAY, S_AT_THE_OPEN, S_AT_THE_CLOSE, S_IMMEDIATE_OR_CANCEL, S_GOOD_TILL_CANCEL, S_FILL_OR_KILL, E_DAY, E_AT_THE_OPEN, E_AT_THE_CLOSE, E_IMMEDIATE_OR_CANCEL, E_GOOD_TILL_CANCEL, E_FILL_OR_KILL, F_ordinal_DAY, F_ordinal_AT_THE_OPEN, F_ordinal_AT_THE_CLOSE, F_ordinal_IMMEDIATE_OR_CANCEL, F_ordinal_GOOD_TILL_CANCEL, F_ordinal_FILL_OR_KILL⟩ := P
  exact Fld.ne F_ordinal_DAY F_ordinal_FILL_OR_KILL (by decide)
theorem own_ne_AT_THE_OPEN_AT_THE_CLOSE {Z : State} {w_DAY w_AT_THE_OPEN w_AT_THE_CLOSE w_IMMEDIATE_OR_CANCEL w_GOOD_TILL_CANCEL w_FILL_OR_KILL : Addr} (P : Pins Z w_DAY w_AT_THE_OPEN w_AT_THE_CLOSE w_IMMEDIATE_OR_CANCEL w_GOOD_TILL_CANCEL w_FILL_OR_KILL) : w_AT_THE_OPEN ≠ w_AT_THE_CLOSE := by
  obtain ⟨S_DAY, S_AT_THE_OPEN, S_AT_THE_CLOSE, S_IMMEDIATE_OR_CANCEL, S_GOOD_TILL_CANCEL, S_FILL_OR_KILL, E_DAY, E_AT_THE_OPEN, E_AT_THE_CLOSE, E_IMMEDIATE_OR_CANCEL, E_GOOD_TILL_CANCEL, E_FILL_OR_KILL, F_ordinal_DAY, F_ordinal_AT_THE_OPEN, F_ordinal_AT_THE_CLOSE, F_ordinal_IMMEDIATE_OR_CANCEL, F_ordinal_GOOD_TILL_CANCEL, F_ordinal_FILL_OR_KILL⟩ := P
  exact Fld.ne F_ordinal_AT_THE_OPEN F_ordinal_AT_THE_CLOSE (by decide)
theorem own_ne_AT_THE_OPEN_IMMEDIATE_OR_CANCEL {Z : State} {w_DAY w_AT_THE_OPEN w_AT_THE_CLOSE w_IMMEDIATE_OR_CANCEL w_GOOD_TILL_CANCEL w_FILL_OR_KILL : Addr} (P : Pins Z w_DAY w_AT_THE_OPEN w_AT_THE_CLOSE w_IMMEDIATE_OR_CANCEL w_GOOD_TILL_CANCEL w_FILL_OR_KILL) : w_AT_THE_OPEN ≠ w_IMMEDIATE_OR_CANCEL := by
  obtain ⟨S_DAY, S_AT_THE_OPEN, S_AT_THE_CLOSE, S_IMMEDIATE_OR_CANCEL, S_GOOD_TILL_CANCEL, S_FILL_OR_KILL, E_DAY, E_AT_THE_OPEN, E_AT_THE_CLOSE, E_IMMEDIATE_OR_CANCEL, E_GOOD_TILL_CANCEL, E_FILL_OR_KILL, F_ordinal_DAY, F_ordinal_AT_THE_OPEN, F_ordinal_AT_THE_CLOSE, F_ordinal_IMMEDIATE_OR_CANCEL, F_ordinal_GOOD_TILL_CANCEL, F_ordinal_FILL_OR_KILL⟩ := P
  exact Fld.ne F_ordinal_AT_THE_OPEN F_ordinal_IMMEDIATE_OR_CANCEL (by decide)
theorem own_ne_AT_THE_OPEN_GOOD_TILL_CANCEL {Z : State} {w_DAY w_AT_THE_OPEN w_AT_THE_CLOSE w_IMMEDIATE_OR_CANCEL w_GOOD_TILL_CANCEL w_FILL_OR_KILL : Addr} (P : Pins Z w_DAY w_AT_THE_OPEN w_AT_THE_CLOSE w_IMMEDIATE_OR_CANCEL w_GOOD_TILL_CANCEL w_FILL_OR_KILL) : w_AT_THE_OPEN ≠ w_GOOD_TILL_CANCEL := by
  obtain ⟨S_DAY, S_AT_THE_OPEN, S_AT_THE_CLOSE, S_IMMEDIATE_OR_CANCEL, S_GOOD_TILL_CANCEL, S_FILL_OR_KILL, E_DAY, E_AT_THE_OPEN, E_AT_THE_CLOSE, E_IMMEDIATE_OR_CANCEL, E_GOOD_TILL_CANCEL, E_FILL_OR_KILL, F_ordinal_DAY, F_ordinal_AT_THE_OPEN, F_ordinal_AT_THE_CLOSE, F_ordinal_IMMEDIATE_OR_CANCEL, F_ordinal_GOOD_TILL_CANCEL, F_ordinal_FILL_OR_KILL⟩ := P
  exact Fld.ne F_ordinal_AT_THE_OPEN F_ordinal_GOOD_TILL_CANCEL (by decide)
theorem own_ne_AT_THE_OPEN_FILL_OR_KILL {Z : State} {w_DAY w_AT_THE_OPEN w_AT_THE_CLOSE w_IMMEDIATE_OR_CANCEL w_GOOD_TILL_CANCEL w_FILL_OR_KILL : Addr} (P : Pins Z w_DAY w_AT_THE_OPEN w_AT_THE_CLOSE w_IMMEDIATE_OR_CANCEL w_GOOD_TILL_CANCEL w_FILL_OR_KILL) : w_AT_THE_OPEN ≠ w_FILL_OR_KILL := by
  obtain ⟨S_DAY, S_AT_THE_OPEN, S_AT_THE_CLOSE, S_IMMEDIATE_OR_CANCEL, S_GOOD_TILL_CANCEL, S_FILL_OR_KILL, E_DAY, E_AT_THE_OPEN, E_AT_THE_CLOSE, E_IMMEDIATE_OR_CANCEL, E_GOOD_TILL_CANCEL, E_FILL_OR_KILL, F_ordinal_DAY, F_ordinal_AT_THE_OPEN, F_ordinal_AT_THE_CLOSE, F_ordinal_IMMEDIATE_OR_CANCEL, F_ordinal_GOOD_TILL_CANCEL, F_ordinal_FILL_OR_KILL⟩ := P
  exact Fld.ne F_ordinal_AT_THE_OPEN F_ordinal_FILL_OR_KILL (by decide)
theorem own_ne_AT_THE_CLOSE_IMMEDIATE_OR_CANCEL {Z : State} {w_DAY w_AT_THE_OPEN w_AT_THE_CLOSE w_IMMEDIATE_OR_CANCEL w_GOOD_TILL_CANCEL w_FILL_OR_KILL : Addr} (P : Pins Z w_DAY w_AT_THE_OPEN w_AT_THE_CLOSE w_IMMEDIATE_OR_CANCEL w_GOOD_TILL_CANCEL w_FILL_OR_KILL) : w_AT_THE_CLOSE ≠ w_IMMEDIATE_OR_CANCEL := by
  obtain ⟨S_DAY, S_AT_THE_OPEN, S_AT_THE_CLOSE, S_IMMEDIATE_OR_CANCEL, S_GOOD_TILL_CANCEL, S_FILL_OR_KILL, E_DAY, E_AT_THE_OPEN, E_AT_THE_CLOSE, E_IMMEDIATE_OR_CANCEL, E_GOOD_TILL_CANCEL, E_FILL_OR_KILL, F_ordinal_DAY, F_ordinal_AT_THE_OPEN, F_ordinal_AT_THE_CLOSE, F_ordinal_IMMEDIATE_OR_CANCEL, F_ordinal_GOOD_TILL_CANCEL, F_ordinal_FILL_OR_KILL⟩ := P
  exact Fld.ne F_ordinal_AT_THE_CLOSE F_ordinal_IMMEDIATE_OR_CANCEL (by decide)
theorem own_ne_AT_THE_CLOSE_GOOD_TILL_CANCEL {Z : State} {w_DAY w_AT_THE_OPEN w_AT_THE_CLOSE w_IMMEDIATE_OR_CANCEL w_GOOD_TILL_CANCEL w_FILL_OR_KILL : Addr} (P : Pins Z w_DAY w_AT_THE_OPEN w_AT_THE_CLOSE w_IMMEDIATE_OR_CANCEL w_GOOD_TILL_CANCEL w_FILL_OR_KILL) : w_AT_THE_CLOSE ≠ w_GOOD_TILL_CANCEL := by
  obtain ⟨S_DAY, S_AT_THE_OPEN, S_AT_THE_CLOSE, S_IMMEDIATE_OR_CANCEL, S_GOOD_TILL_CANCEL, S_FILL_OR_KILL, E_DAY, E_AT_THE_OPEN, E_AT_THE_CLOSE, E_IMMEDIATE_OR_CANCEL, E_GOOD_TILL_CANCEL, E_FILL_OR_KILL, F_ordinal_DAY, F_ordinal_AT_THE_OPEN, F_ordinal_AT_THE_CLOSE, F_ordinal_IMMEDIATE_OR_CANCEL, F_ordinal_GOOD_TILL_CANCEL, F_ordinal_FILL_OR_KILL⟩ := P
  exact Fld.ne F_ordinal_AT_THE_CLOSE F_ordinal_GOOD_TILL_CANCEL (by decide)
theorem own_ne_AT_THE_CLOSE_FILL_OR_KILL {Z : State} {w_DAY w_AT_THE_OPEN w_AT_THE_CLOSE w_IMMEDIATE_OR_CANCEL w_GOOD_TILL_CANCEL w_FILL_OR_KILL : Addr} (P : Pins Z w_DAY w_AT_THE_OPEN w_AT_THE_CLOSE w_IMMEDIATE_OR_CANCEL w_GOOD_TILL_CANCEL w_FILL_OR_KILL) : w_AT_THE_CLOSE ≠ w_FILL_OR_KILL := by
  obtain ⟨S_DAY, S_AT_THE_OPEN, S_AT_THE_CLOSE, S_IMMEDIATE_OR_CANCEL, S_GOOD_TILL_CANCEL, S_FILL_OR_KILL, E_DAY, E_AT_THE_OPEN, E_AT_THE_CLOSE, E_IMMEDIATE_OR_CANCEL, E_GOOD_TILL_CANCEL, E_FILL_OR_KILL, F_ordinal_DAY, F_ordinal_AT_THE_OPEN, F_ordinal_AT_THE_CLOSE, F_ordinal_IMMEDIATE_OR_CANCEL, F_ordinal_GOOD_TILL_CANCEL, F_ordinal_FILL_OR_KILL⟩ := P
  exact Fld.ne F_ordinal_AT_THE_CLOSE F_ordinal_FILL_OR_KILL (by decide)
theorem own_ne_IMMEDIATE_OR_CANCEL_GOOD_TILL_CANCEL {Z : State} {w_DAY w_AT_THE_OPEN w_AT_THE_CLOSE w_IMMEDIATE_OR_CANCEL w_GOOD_TILL_CANCEL w_FILL_OR_KILL : Addr} (P : Pins Z w_DAY w_AT_THE_OPEN w_AT_THE_CLOSE w_IMMEDIATE_OR_CANCEL w_GOOD_TILL_CANCEL w_FILL_OR_KILL) : w_IMMEDIATE_OR_CANCEL ≠ w_GOOD_TILL_CANCEL := by
  obtain ⟨S_DAY, S_AT_THE_OPEN, S_AT_THE_CLOSE, S_IMMEDIATE_OR_CANCEL, S_GOOD_TILL_CANCEL, S_FILL_OR_KILL, E_DAY, E_AT_THE_OPEN, E_AT_THE_CLOSE, E_IMMEDIATE_OR_CANCEL, E_GOOD_TILL_CANCEL, E_FILL_OR_KILL, F_ordinal_DAY, F_ordinal_AT_THE_OPEN, F_ordinal_AT_THE_CLOSE, F_ordinal_IMMEDIATE_OR_CANCEL, F_ordinal_GOOD_TILL_CANCEL, F_ordinal_FILL_OR_KILL⟩ := P
  exact Fld.ne F_ordinal_IMMEDIATE_OR_CANCEL F_ordinal_GOOD_TILL_CANCEL (by decide)
theorem own_ne_IMMEDIATE_OR_CANCEL_FILL_OR_KILL {Z : State} {w_DAY w_AT_THE_OPEN w_AT_THE_CLOSE w_IMMEDIATE_OR_CANCEL w_GOOD_TILL_CANCEL w_FILL_OR_KILL : Addr} (P : Pins Z w_DAY w_AT_THE_OPEN w_AT_THE_CLOSE w_IMMEDIATE_OR_CANCEL w_GOOD_TILL_CANCEL w_FILL_OR_KILL) : w_IMMEDIATE_OR_CANCEL ≠ w_FILL_OR_KILL := by
  obtain ⟨S_DAY, S_AT_THE_OPEN, S_AT_THE_CLOSE, S_IMMEDIATE_OR_CANCEL, S_GOOD_TILL_CANCEL, S_FILL_OR_KILL, E_DAY, E_AT_THE_OPEN, E_AT_THE_CLOSE, E_IMMEDIATE_OR_CANCEL, E_GOOD_TILL_CANCEL, E_FILL_OR_KILL, F_ordinal_DAY, F_ordinal_AT_THE_OPEN, F_ordinal_AT_THE_CLOSE, F_ordinal_IMMEDIATE_OR_CANCEL, F_ordinal_GOOD_TILL_CANCEL, F_ordinal_FILL_OR_KILL⟩ := P
  exact Fld.ne F_ordinal_IMMEDIATE_OR_CANCEL F_ordinal_FILL_OR_KILL (by decide)
theorem own_ne_GOOD_TILL_CANCEL_FILL_OR_KILL {Z : State} {w_DAY w_AT_THE_OPEN w_AT_THE_CLOSE w_IMMEDIATE_OR_CANCEL w_GOOD_TILL_CANCEL w_FILL_OR_KILL : Addr} (P : Pins Z w_DAY w_AT_THE_OPEN w_AT_THE_CLOSE w_IMMEDIATE_OR_CANCEL w_GOOD_TILL_CANCEL w_FILL_OR_KILL) : w_GOOD_TILL_CANCEL ≠ w_FILL_OR_KILL := by
  obtain ⟨S_DAY, S_AT_THE_OPEN, S_AT_THE_CLOSE, S_IMMEDIATE_OR_CANCEL, S_GOOD_TILL_CANCEL, S_FILL_OR_KILL, E_DAY, E_AT_THE_OPEN, E_AT_THE_CLOSE, E_IMMEDIATE_OR_CANCEL, E_GOOD_TILL_CANCEL, E_FILL_OR_KILL, F_ordinal_DAY, F_ordinal_AT_THE_OPEN, F_ordinal_AT_THE_CLOSE, F_ordinal_IMMEDIATE_OR_CANCEL, F_ordinal_GOOD_TILL_CANCEL, F_ordinal_FILL_OR_KILL⟩ := P
  exact Fld.ne F_ordinal_GOOD_TILL_CANCEL F_ordinal_FILL_OR_KILL (by decide)
theorem ef_1 (m : MethodId) (x0 : Addr) : entryFrame m #[(.ref x0)] 1 = mkF m 0 #[.val (.ref x0)] [] := by first | (simp [entryFrame, mkF, argsToLocals, Value.category]; done) | rfl
theorem pn_com_example_synallage_synallage_model_TimeInForce : plainName "com/example/synallage/synallage/model/TimeInForce" = true := by first | (simp [plainName, overriddenIn]; done) | decide +kernel
theorem d1_0 : decode prog_76_method_4_code 0 = .ok (.aload_n 0, 1) := by decide +kernel
theorem d1_1 : decode prog_76_method_4_code 1 = .ok (.getstatic 10, 3) := by decide +kernel
theorem d1_4 : decode prog_76_method_4_code 4 = .ok (.if_acmp .eq 10, 3) := by decide +kernel
theorem d1_14 : decode prog_76_method_4_code 14 = .ok (.iconst 1, 1) := by decide +kernel
theorem d1_15 : decode prog_76_method_4_code 15 = .ok (.goto 4, 3) := by decide +kernel
theorem d1_19 : decode prog_76_method_4_code 19 = .ok (.ireturn, 1) := by decide +kernel
theorem d1_7 : decode prog_76_method_4_code 7 = .ok (.aload_n 0, 1) := by decide +kernel
theorem d1_8 : decode prog_76_method_4_code 8 = .ok (.getstatic 19, 3) := by decide +kernel
theorem d1_11 : decode prog_76_method_4_code 11 = .ok (.if_acmp .ne 7, 3) := by decide +kernel
theorem d1_18 : decode prog_76_method_4_code 18 = .ok (.iconst 0, 1) := by decide +kernel
def Q_rm_mo (Z : State) (a1 : Addr) (w_DAY w_AT_THE_OPEN w_AT_THE_CLOSE w_IMMEDIATE_OR_CANCEL w_GOOD_TILL_CANCEL w_FILL_OR_KILL : Addr) (h0 : Heap) (n0 : Nat) (v : Option Value) (h : Heap) (L : List Loc) : Prop := v = some (.int (if a1 = w_AT_THE_OPEN then (1 : Int32) else if a1 = w_AT_THE_CLOSE then (1 : Int32) else (0 : Int32))) ∧ Fr n0 L ∧ h = h0
set_option maxRecDepth 65536 in
set_option maxHeartbeats 40000000 in
theorem rm_mo (l : Launch) (Z : State) (a0 : Array Value) (hw : ∀ d ∈ tables_1, d.before a0 Z = true) (ws : List Jvm.Cond) (a1 : Addr) (w_DAY w_AT_THE_OPEN w_AT_THE_CLOSE w_IMMEDIATE_OR_CANCEL w_GOOD_TILL_CANCEL w_FILL_OR_KILL : Addr) (h0 : Heap) (n0 : Nat) (Z0 : n0 ≤ h0.size) (O0 : Ext Z.heap h0) (P : Pins Z w_DAY w_AT_THE_OPEN w_AT_THE_CLOSE w_IMMEDIATE_OR_CANCEL w_GOOD_TILL_CANCEL w_FILL_OR_KILL) :
    MetFree l (⟨"com/example/synallage/synallage/model/TimeInForce", "marketOnly", "()Z"⟩ : MethodName) (head1 (Jvm.Cond.code (⟨"com/example/synallage/synallage/model/TimeInForce", "marketOnly", "()Z"⟩ : MethodName) prog_76_method_4_code 1 (some .boolean) :: ws) ({ frames := 0, cells := 0, slots := 0, locals := 0 } : Room)) (fun a U => a = #[(.ref a1)] ∧ Z.Warmed39 U.vm ∧ U.heap = h0) (fun _ _ _ _ _ => True) (fun _ U o U' => ∃ v L, o = .returned v ∧ Q_rm_mo Z a1 w_DAY w_AT_THE_OPEN w_AT_THE_CLOSE w_IMMEDIATE_OR_CANCEL w_GOOD_TILL_CANCEL w_FILL_OR_KILL h0 n0 v U'.heap L ∧ FrameEnd U o U' L ({ frames := 0, cells := 0, slots := 0, locals := 0 } : Room).cells ({ frames := 0, cells := 0, slots := 0, locals := 0 } : Room).slots) := by
  refine MetFree.of_bodySF (plainFor_of_name pn_com_example_synallage_synallage_model_TimeInForce) hisR ?_
  intro p e s m args below meth c s₁ Bd hml0 hP hK
  obtain ⟨rfl, hZ, hh⟩ := hP
  have hx := Bd.exec
  have hby := Bd.bytes
  have hml : c.maxLocals = 1 := hml0
  have hown : s.vm.findClass "com/example/synallage/synallage/model/TimeInForce" = some m.cls := findClass_of_methodNamed Bd.named
  have hnm := (name_of_methodNamed Bd.named Bd.method).1
  have X0 : Stand p l e ({ frames := 0, cells := 0, slots := 0, locals := 0 } : Room) s m #[(.ref a1)] below meth c s₁ [] 0 0 := Stand.of_body Bd
  have e0 : s₁.heap = h0 := by rw [← hh, Bd.state]; rfl
  have N0 := Fr.nil n0
  have pre0 : ∀ t, Steps p.tables e below (s₁.setTop (mkF m 0 #[.val (.ref a1)] [])) t → Steps p.tables e below (s₁.setTop (entryFrame m #[(.ref a1)] 1)) t := fun t k => castTop (ef_1 m a1) k
  obtain ⟨S_DAY, S_AT_THE_OPEN, S_AT_THE_CLOSE, S_IMMEDIATE_OR_CANCEL, S_GOOD_TILL_CANCEL, S_FILL_OR_KILL, E_DAY, E_AT_THE_OPEN, E_AT_THE_CLOSE, E_IMMEDIATE_OR_CANCEL, E_GOOD_TILL_CANCEL, E_FILL_OR_KILL, F_ordinal_DAY, F_ordinal_AT_THE_OPEN, F_ordinal_AT_THE_CLOSE, F_ordinal_IMMEDIATE_OR_CANCEL, F_ordinal_GOOD_TILL_CANCEL, F_ordinal_FILL_OR_KILL⟩ := P
  have pre1 : ∀ t, Steps p.tables e below (s₁.setTop (mkF m 1 #[.val (.ref a1)] [(.ref a1)])) t → Steps p.tables e below (s₁.setTop (entryFrame m #[(.ref a1)] 1)) t := fun t k => pre0 t (by
    show Steps p.tables e below (s₁.setTop (mkF m 0 #[.val (.ref a1)] [])) _
    refine XS.aloadN X0.here hx rfl (hb hby d1_0) rfl rfl ?_
    exact k)
  obtain ⟨T2, X2, e2, st2⟩ := getS2 X0 hx hZ hown (host := "") (Or.inl (hw _ (List.mem_of_getElem? (i := 9) rfl))) Via.refl e0 (Sta.ext O0 S_AT_THE_OPEN) (g := (mkF m 1 #[.val (.ref a1)] [(.ref a1)])) rfl (hb hby d1_1)
  have pre3 : ∀ t, Steps p.tables e below (T2.setTop (mkF m 4 #[.val (.ref a1)] [(.ref w_AT_THE_OPEN), (.ref a1)])) t → Steps p.tables e below (s₁.setTop (entryFrame m #[(.ref a1)] 1)) t := fun t k => pre1 t (st2 t k)
  by_cases hc4_4 : a1 = w_AT_THE_OPEN
  · have pre5 : ∀ t, Steps p.tables e below (T2.setTop (mkF m 19 #[.val (.ref a1)] [(.int (1 : Int32))])) t → Steps p.tables e below (s₁.setTop (entryFrame m #[(.ref a1)] 1)) t := fun t k => pre3 t (by
      show Steps p.tables e below (T2.setTop (mkF m 4 #[.val (.ref a1)] [(.ref w_AT_THE_OPEN), (.ref a1)])) _
      refine Jvm.RoadKit.acmp (g := (mkF m 4 #[.val (.ref a1)] [(.ref w_AT_THE_OPEN), (.ref a1)])) X2 hx rfl rfl rfl (pc0 := 4) (pc' := 14) (same := true) rfl (hb hby d1_4) rfl (decide_eq_true (congrArg Value.ref hc4_4)) (by decide) (by decide) ?_
      show Steps p.tables e below (T2.setTop (mkF m 14 #[.val (.ref a1)] [])) _
      refine XS.iconst X2.here hx rfl (hb hby d1_14) ?_
      show Steps p.tables e below (T2.setTop (mkF m 15 #[.val (.ref a1)] [(.int (1 : Int32))])) _
      refine XS.goto X2.here hx rfl (pc0 := 15) (pc' := 19) rfl (hb hby d1_15) (by decide) (by decide) ?_
      exact k)
    obtain ⟨fs, hr, hrun, hended, hW, hsame⟩ := X2.leave (v := some (.int (1 : Int32))) (fun h => by rw [Bd.returns] at h; cases h)
    refine ⟨_, _, pre5 _ ?_, hrun, hended, _, _, rfl, ?_, ⟨_, rfl⟩, hW, hsame.mono (by decide) (by decide)⟩
    · exact retN X2 hx (t := .boolean) Bd.returns (by simp) (hb hby d1_19) hr
    · show Q_rm_mo Z a1 w_DAY w_AT_THE_OPEN w_AT_THE_CLOSE w_IMMEDIATE_OR_CANCEL w_GOOD_TILL_CANCEL w_FILL_OR_KILL h0 n0 _ T2.heap _
      rw [e2]
      exact ⟨(by simp only [if_pos hc4_4]), N0, rfl⟩
  · have pre6 : ∀ t, Steps p.tables e below (T2.setTop (mkF m 8 #[.val (.ref a1)] [(.ref a1)])) t → Steps p.tables e below (s₁.setTop (entryFrame m #[(.ref a1)] 1)) t := fun t k => pre3 t (by
      show Steps p.tables e below (T2.setTop (mkF m 4 #[.val (.ref a1)] [(.ref w_AT_THE_OPEN), (.ref a1)])) _
      refine Jvm.RoadKit.acmp (g := (mkF m 4 #[.val (.ref a1)] [(.ref w_AT_THE_OPEN), (.ref a1)])) X2 hx rfl rfl rfl (pc0 := 4) (pc' := 7) (same := false) rfl (hb hby d1_4) rfl (decide_eq_false fun q => hc4_4 (Value.ref.inj q)) (by decide) (by decide) ?_
      show Steps p.tables e below (T2.setTop (mkF m 7 #[.val (.ref a1)] [])) _
      refine XS.aloadN X2.here hx rfl (hb hby d1_7) rfl rfl ?_
      exact k)
    obtain ⟨T7, X7, e7, st7⟩ := getS2 X2 hx hZ hown (host := "") (Or.inl (hw _ (List.mem_of_getElem? (i := 11) rfl))) Via.refl e2 (Sta.ext O0 S_AT_THE_CLOSE) (g := (mkF m 8 #[.val (.ref a1)] [(.ref a1)])) rfl (hb hby d1_8)
    have pre8 : ∀ t, Steps p.tables e below (T7.setTop (mkF m 11 #[.val (.ref a1)] [(.ref w_AT_THE_CLOSE), (.ref a1)])) t → Steps p.tables e below (s₁.setTop (entryFrame m #[(.ref a1)] 1)) t := fun t k => pre6 t (st7 t k)
    by_cases hc11_9 : a1 = w_AT_THE_CLOSE
    · have pre10 : ∀ t, Steps p.tables e below (T7.setTop (mkF m 19 #[.val (.ref a1)] [(.int (1 : Int32))])) t → Steps p.tables e below (s₁.setTop (entryFrame m #[(.ref a1)] 1)) t := fun t k => pre8 t (by
        show Steps p.tables e below (T7.setTop (mkF m 11 #[.val (.ref a1)] [(.ref w_AT_THE_CLOSE), (.ref a1)])) _
        refine Jvm.RoadKit.acmp (g := (mkF m 11 #[.val (.ref a1)] [(.ref w_AT_THE_CLOSE), (.ref a1)])) X7 hx rfl rfl rfl (pc0 := 11) (pc' := 14) (same := true) rfl (hb hby d1_11) rfl (decide_eq_true (congrArg Value.ref hc11_9)) (by decide) (by decide) ?_
        show Steps p.tables e below (T7.setTop (mkF m 14 #[.val (.ref a1)] [])) _
        refine XS.iconst X7.here hx rfl (hb hby d1_14) ?_
        show Steps p.tables e below (T7.setTop (mkF m 15 #[.val (.ref a1)] [(.int (1 : Int32))])) _
        refine XS.goto X7.here hx rfl (pc0 := 15) (pc' := 19) rfl (hb hby d1_15) (by decide) (by decide) ?_
        exact k)
      obtain ⟨fs, hr, hrun, hended, hW, hsame⟩ := X7.leave (v := some (.int (1 : Int32))) (fun h => by rw [Bd.returns] at h; cases h)
      refine ⟨_, _, pre10 _ ?_, hrun, hended, _, _, rfl, ?_, ⟨_, rfl⟩, hW, hsame.mono (by decide) (by decide)⟩
      · exact retN X7 hx (t := .boolean) Bd.returns (by simp) (hb hby d1_19) hr
      · show Q_rm_mo Z a1 w_DAY w_AT_THE_OPEN w_AT_THE_CLOSE w_IMMEDIATE_OR_CANCEL w_GOOD_TILL_CANCEL w_FILL_OR_KILL h0 n0 _ T7.heap _
        rw [e7]
        exact ⟨(by simp only [if_neg hc4_4, if_pos hc11_9]), N0, rfl⟩
    · have pre11 : ∀ t, Steps p.tables e below (T7.setTop (mkF m 19 #[.val (.ref a1)] [(.int (0 : Int32))])) t → Steps p.tables e below (s₁.setTop (entryFrame m #[(.ref a1)] 1)) t := fun t k => pre8 t (by
        show Steps p.tables e below (T7.setTop (mkF m 11 #[.val (.ref a1)] [(.ref w_AT_THE_CLOSE), (.ref a1)])) _
        refine Jvm.RoadKit.acmp (g := (mkF m 11 #[.val (.ref a1)] [(.ref w_AT_THE_CLOSE), (.ref a1)])) X7 hx rfl rfl rfl (pc0 := 11) (pc' := 18) (same := false) rfl (hb hby d1_11) rfl (decide_eq_false fun q => hc11_9 (Value.ref.inj q)) (by decide) (by decide) ?_
        show Steps p.tables e below (T7.setTop (mkF m 18 #[.val (.ref a1)] [])) _
        refine XS.iconst X7.here hx rfl (hb hby d1_18) ?_
        exact k)
      obtain ⟨fs, hr, hrun, hended, hW, hsame⟩ := X7.leave (v := some (.int (0 : Int32))) (fun h => by rw [Bd.returns] at h; cases h)
      refine ⟨_, _, pre11 _ ?_, hrun, hended, _, _, rfl, ?_, ⟨_, rfl⟩, hW, hsame.mono (by decide) (by decide)⟩
      · exact retN X7 hx (t := .boolean) Bd.returns (by simp) (hb hby d1_19) hr
      · show Q_rm_mo Z a1 w_DAY w_AT_THE_OPEN w_AT_THE_CLOSE w_IMMEDIATE_OR_CANCEL w_GOOD_TILL_CANCEL w_FILL_OR_KILL h0 n0 _ T7.heap _
        rw [e7]
        exact ⟨(by simp only [if_neg hc4_4, if_neg hc11_9]), N0, rfl⟩
theorem ef_0 (m : MethodId) (x0 : Int32) : entryFrame m #[(.int x0)] maxLocals = mkF m 0 #[.val (.int x0), .unset, .unset, .unset] [] := by first | (simp [entryFrame, mkF, argsToLocals, Value.category, maxLocals]; done) | rfl
theorem pn_com_example_synallage_synallage_model_TimeInForceMarketOnlyPinLaw : plainName "com/example/synallage/synallage/model/TimeInForceMarketOnlyPinLaw" = true := by first | (simp [plainName, overriddenIn]; done) | decide +kernel
theorem pd_0 : parseMethodDescriptor "()Z" = some ⟨[], some .boolean⟩ := by decide +kernel
def Q_rm_law (Z : State) (p1 : Int32) (w_DAY w_AT_THE_OPEN w_AT_THE_CLOSE w_IMMEDIATE_OR_CANCEL w_GOOD_TILL_CANCEL w_FILL_OR_KILL : Addr) (h0 : Heap) (n0 : Nat) (v : Option Value) (h : Heap) (L : List Loc) : Prop := v = some (.int (1 : Int32)) ∧ Fr n0 L
set_option maxRecDepth 65536 in
set_option maxHeartbeats 40000000 in
theorem rm_law (l : Launch) (Z : State) (a0 : Array Value) (hw : ∀ d ∈ tables_1, d.before a0 Z = true) (ws : List Jvm.Cond) (p1 : Int32) (w_DAY w_AT_THE_OPEN w_AT_THE_CLOSE w_IMMEDIATE_OR_CANCEL w_GOOD_TILL_CANCEL w_FILL_OR_KILL : Addr) (h0 : Heap) (n0 : Nat) (Z0 : n0 ≤ h0.size) (O0 : Ext Z.heap h0) (P : Pins Z w_DAY w_AT_THE_OPEN w_AT_THE_CLOSE w_IMMEDIATE_OR_CANCEL w_GOOD_TILL_CANCEL w_FILL_OR_KILL) :
    MetFree l x (head1 (Jvm.Cond.code x code maxLocals ret :: ws) room_1) (fun a U => a = #[(.int p1)] ∧ Z.Warmed39 U.vm ∧ U.heap = h0) (fun _ _ _ _ _ => True) (fun _ U o U' => ∃ v L, o = .returned v ∧ Q_rm_law Z p1 w_DAY w_AT_THE_OPEN w_AT_THE_CLOSE w_IMMEDIATE_OR_CANCEL w_GOOD_TILL_CANCEL w_FILL_OR_KILL h0 n0 v U'.heap L ∧ FrameEnd U o U' L room_1.cells room_1.slots) := by
  refine MetFree.of_bodySF (plainFor_of_name pn_com_example_synallage_synallage_model_TimeInForceMarketOnlyPinLaw) hisR ?_
  intro p e s m args below meth c s₁ Bd hml0 hP hK
  obtain ⟨rfl, hZ, hh⟩ := hP
  have hx := Bd.exec
  have hby := Bd.bytes
  have hml : c.maxLocals = 4 := hml0
  have hown : s.vm.findClass "com/example/synallage/synallage/model/TimeInForceMarketOnlyPinLaw" = some m.cls := findClass_of_methodNamed Bd.named
  have hnm := (name_of_methodNamed Bd.named Bd.method).1
  have X0 : Stand p l e room_1 s m #[(.int p1)] below meth c s₁ [] 0 0 := Stand.of_body Bd
  have e0 : s₁.heap = h0 := by rw [← hh, Bd.state]; rfl
  have N0 := Fr.nil n0
  have pre0 : ∀ t, Steps p.tables e below (s₁.setTop (mkF m 0 #[.val (.int p1), .unset, .unset, .unset] [])) t → Steps p.tables e below (s₁.setTop (entryFrame m #[(.int p1)] maxLocals)) t := fun t k => castTop (ef_0 m p1) k
  have P' := P
  obtain ⟨S_DAY, S_AT_THE_OPEN, S_AT_THE_CLOSE, S_IMMEDIATE_OR_CANCEL, S_GOOD_TILL_CANCEL, S_FILL_OR_KILL, E_DAY, E_AT_THE_OPEN, E_AT_THE_CLOSE, E_IMMEDIATE_OR_CANCEL, E_GOOD_TILL_CANCEL, E_FILL_OR_KILL, F_ordinal_DAY, F_ordinal_AT_THE_OPEN, F_ordinal_AT_THE_CLOSE, F_ordinal_IMMEDIATE_OR_CANCEL, F_ordinal_GOOD_TILL_CANCEL, F_ordinal_FILL_OR_KILL⟩ := P
  have pre1 : ∀ t, Steps p.tables e below (s₁.setTop (mkF m 9 #[.val (.int p1), .val (.int ((p1 &&& (2147483647 : Int32)) % (6 : Int32))), .unset, .unset] [(.int ((p1 &&& (2147483647 : Int32)) % (6 : Int32)))])) t → Steps p.tables e below (s₁.setTop (entryFrame m #[(.int p1)] maxLocals)) t := fun t k => pre0 t (by
    show Steps p.tables e below (s₁.setTop (mkF m 0 #[.val (.int p1), .unset, .unset, .unset] [])) _
    refine XS.iloadN X0.here hx rfl (hb hby at_0) rfl ?_
    show Steps p.tables e below (s₁.setTop (mkF m 1 #[.val (.int p1), .unset, .unset, .unset] [(.int p1)])) _
    refine X0.ldcInt hx hown (mvT hZ (hw _ (List.mem_of_getElem? (i := 0) rfl))) (g := (mkF m 1 #[.val (.int p1), .unset, .unset, .unset] [(.int p1)])) rfl (hb hby at_1) _ ?_
    show Steps p.tables e below (s₁.setTop (mkF m 3 #[.val (.int p1), .unset, .unset, .unset] [(.int (2147483647 : Int32)), (.int p1)])) _
    refine XS.iand X0.here hx rfl (hb hby at_3) rfl ?_
    show Steps p.tables e below (s₁.setTop (mkF m 4 #[.val (.int p1), .unset, .unset, .unset] [(.int (p1 &&& (2147483647 : Int32)))])) _
    refine XS.bipush X0.here hx rfl (hb hby at_4) ?_
    show Steps p.tables e below (s₁.setTop (mkF m 6 #[.val (.int p1), .unset, .unset, .unset] [(.int (6 : Int32)), (.int (p1 &&& (2147483647 : Int32)))])) _
    refine iremM X0 hx rfl (hb hby at_6) rfl (by decide) ?_
    show Steps p.tables e below (s₁.setTop (mkF m 7 #[.val (.int p1), .unset, .unset, .unset] [(.int ((p1 &&& (2147483647 : Int32)) % (6 : Int32)))])) _
    refine XS.istoreN X0.here hx rfl (hb hby at_7) rfl (l' := #[.val (.int p1), .val (.int ((p1 &&& (2147483647 : Int32)) % (6 : Int32))), .unset, .unset]) rfl ?_
    show Steps p.tables e below (s₁.setTop (mkF m 8 #[.val (.int p1), .val (.int ((p1 &&& (2147483647 : Int32)) % (6 : Int32))), .unset, .unset] [])) _
    refine XS.iloadN X0.here hx rfl (hb hby at_8) rfl ?_
    exact k)
  by_cases hc9_2 : ((p1 &&& (2147483647 : Int32)) % (6 : Int32)) = (0 : Int32)
  · have pre3 : ∀ t, Steps p.tables e below (s₁.setTop (mkF m 12 #[.val (.int p1), .val (.int ((p1 &&& (2147483647 : Int32)) % (6 : Int32))), .unset, .unset] [])) t → Steps p.tables e below (s₁.setTop (entryFrame m #[(.int p1)] maxLocals)) t := fun t k => pre1 t (by
      show Steps p.tables e below (s₁.setTop (mkF m 9 #[.val (.int p1), .val (.int ((p1 &&& (2147483647 : Int32)) % (6 : Int32))), .unset, .unset] [(.int ((p1 &&& (2147483647 : Int32)) % (6 : Int32)))])) _
      refine XS.ifNo X0.here hx rfl (hb hby at_9) rfl ((if0 _ _).trans (teq hc9_2).2) ?_
      exact k)
    obtain ⟨T4, X4, e4, st4⟩ := getS2 X0 hx hZ hown (host := "") (Or.inl (hw _ (List.mem_of_getElem? (i := 1) rfl))) Via.refl e0 (Sta.ext O0 S_DAY) (g := (mkF m 12 #[.val (.int p1), .val (.int ((p1 &&& (2147483647 : Int32)) % (6 : Int32))), .unset, .unset] [])) rfl (hb hby at_12)
    have pre5 : ∀ t, Steps p.tables e below (T4.setTop (mkF m 15 #[.val (.int p1), .val (.int ((p1 &&& (2147483647 : Int32)) % (6 : Int32))), .unset, .unset] [(.ref w_DAY)])) t → Steps p.tables e below (s₁.setTop (entryFrame m #[(.int p1)] maxLocals)) t := fun t k => pre3 t (st4 t k)
    have pre6 : ∀ t, Steps p.tables e below (T4.setTop (mkF m 84 #[.val (.int p1), .val (.int ((p1 &&& (2147483647 : Int32)) % (6 : Int32))), .val (.ref w_DAY), .val (.int (0 : Int32))] [(.ref w_DAY)])) t → Steps p.tables e below (s₁.setTop (entryFrame m #[(.int p1)] maxLocals)) t := fun t k => pre5 t (by
      show Steps p.tables e below (T4.setTop (mkF m 15 #[.val (.int p1), .val (.int ((p1 &&& (2147483647 : Int32)) % (6 : Int32))), .unset, .unset] [(.ref w_DAY)])) _
      refine XS.astoreN X4.here hx rfl (hb hby at_15) rfl rfl (l' := #[.val (.int p1), .val (.int ((p1 &&& (2147483647 : Int32)) % (6 : Int32))), .val (.ref w_DAY), .unset]) rfl ?_
      show Steps p.tables e below (T4.setTop (mkF m 16 #[.val (.int p1), .val (.int ((p1 &&& (2147483647 : Int32)) % (6 : Int32))), .val (.ref w_DAY), .unset] [])) _
      refine XS.iconst X4.here hx rfl (hb hby at_16) ?_
      show Steps p.tables e below (T4.setTop (mkF m 17 #[.val (.int p1), .val (.int ((p1 &&& (2147483647 : Int32)) % (6 : Int32))), .val (.ref w_DAY), .unset] [(.int (0 : Int32))])) _
      refine XS.istoreN X4.here hx rfl (hb hby at_17) rfl (l' := #[.val (.int p1), .val (.int ((p1 &&& (2147483647 : Int32)) % (6 : Int32))), .val (.ref w_DAY), .val (.int (0 : Int32))]) rfl ?_
      show Steps p.tables e below (T4.setTop (mkF m 18 #[.val (.int p1), .val (.int ((p1 &&& (2147483647 : Int32)) % (6 : Int32))), .val (.ref w_DAY), .val (.int (0 : Int32))] [])) _
      refine XS.goto X4.here hx rfl (pc0 := 18) (pc' := 83) rfl (hb hby at_18) (by decide) (by decide) ?_
      show Steps p.tables e below (T4.setTop (mkF m 83 #[.val (.int p1), .val (.int ((p1 &&& (2147483647 : Int32)) % (6 : Int32))), .val (.ref w_DAY), .val (.int (0 : Int32))] [])) _
      refine XS.aloadN X4.here hx rfl (hb hby at_83) rfl rfl ?_
      exact k)
    obtain ⟨cq7, kq7, q7a, q7b, q7c⟩ := isOf hZ e4 (Exa.ext O0 E_DAY)
    obtain ⟨_, _, ⟨T7, L7, k7, n7⟩, -, X7, ⟨Lc7, hQ7, l7, y7, z7⟩, st7⟩ := X4.virtualBack hx (y := (⟨"com/example/synallage/synallage/model/TimeInForce", "marketOnly", "()Z"⟩ : MethodName)) (z := (⟨"com/example/synallage/synallage/model/TimeInForce", "marketOnly", "()Z"⟩ : MethodName)) hown (mvT hZ (hw _ (List.mem_of_getElem? (i := 4) rfl))) (mvT hZ (hw _ (List.mem_of_getElem? (i := 5) rfl))) (notFace_of_selects (args := #[]) (mvT hZ (hw _ (List.mem_of_getElem? (i := 7) rfl)))) (mvT hZ (hw _ (List.mem_of_getElem? (i := 7) rfl))) (mvT hZ (hw _ (List.mem_of_getElem? (i := 6) rfl))) (by decide) (backOf (W := 0) (rm_mo l Z a0 hw [] w_DAY w_DAY w_AT_THE_OPEN w_AT_THE_CLOSE w_IMMEDIATE_OR_CANCEL w_GOOD_TILL_CANCEL w_FILL_OR_KILL h0 n0 Z0 O0 P') hZ (hw _ (List.mem_of_getElem? (i := 8) rfl)) (hw _ (List.mem_of_getElem? (i := 2) rfl)) (by decide) (by decide)) q7a q7c (g := (mkF m 84 #[.val (.int p1), .val (.int ((p1 &&& (2147483647 : Int32)) % (6 : Int32))), .val (.ref w_DAY), .val (.int (0 : Int32))] [(.ref w_DAY)])) rfl (by rw [hml]; rfl) (Steps.refl _) (argsL := []) (rest := []) (lenOf pd_0 rfl) rfl (by show 2 * 0 + _ ≤ _; exact Nat.le_of_eq rfl) (hb hby at_84) (fun _ _ => ⟨rfl, e4, (by decide : 0 + 0 ≤ _), (by decide : 0 + 0 ≤ _)⟩)
    dsimp only [Pt.U, Pt.locs, Pt.cells, Pt.slots] at X7 l7 y7 z7 st7 hQ7
    subst l7 y7 z7
    obtain ⟨hv7, N7q, e7⟩ := hQ7
    rw [(show (if w_DAY = w_AT_THE_OPEN then (1 : Int32) else if w_DAY = w_AT_THE_CLOSE then (1 : Int32) else (0 : Int32)) = (0 : Int32) from by rw [if_neg (own_ne_DAY_AT_THE_OPEN P'), if_neg (own_ne_DAY_AT_THE_CLOSE P')])] at hv7
    subst hv7
    have N7 := Fr.app N0 N7q
    have pre8 : ∀ t, Steps p.tables e below (T7.setTop (mkF m 87 #[.val (.int p1), .val (.int ((p1 &&& (2147483647 : Int32)) % (6 : Int32))), .val (.ref w_DAY), .val (.int (0 : Int32))] [(.int (0 : Int32))])) t → Steps p.tables e below (s₁.setTop (entryFrame m #[(.int p1)] maxLocals)) t := fun t k => pre6 t (st7.trans k)
    have pre9 : ∀ t, Steps p.tables e below (T7.setTop (mkF m 96 #[.val (.int p1), .val (.int ((p1 &&& (2147483647 : Int32)) % (6 : Int32))), .val (.ref w_DAY), .val (.int (0 : Int32))] [(.int (1 : Int32))])) t → Steps p.tables e below (s₁.setTop (entryFrame m #[(.int p1)] maxLocals)) t := fun t k => pre8 t (by
      show Steps p.tables e below (T7.setTop (mkF m 87 #[.val (.int p1), .val (.int ((p1 &&& (2147483647 : Int32)) % (6 : Int32))), .val (.ref w_DAY), .val (.int (0 : Int32))] [(.int (0 : Int32))])) _
      refine XS.iloadN X7.here hx rfl (hb hby at_87) rfl ?_
      show Steps p.tables e below (T7.setTop (mkF m 88 #[.val (.int p1), .val (.int ((p1 &&& (2147483647 : Int32)) % (6 : Int32))), .val (.ref w_DAY), .val (.int (0 : Int32))] [(.int (0 : Int32)), (.int (0 : Int32))])) _
      refine XS.icmpNo X7.here hx rfl (hb hby at_88) rfl (teq (by decide : (0 : Int32) = (0 : Int32))).2 ?_
      show Steps p.tables e below (T7.setTop (mkF m 91 #[.val (.int p1), .val (.int ((p1 &&& (2147483647 : Int32)) % (6 : Int32))), .val (.ref w_DAY), .val (.int (0 : Int32))] [])) _
      refine XS.iconst X7.here hx rfl (hb hby at_91) ?_
      show Steps p.tables e below (T7.setTop (mkF m 92 #[.val (.int p1), .val (.int ((p1 &&& (2147483647 : Int32)) % (6 : Int32))), .val (.ref w_DAY), .val (.int (0 : Int32))] [(.int (1 : Int32))])) _
      refine XS.goto X7.here hx rfl (pc0 := 92) (pc' := 96) rfl (hb hby at_92) (by decide) (by decide) ?_
      exact k)
    obtain ⟨fs, hr, hrun, hended, hW, hsame⟩ := X7.leave (v := some (.int (1 : Int32))) (fun h => by rw [Bd.returns] at h; cases h)
    refine ⟨_, _, pre9 _ ?_, hrun, hended, _, _, rfl, ?_, ⟨_, rfl⟩, hW, hsame.mono (by decide) (by decide)⟩
    · exact retN X7 hx (t := .boolean) Bd.returns (by simp) (hb hby at_96) hr
    · show Q_rm_law Z p1 w_DAY w_AT_THE_OPEN w_AT_THE_CLOSE w_IMMEDIATE_OR_CANCEL w_GOOD_TILL_CANCEL w_FILL_OR_KILL h0 n0 _ T7.heap _
      rw [e7]
      exact ⟨rfl, N7⟩
  · have pre10 : ∀ t, Steps p.tables e below (s₁.setTop (mkF m 23 #[.val (.int p1), .val (.int ((p1 &&& (2147483647 : Int32)) % (6 : Int32))), .unset, .unset] [(.int (1 : Int32)), (.int ((p1 &&& (2147483647 : Int32)) % (6 : Int32)))])) t → Steps p.tables e below (s₁.setTop (entryFrame m #[(.int p1)] maxLocals)) t := fun t k => pre1 t (by
      show Steps p.tables e below (s₁.setTop (mkF m 9 #[.val (.int p1), .val (.int ((p1 &&& (2147483647 : Int32)) % (6 : Int32))), .unset, .unset] [(.int ((p1 &&& (2147483647 : Int32)) % (6 : Int32)))])) _
      refine XS.ifYes X0.here hx rfl (pc0 := 9) (pc' := 21) rfl (hb hby at_9) rfl ((if0 _ _).trans (feq hc9_2).2) (by decide) (by decide) ?_
      show Steps p.tables e below (s₁.setTop (mkF m 21 #[.val (.int p1), .val (.int ((p1 &&& (2147483647 : Int32)) % (6 : Int32))), .unset, .unset] [])) _
      refine XS.iloadN X0.here hx rfl (hb hby at_21) rfl ?_
      show Steps p.tables e below (s₁.setTop (mkF m 22 #[.val (.int p1), .val (.int ((p1 &&& (2147483647 : Int32)) % (6 : Int32))), .unset, .unset] [(.int ((p1 &&& (2147483647 : Int32)) % (6 : Int32)))])) _
      refine XS.iconst X0.here hx rfl (hb hby at_22) ?_
      exact k)
    by_cases hc23_11 : ((p1 &&& (2147483647 : Int32)) % (6 : Int32)) = (1 : Int32)
    · have pre12 : ∀ t, Steps p.tables e below (s₁.setTop (mkF m 26 #[.val (.int p1), .val (.int ((p1 &&& (2147483647 : Int32)) % (6 : Int32))), .unset, .unset] [])) t → Steps p.tables e below (s₁.setTop (entryFrame m #[(.int p1)] maxLocals)) t := fun t k => pre10 t (by
        show Steps p.tables e below (s₁.setTop (mkF m 23 #[.val (.int p1), .val (.int ((p1 &&& (2147483647 : Int32)) % (6 : Int32))), .unset, .unset] [(.int (1 : Int32)), (.int ((p1 &&& (2147483647 : Int32)) % (6 : Int32)))])) _
        refine XS.icmpNo X0.here hx rfl (hb hby at_23) rfl (teq hc23_11).2 ?_
        exact k)
      obtain ⟨T13, X13, e13, st13⟩ := getS2 X0 hx hZ hown (host := "") (Or.inl (hw _ (List.mem_of_getElem? (i := 16) rfl))) Via.refl e0 (Sta.ext O0 S_GOOD_TILL_CANCEL) (g := (mkF m 26 #[.val (.int p1), .val (.int ((p1 &&& (2147483647 : Int32)) % (6 : Int32))), .unset, .unset] [])) rfl (hb hby at_26)
      have pre14 : ∀ t, Steps p.tables e below (T13.setTop (mkF m 29 #[.val (.int p1), .val (.int ((p1 &&& (2147483647 : Int32)) % (6 : Int32))), .unset, .unset] [(.ref w_GOOD_TILL_CANCEL)])) t → Steps p.tables e below (s₁.setTop (entryFrame m #[(.int p1)] maxLocals)) t := fun t k => pre12 t (st13 t k)
      have pre15 : ∀ t, Steps p.tables e below (T13.setTop (mkF m 84 #[.val (.int p1), .val (.int ((p1 &&& (2147483647 : Int32)) % (6 : Int32))), .val (.ref w_GOOD_TILL_CANCEL), .val (.int (0 : Int32))] [(.ref w_GOOD_TILL_CANCEL)])) t → Steps p.tables e below (s₁.setTop (entryFrame m #[(.int p1)] maxLocals)) t := fun t k => pre14 t (by
        show Steps p.tables e below (T13.setTop (mkF m 29 #[.val (.int p1), .val (.int ((p1 &&& (2147483647 : Int32)) % (6 : Int32))), .unset, .unset] [(.ref w_GOOD_TILL_CANCEL)])) _
        refine XS.astoreN X13.here hx rfl (hb hby at_29) rfl rfl (l' := #[.val (.int p1), .val (.int ((p1 &&& (2147483647 : Int32)) % (6 : Int32))), .val (.ref w_GOOD_TILL_CANCEL), .unset]) rfl ?_
        show Steps p.tables e below (T13.setTop (mkF m 30 #[.val (.int p1), .val (.int ((p1 &&& (2147483647 : Int32)) % (6 : Int32))), .val (.ref w_GOOD_TILL_CANCEL), .unset] [])) _
        refine XS.iconst X13.here hx rfl (hb hby at_30) ?_
        show Steps p.tables e below (T13.setTop (mkF m 31 #[.val (.int p1), .val (.int ((p1 &&& (2147483647 : Int32)) % (6 : Int32))), .val (.ref w_GOOD_TILL_CANCEL), .unset] [(.int (0 : Int32))])) _
        refine XS.istoreN X13.here hx rfl (hb hby at_31) rfl (l' := #[.val (.int p1), .val (.int ((p1 &&& (2147483647 : Int32)) % (6 : Int32))), .val (.ref w_GOOD_TILL_CANCEL), .val (.int (0 : Int32))]) rfl ?_
        show Steps p.tables e below (T13.setTop (mkF m 32 #[.val (.int p1), .val (.int ((p1 &&& (2147483647 : Int32)) % (6 : Int32))), .val (.ref w_GOOD_TILL_CANCEL), .val (.int (0 : Int32))] [])) _
        refine XS.goto X13.here hx rfl (pc0 := 32) (pc' := 83) rfl (hb hby at_32) (by decide) (by decide) ?_
        show Steps p.tables e below (T13.setTop (mkF m 83 #[.val (.int p1), .val (.int ((p1 &&& (2147483647 : Int32)) % (6 : Int32))), .val (.ref w_GOOD_TILL_CANCEL), .val (.int (0 : Int32))] [])) _
        refine XS.aloadN X13.here hx rfl (hb hby at_83) rfl rfl ?_
        exact k)
      obtain ⟨cq16, kq16, q16a, q16b, q16c⟩ := isOf hZ e13 (Exa.ext O0 E_GOOD_TILL_CANCEL)
      obtain ⟨_, _, ⟨T16, L16, k16, n16⟩, -, X16, ⟨Lc16, hQ16, l16, y16, z16⟩, st16⟩ := X13.virtualBack hx (y := (⟨"com/example/synallage/synallage/model/TimeInForce", "marketOnly", "()Z"⟩ : MethodName)) (z := (⟨"com/example/synallage/synallage/model/TimeInForce", "marketOnly", "()Z"⟩ : MethodName)) hown (mvT hZ (hw _ (List.mem_of_getElem? (i := 4) rfl))) (mvT hZ (hw _ (List.mem_of_getElem? (i := 5) rfl))) (notFace_of_selects (args := #[]) (mvT hZ (hw _ (List.mem_of_getElem? (i := 7) rfl)))) (mvT hZ (hw _ (List.mem_of_getElem? (i := 7) rfl))) (mvT hZ (hw _ (List.mem_of_getElem? (i := 6) rfl))) (by decide) (backOf (W := 0) (rm_mo l Z a0 hw [] w_GOOD_TILL_CANCEL w_DAY w_AT_THE_OPEN w_AT_THE_CLOSE w_IMMEDIATE_OR_CANCEL w_GOOD_TILL_CANCEL w_FILL_OR_KILL h0 n0 Z0 O0 P') hZ (hw _ (List.mem_of_getElem? (i := 8) rfl)) (hw _ (List.mem_of_getElem? (i := 2) rfl)) (by decide) (by decide)) q16a q16c (g := (mkF m 84 #[.val (.int p1), .val (.int ((p1 &&& (2147483647 : Int32)) % (6 : Int32))), .val (.ref w_GOOD_TILL_CANCEL), .val (.int (0 : Int32))] [(.ref w_GOOD_TILL_CANCEL)])) rfl (by rw [hml]; rfl) (Steps.refl _) (argsL := []) (rest := []) (lenOf pd_0 rfl) rfl (by show 2 * 0 + _ ≤ _; exact Nat.le_of_eq rfl) (hb hby at_84) (fun _ _ => ⟨rfl, e13, (by decide : 0 + 0 ≤ _), (by decide : 0 + 0 ≤ _)⟩)
      dsimp only [Pt.U, Pt.locs, Pt.cells, Pt.slots] at X16 l16 y16 z16 st16 hQ16
      subst l16 y16 z16
      obtain ⟨hv16, N16q, e16⟩ := hQ16
      rw [(show (if w_GOOD_TILL_CANCEL = w_AT_THE_OPEN then (1 : Int32) else if w_GOOD_TILL_CANCEL = w_AT_THE_CLOSE then (1 : Int32) else (0 : Int32)) = (0 : Int32) from by rw [if_neg (Ne.symm (own_ne_AT_THE_OPEN_GOOD_TILL_CANCEL P')), if_neg (Ne.symm (own_ne_AT_THE_CLOSE_GOOD_TILL_CANCEL P'))])] at hv16
      subst hv16
      have N16 := Fr.app N0 N16q
      have pre17 : ∀ t, Steps p.tables e below (T16.setTop (mkF m 87 #[.val (.int p1), .val (.int ((p1 &&& (2147483647 : Int32)) % (6 : Int32))), .val (.ref w_GOOD_TILL_CANCEL), .val (.int (0 : Int32))] [(.int (0 : Int32))])) t → Steps p.tables e below (s₁.setTop (entryFrame m #[(.int p1)] maxLocals)) t := fun t k => pre15 t (st16.trans k)
      have pre18 : ∀ t, Steps p.tables e below (T16.setTop (mkF m 96 #[.val (.int p1), .val (.int ((p1 &&& (2147483647 : Int32)) % (6 : Int32))), .val (.ref w_GOOD_TILL_CANCEL), .val (.int (0 : Int32))] [(.int (1 : Int32))])) t → Steps p.tables e below (s₁.setTop (entryFrame m #[(.int p1)] maxLocals)) t := fun t k => pre17 t (by
        show Steps p.tables e below (T16.setTop (mkF m 87 #[.val (.int p1), .val (.int ((p1 &&& (2147483647 : Int32)) % (6 : Int32))), .val (.ref w_GOOD_TILL_CANCEL), .val (.int (0 : Int32))] [(.int (0 : Int32))])) _
        refine XS.iloadN X16.here hx rfl (hb hby at_87) rfl ?_
        show Steps p.tables e below (T16.setTop (mkF m 88 #[.val (.int p1), .val (.int ((p1 &&& (2147483647 : Int32)) % (6 : Int32))), .val (.ref w_GOOD_TILL_CANCEL), .val (.int (0 : Int32))] [(.int (0 : Int32)), (.int (0 : Int32))])) _
        refine XS.icmpNo X16.here hx rfl (hb hby at_88) rfl (teq (by decide : (0 : Int32) = (0 : Int32))).2 ?_
        show Steps p.tables e below (T16.setTop (mkF m 91 #[.val (.int p1), .val (.int ((p1 &&& (2147483647 : Int32)) % (6 : Int32))), .val (.ref w_GOOD_TILL_CANCEL), .val (.int (0 : Int32))] [])) _
        refine XS.iconst X16.here hx rfl (hb hby at_91) ?_
        show Steps p.tables e below (T16.setTop (mkF m 92 #[.val (.int p1), .val (.int ((p1 &&& (2147483647 : Int32)) % (6 : Int32))), .val (.ref w_GOOD_TILL_CANCEL), .val (.int (0 : Int32))] [(.int (1 : Int32))])) _
        refine XS.goto X16.here hx rfl (pc0 := 92) (pc' := 96) rfl (hb hby at_92) (by decide) (by decide) ?_
        exact k)
      obtain ⟨fs, hr, hrun, hended, hW, hsame⟩ := X16.leave (v := some (.int (1 : Int32))) (fun h => by rw [Bd.returns] at h; cases h)
      refine ⟨_, _, pre18 _ ?_, hrun, hended, _, _, rfl, ?_, ⟨_, rfl⟩, hW, hsame.mono (by decide) (by decide)⟩
      · exact retN X16 hx (t := .boolean) Bd.returns (by simp) (hb hby at_96) hr
      · show Q_rm_law Z p1 w_DAY w_AT_THE_OPEN w_AT_THE_CLOSE w_IMMEDIATE_OR_CANCEL w_GOOD_TILL_CANCEL w_FILL_OR_KILL h0 n0 _ T16.heap _
        rw [e16]
        exact ⟨rfl, N16⟩
    · have pre19 : ∀ t, Steps p.tables e below (s₁.setTop (mkF m 37 #[.val (.int p1), .val (.int ((p1 &&& (2147483647 : Int32)) % (6 : Int32))), .unset, .unset] [(.int (2 : Int32)), (.int ((p1 &&& (2147483647 : Int32)) % (6 : Int32)))])) t → Steps p.tables e below (s₁.setTop (entryFrame m #[(.int p1)] maxLocals)) t := fun t k => pre10 t (by
        show Steps p.tables e below (s₁.setTop (mkF m 23 #[.val (.int p1), .val (.int ((p1 &&& (2147483647 : Int32)) % (6 : Int32))), .unset, .unset] [(.int (1 : Int32)), (.int ((p1 &&& (2147483647 : Int32)) % (6 : Int32)))])) _
        refine XS.icmpYes X0.here hx rfl (pc0 := 23) (pc' := 35) rfl (hb hby at_23) rfl (feq hc23_11).2 (by decide) (by decide) ?_
        show Steps p.tables e below (s₁.setTop (mkF m 35 #[.val (.int p1), .val (.int ((p1 &&& (2147483647 : Int32)) % (6 : Int32))), .unset, .unset] [])) _
        refine XS.iloadN X0.here hx rfl (hb hby at_35) rfl ?_
        show Steps p.tables e below (s₁.setTop (mkF m 36 #[.val (.int p1), .val (.int ((p1 &&& (2147483647 : Int32)) % (6 : Int32))), .unset, .unset] [(.int ((p1 &&& (2147483647 : Int32)) % (6 : Int32)))])) _
        refine XS.iconst X0.here hx rfl (hb hby at_36) ?_
        exact k)
      by_cases hc37_20 : ((p1 &&& (2147483647 : Int32)) % (6 : Int32)) = (2 : Int32)
      · have pre21 : ∀ t, Steps p.tables e below (s₁.setTop (mkF m 40 #[.val (.int p1), .val (.int ((p1 &&& (2147483647 : Int32)) % (6 : Int32))), .unset, .unset] [])) t → Steps p.tables e below (s₁.setTop (entryFrame m #[(.int p1)] maxLocals)) t := fun t k => pre19 t (by
          show Steps p.tables e below (s₁.setTop (mkF m 37 #[.val (.int p1), .val (.int ((p1 &&& (2147483647 : Int32)) % (6 : Int32))), .unset, .unset] [(.int (2 : Int32)), (.int ((p1 &&& (2147483647 : Int32)) % (6 : Int32)))])) _
          refine XS.icmpNo X0.here hx rfl (hb hby at_37) rfl (teq hc37_20).2 ?_
          exact k)
        obtain ⟨T22, X22, e22, st22⟩ := getS2 X0 hx hZ hown (host := "") (Or.inl (hw _ (List.mem_of_getElem? (i := 15) rfl))) Via.refl e0 (Sta.ext O0 S_AT_THE_OPEN) (g := (mkF m 40 #[.val (.int p1), .val (.int ((p1 &&& (2147483647 : Int32)) % (6 : Int32))), .unset, .unset] [])) rfl (hb hby at_40)
        have pre23 : ∀ t, Steps p.tables e below (T22.setTop (mkF m 43 #[.val (.int p1), .val (.int ((p1 &&& (2147483647 : Int32)) % (6 : Int32))), .unset, .unset] [(.ref w_AT_THE_OPEN)])) t → Steps p.tables e below (s₁.setTop (entryFrame m #[(.int p1)] maxLocals)) t := fun t k => pre21 t (st22 t k)
        have pre24 : ∀ t, Steps p.tables e below (T22.setTop (mkF m 84 #[.val (.int p1), .val (.int ((p1 &&& (2147483647 : Int32)) % (6 : Int32))), .val (.ref w_AT_THE_OPEN), .val (.int (1 : Int32))] [(.ref w_AT_THE_OPEN)])) t → Steps p.tables e below (s₁.setTop (entryFrame m #[(.int p1)] maxLocals)) t := fun t k => pre23 t (by
          show Steps p.tables e below (T22.setTop (mkF m 43 #[.val (.int p1), .val (.int ((p1 &&& (2147483647 : Int32)) % (6 : Int32))), .unset, .unset] [(.ref w_AT_THE_OPEN)])) _
          refine XS.astoreN X22.here hx rfl (hb hby at_43) rfl rfl (l' := #[.val (.int p1), .val (.int ((p1 &&& (2147483647 : Int32)) % (6 : Int32))), .val (.ref w_AT_THE_OPEN), .unset]) rfl ?_
          show Steps p.tables e below (T22.setTop (mkF m 44 #[.val (.int p1), .val (.int ((p1 &&& (2147483647 : Int32)) % (6 : Int32))), .val (.ref w_AT_THE_OPEN), .unset] [])) _
          refine XS.iconst X22.here hx rfl (hb hby at_44) ?_
          show Steps p.tables e below (T22.setTop (mkF m 45 #[.val (.int p1), .val (.int ((p1 &&& (2147483647 : Int32)) % (6 : Int32))), .val (.ref w_AT_THE_OPEN), .unset] [(.int (1 : Int32))])) _
          refine XS.istoreN X22.here hx rfl (hb hby at_45) rfl (l' := #[.val (.int p1), .val (.int ((p1 &&& (2147483647 : Int32)) % (6 : Int32))), .val (.ref w_AT_THE_OPEN), .val (.int (1 : Int32))]) rfl ?_
          show Steps p.tables e below (T22.setTop (mkF m 46 #[.val (.int p1), .val (.int ((p1 &&& (2147483647 : Int32)) % (6 : Int32))), .val (.ref w_AT_THE_OPEN), .val (.int (1 : Int32))] [])) _
          refine XS.goto X22.here hx rfl (pc0 := 46) (pc' := 83) rfl (hb hby at_46) (by decide) (by decide) ?_
          show Steps p.tables e below (T22.setTop (mkF m 83 #[.val (.int p1), .val (.int ((p1 &&& (2147483647 : Int32)) % (6 : Int32))), .val (.ref w_AT_THE_OPEN), .val (.int (1 : Int32))] [])) _
          refine XS.aloadN X22.here hx rfl (hb hby at_83) rfl rfl ?_
          exact k)
        obtain ⟨cq25, kq25, q25a, q25b, q25c⟩ := isOf hZ e22 (Exa.ext O0 E_AT_THE_OPEN)
        obtain ⟨_, _, ⟨T25, L25, k25, n25⟩, -, X25, ⟨Lc25, hQ25, l25, y25, z25⟩, st25⟩ := X22.virtualBack hx (y := (⟨"com/example/synallage/synallage/model/TimeInForce", "marketOnly", "()Z"⟩ : MethodName)) (z := (⟨"com/example/synallage/synallage/model/TimeInForce", "marketOnly", "()Z"⟩ : MethodName)) hown (mvT hZ (hw _ (List.mem_of_getElem? (i := 4) rfl))) (mvT hZ (hw _ (List.mem_of_getElem? (i := 5) rfl))) (notFace_of_selects (args := #[]) (mvT hZ (hw _ (List.mem_of_getElem? (i := 7) rfl)))) (mvT hZ (hw _ (List.mem_of_getElem? (i := 7) rfl))) (mvT hZ (hw _ (List.mem_of_getElem? (i := 6) rfl))) (by decide) (backOf (W := 0) (rm_mo l Z a0 hw [] w_AT_THE_OPEN w_DAY w_AT_THE_OPEN w_AT_THE_CLOSE w_IMMEDIATE_OR_CANCEL w_GOOD_TILL_CANCEL w_FILL_OR_KILL h0 n0 Z0 O0 P') hZ (hw _ (List.mem_of_getElem? (i := 8) rfl)) (hw _ (List.mem_of_getElem? (i := 2) rfl)) (by decide) (by decide)) q25a q25c (g := (mkF m 84 #[.val (.int p1), .val (.int ((p1 &&& (2147483647 : Int32)) % (6 : Int32))), .val (.ref w_AT_THE_OPEN), .val (.int (1 : Int32))] [(.ref w_AT_THE_OPEN)])) rfl (by rw [hml]; rfl) (Steps.refl _) (argsL := []) (rest := []) (lenOf pd_0 rfl) rfl (by show 2 * 0 + _ ≤ _; exact Nat.le_of_eq rfl) (hb hby at_84) (fun _ _ => ⟨rfl, e22, (by decide : 0 + 0 ≤ _), (by decide : 0 + 0 ≤ _)⟩)
        dsimp only [Pt.U, Pt.locs, Pt.cells, Pt.slots] at X25 l25 y25 z25 st25 hQ25
        subst l25 y25 z25
        obtain ⟨hv25, N25q, e25⟩ := hQ25
        rw [(show (if w_AT_THE_OPEN = w_AT_THE_OPEN then (1 : Int32) else if w_AT_THE_OPEN = w_AT_THE_CLOSE then (1 : Int32) else (0 : Int32)) = (1 : Int32) from by rw [if_pos rfl])] at hv25
        subst hv25
        have N25 := Fr.app N0 N25q
        have pre26 : ∀ t, Steps p.tables e below (T25.setTop (mkF m 87 #[.val (.int p1), .val (.int ((p1 &&& (2147483647 : Int32)) % (6 : Int32))), .val (.ref w_AT_THE_OPEN), .val (.int (1 : Int32))] [(.int (1 : Int32))])) t → Steps p.tables e below (s₁.setTop (entryFrame m #[(.int p1)] maxLocals)) t := fun t k => pre24 t (st25.trans k)
        have pre27 : ∀ t, Steps p.tables e below (T25.setTop (mkF m 96 #[.val (.int p1), .val (.int ((p1 &&& (2147483647 : Int32)) % (6 : Int32))), .val (.ref w_AT_THE_OPEN), .val (.int (1 : Int32))] [(.int (1 : Int32))])) t → Steps p.tables e below (s₁.setTop (entryFrame m #[(.int p1)] maxLocals)) t := fun t k => pre26 t (by
          show Steps p.tables e below (T25.setTop (mkF m 87 #[.val (.int p1), .val (.int ((p1 &&& (2147483647 : Int32)) % (6 : Int32))), .val (.ref w_AT_THE_OPEN), .val (.int (1 : Int32))] [(.int (1 : Int32))])) _
          refine XS.iloadN X25.here hx rfl (hb hby at_87) rfl ?_
          show Steps p.tables e below (T25.setTop (mkF m 88 #[.val (.int p1), .val (.int ((p1 &&& (2147483647 : Int32)) % (6 : Int32))), .val (.ref w_AT_THE_OPEN), .val (.int (1 : Int32))] [(.int (1 : Int32)), (.int (1 : Int32))])) _
          refine XS.icmpNo X25.here hx rfl (hb hby at_88) rfl (teq (by decide : (1 : Int32) = (1 : Int32))).2 ?_
          show Steps p.tables e below (T25.setTop (mkF m 91 #[.val (.int p1), .val (.int ((p1 &&& (2147483647 : Int32)) % (6 : Int32))), .val (.ref w_AT_THE_OPEN), .val (.int (1 : Int32))] [])) _
          refine XS.iconst X25.here hx rfl (hb hby at_91) ?_
          show Steps p.tables e below (T25.setTop (mkF m 92 #[.val (.int p1), .val (.int ((p1 &&& (2147483647 : Int32)) % (6 : Int32))), .val (.ref w_AT_THE_OPEN), .val (.int (1 : Int32))] [(.int (1 : Int32))])) _
          refine XS.goto X25.here hx rfl (pc0 := 92) (pc' := 96) rfl (hb hby at_92) (by decide) (by decide) ?_
          exact k)
        obtain ⟨fs, hr, hrun, hended, hW, hsame⟩ := X25.leave (v := some (.int (1 : Int32))) (fun h => by rw [Bd.returns] at h; cases h)
        refine ⟨_, _, pre27 _ ?_, hrun, hended, _, _, rfl, ?_, ⟨_, rfl⟩, hW, hsame.mono (by decide) (by decide)⟩
        · exact retN X25 hx (t := .boolean) Bd.returns (by simp) (hb hby at_96) hr
        · show Q_rm_law Z p1 w_DAY w_AT_THE_OPEN w_AT_THE_CLOSE w_IMMEDIATE_OR_CANCEL w_GOOD_TILL_CANCEL w_FILL_OR_KILL h0 n0 _ T25.heap _
          rw [e25]
          exact ⟨rfl, N25⟩
      · have pre28 : ∀ t, Steps p.tables e below (s₁.setTop (mkF m 51 #[.val (.int p1), .val (.int ((p1 &&& (2147483647 : Int32)) % (6 : Int32))), .unset, .unset] [(.int (3 : Int32)), (.int ((p1 &&& (2147483647 : Int32)) % (6 : Int32)))])) t → Steps p.tables e below (s₁.setTop (entryFrame m #[(.int p1)] maxLocals)) t := fun t k => pre19 t (by
          show Steps p.tables e below (s₁.setTop (mkF m 37 #[.val (.int p1), .val (.int ((p1 &&& (2147483647 : Int32)) % (6 : Int32))), .unset, .unset] [(.int (2 : Int32)), (.int ((p1 &&& (2147483647 : Int32)) % (6 : Int32)))])) _
          refine XS.icmpYes X0.here hx rfl (pc0 := 37) (pc' := 49) rfl (hb hby at_37) rfl (feq hc37_20).2 (by decide) (by decide) ?_
          show Steps p.tables e below (s₁.setTop (mkF m 49 #[.val (.int p1), .val (.int ((p1 &&& (2147483647 : Int32)) % (6 : Int32))), .unset, .unset] [])) _
          refine XS.iloadN X0.here hx rfl (hb hby at_49) rfl ?_
          show Steps p.tables e below (s₁.setTop (mkF m 50 #[.val (.int p1), .val (.int ((p1 &&& (2147483647 : Int32)) % (6 : Int32))), .unset, .unset] [(.int ((p1 &&& (2147483647 : Int32)) % (6 : Int32)))])) _
          refine XS.iconst X0.here hx rfl (hb hby at_50) ?_
          exact k)
        by_cases hc51_29 : ((p1 &&& (2147483647 : Int32)) % (6 : Int32)) = (3 : Int32)
        · have pre30 : ∀ t, Steps p.tables e below (s₁.setTop (mkF m 54 #[.val (.int p1), .val (.int ((p1 &&& (2147483647 : Int32)) % (6 : Int32))), .unset, .unset] [])) t → Steps p.tables e below (s₁.setTop (entryFrame m #[(.int p1)] maxLocals)) t := fun t k => pre28 t (by
            show Steps p.tables e below (s₁.setTop (mkF m 51 #[.val (.int p1), .val (.int ((p1 &&& (2147483647 : Int32)) % (6 : Int32))), .unset, .unset] [(.int (3 : Int32)), (.int ((p1 &&& (2147483647 : Int32)) % (6 : Int32)))])) _
            refine XS.icmpNo X0.here hx rfl (hb hby at_51) rfl (teq hc51_29).2 ?_
            exact k)
          obtain ⟨T31, X31, e31, st31⟩ := getS2 X0 hx hZ hown (host := "") (Or.inl (hw _ (List.mem_of_getElem? (i := 13) rfl))) Via.refl e0 (Sta.ext O0 S_IMMEDIATE_OR_CANCEL) (g := (mkF m 54 #[.val (.int p1), .val (.int ((p1 &&& (2147483647 : Int32)) % (6 : Int32))), .unset, .unset] [])) rfl (hb hby at_54)
          have pre32 : ∀ t, Steps p.tables e below (T31.setTop (mkF m 57 #[.val (.int p1), .val (.int ((p1 &&& (2147483647 : Int32)) % (6 : Int32))), .unset, .unset] [(.ref w_IMMEDIATE_OR_CANCEL)])) t → Steps p.tables e below (s₁.setTop (entryFrame m #[(.int p1)] maxLocals)) t := fun t k => pre30 t (st31 t k)
          have pre33 : ∀ t, Steps p.tables e below (T31.setTop (mkF m 84 #[.val (.int p1), .val (.int ((p1 &&& (2147483647 : Int32)) % (6 : Int32))), .val (.ref w_IMMEDIATE_OR_CANCEL), .val (.int (0 : Int32))] [(.ref w_IMMEDIATE_OR_CANCEL)])) t → Steps p.tables e below (s₁.setTop (entryFrame m #[(.int p1)] maxLocals)) t := fun t k => pre32 t (by
            show Steps p.tables e below (T31.setTop (mkF m 57 #[.val (.int p1), .val (.int ((p1 &&& (2147483647 : Int32)) % (6 : Int32))), .unset, .unset] [(.ref w_IMMEDIATE_OR_CANCEL)])) _
            refine XS.astoreN X31.here hx rfl (hb hby at_57) rfl rfl (l' := #[.val (.int p1), .val (.int ((p1 &&& (2147483647 : Int32)) % (6 : Int32))), .val (.ref w_IMMEDIATE_OR_CANCEL), .unset]) rfl ?_
            show Steps p.tables e below (T31.setTop (mkF m 58 #[.val (.int p1), .val (.int ((p1 &&& (2147483647 : Int32)) % (6 : Int32))), .val (.ref w_IMMEDIATE_OR_CANCEL), .unset] [])) _
            refine XS.iconst X31.here hx rfl (hb hby at_58) ?_
            show Steps p.tables e below (T31.setTop (mkF m 59 #[.val (.int p1), .val (.int ((p1 &&& (2147483647 : Int32)) % (6 : Int32))), .val (.ref w_IMMEDIATE_OR_CANCEL), .unset] [(.int (0 : Int32))])) _
            refine XS.istoreN X31.here hx rfl (hb hby at_59) rfl (l' := #[.val (.int p1), .val (.int ((p1 &&& (2147483647 : Int32)) % (6 : Int32))), .val (.ref w_IMMEDIATE_OR_CANCEL), .val (.int (0 : Int32))]) rfl ?_
            show Steps p.tables e below (T31.setTop (mkF m 60 #[.val (.int p1), .val (.int ((p1 &&& (2147483647 : Int32)) % (6 : Int32))), .val (.ref w_IMMEDIATE_OR_CANCEL), .val (.int (0 : Int32))] [])) _
            refine XS.goto X31.here hx rfl (pc0 := 60) (pc' := 83) rfl (hb hby at_60) (by decide) (by decide) ?_
            show Steps p.tables e below (T31.setTop (mkF m 83 #[.val (.int p1), .val (.int ((p1 &&& (2147483647 : Int32)) % (6 : Int32))), .val (.ref w_IMMEDIATE_OR_CANCEL), .val (.int (0 : Int32))] [])) _
            refine XS.aloadN X31.here hx rfl (hb hby at_83) rfl rfl ?_
            exact k)
          obtain ⟨cq34, kq34, q34a, q34b, q34c⟩ := isOf hZ e31 (Exa.ext O0 E_IMMEDIATE_OR_CANCEL)
          obtain ⟨_, _, ⟨T34, L34, k34, n34⟩, -, X34, ⟨Lc34, hQ34, l34, y34, z34⟩, st34⟩ := X31.virtualBack hx (y := (⟨"com/example/synallage/synallage/model/TimeInForce", "marketOnly", "()Z"⟩ : MethodName)) (z := (⟨"com/example/synallage/synallage/model/TimeInForce", "marketOnly", "()Z"⟩ : MethodName)) hown (mvT hZ (hw _ (List.mem_of_getElem? (i := 4) rfl))) (mvT hZ (hw _ (List.mem_of_getElem? (i := 5) rfl))) (notFace_of_selects (args := #[]) (mvT hZ (hw _ (List.mem_of_getElem? (i := 7) rfl)))) (mvT hZ (hw _ (List.mem_of_getElem? (i := 7) rfl))) (mvT hZ (hw _ (List.mem_of_getElem? (i := 6) rfl))) (by decide) (backOf (W := 0) (rm_mo l Z a0 hw [] w_IMMEDIATE_OR_CANCEL w_DAY w_AT_THE_OPEN w_AT_THE_CLOSE w_IMMEDIATE_OR_CANCEL w_GOOD_TILL_CANCEL w_FILL_OR_KILL h0 n0 Z0 O0 P') hZ (hw _ (List.mem_of_getElem? (i := 8) rfl)) (hw _ (List.mem_of_getElem? (i := 2) rfl)) (by decide) (by decide)) q34a q34c (g := (mkF m 84 #[.val (.int p1), .val (.int ((p1 &&& (2147483647 : Int32)) % (6 : Int32))), .val (.ref w_IMMEDIATE_OR_CANCEL), .val (.int (0 : Int32))] [(.ref w_IMMEDIATE_OR_CANCEL)])) rfl (by rw [hml]; rfl) (Steps.refl _) (argsL := []) (rest := []) (lenOf pd_0 rfl) rfl (by show 2 * 0 + _ ≤ _; exact Nat.le_of_eq rfl) (hb hby at_84) (fun _ _ => ⟨rfl, e31, (by decide : 0 + 0 ≤ _), (by decide : 0 + 0 ≤ _)⟩)
          dsimp only [Pt.U, Pt.locs, Pt.cells, Pt.slots] at X34 l34 y34 z34 st34 hQ34
          subst l34 y34 z34
          obtain ⟨hv34, N34q, e34⟩ := hQ34
          rw [(show (if w_IMMEDIATE_OR_CANCEL = w_AT_THE_OPEN then (1 : Int32) else if w_IMMEDIATE_OR_CANCEL = w_AT_THE_CLOSE then (1 : Int32) else (0 : Int32)) = (0 : Int32) from by rw [if_neg (Ne.symm (own_ne_AT_THE_OPEN_IMMEDIATE_OR_CANCEL P')), if_neg (Ne.symm (own_ne_AT_THE_CLOSE_IMMEDIATE_OR_CANCEL P'))])] at hv34
          subst hv34
          have N34 := Fr.app N0 N34q
          have pre35 : ∀ t, Steps p.tables e below (T34.setTop (mkF m 87 #[.val (.int p1), .val (.int ((p1 &&& (2147483647 : Int32)) % (6 : Int32))), .val (.ref w_IMMEDIATE_OR_CANCEL), .val (.int (0 : Int32))] [(.int (0 : Int32))])) t → Steps p.tables e below (s₁.setTop (entryFrame m #[(.int p1)] maxLocals)) t := fun t k => pre33 t (st34.trans k)
          have pre36 : ∀ t, Steps p.tables e below (T34.setTop (mkF m 96 #[.val (.int p1), .val (.int ((p1 &&& (2147483647 : Int32)) % (6 : Int32))), .val (.ref w_IMMEDIATE_OR_CANCEL), .val (.int (0 : Int32))] [(.int (1 : Int32))])) t → Steps p.tables e below (s₁.setTop (entryFrame m #[(.int p1)] maxLocals)) t := fun t k => pre35 t (by
            show Steps p.tables e below (T34.setTop (mkF m 87 #[.val (.int p1), .val (.int ((p1 &&& (2147483647 : Int32)) % (6 : Int32))), .val (.ref w_IMMEDIATE_OR_CANCEL), .val (.int (0 : Int32))] [(.int (0 : Int32))])) _
            refine XS.iloadN X34.here hx rfl (hb hby at_87) rfl ?_
            show Steps p.tables e below (T34.setTop (mkF m 88 #[.val (.int p1), .val (.int ((p1 &&& (2147483647 : Int32)) % (6 : Int32))), .val (.ref w_IMMEDIATE_OR_CANCEL), .val (.int (0 : Int32))] [(.int (0 : Int32)), (.int (0 : Int32))])) _
            refine XS.icmpNo X34.here hx rfl (hb hby at_88) rfl (teq (by decide : (0 : Int32) = (0 : Int32))).2 ?_
            show Steps p.tables e below (T34.setTop (mkF m 91 #[.val (.int p1), .val (.int ((p1 &&& (2147483647 : Int32)) % (6 : Int32))), .val (.ref w_IMMEDIATE_OR_CANCEL), .val (.int (0 : Int32))] [])) _
            refine XS.iconst X34.here hx rfl (hb hby at_91) ?_
            show Steps p.tables e below (T34.setTop (mkF m 92 #[.val (.int p1), .val (.int ((p1 &&& (2147483647 : Int32)) % (6 : Int32))), .val (.ref w_IMMEDIATE_OR_CANCEL), .val (.int (0 : Int32))] [(.int (1 : Int32))])) _
            refine XS.goto X34.here hx rfl (pc0 := 92) (pc' := 96) rfl (hb hby at_92) (by decide) (by decide) ?_
            exact k)
          obtain ⟨fs, hr, hrun, hended, hW, hsame⟩ := X34.leave (v := some (.int (1 : Int32))) (fun h => by rw [Bd.returns] at h; cases h)
          refine ⟨_, _, pre36 _ ?_, hrun, hended, _, _, rfl, ?_, ⟨_, rfl⟩, hW, hsame.mono (by decide) (by decide)⟩
          · exact retN X34 hx (t := .boolean) Bd.returns (by simp) (hb hby at_96) hr
          · show Q_rm_law Z p1 w_DAY w_AT_THE_OPEN w_AT_THE_CLOSE w_IMMEDIATE_OR_CANCEL w_GOOD_TILL_CANCEL w_FILL_OR_KILL h0 n0 _ T34.heap _
            rw [e34]
            exact ⟨rfl, N34⟩
        · have pre37 : ∀ t, Steps p.tables e below (s₁.setTop (mkF m 65 #[.val (.int p1), .val (.int ((p1 &&& (2147483647 : Int32)) % (6 : Int32))), .unset, .unset] [(.int (4 : Int32)), (.int ((p1 &&& (2147483647 : Int32)) % (6 : Int32)))])) t → Steps p.tables e below (s₁.setTop (entryFrame m #[(.int p1)] maxLocals)) t := fun t k => pre28 t (by
            show Steps p.tables e below (s₁.setTop (mkF m 51 #[.val (.int p1), .val (.int ((p1 &&& (2147483647 : Int32)) % (6 : Int32))), .unset, .unset] [(.int (3 : Int32)), (.int ((p1 &&& (2147483647 : Int32)) % (6 : Int32)))])) _
            refine XS.icmpYes X0.here hx rfl (pc0 := 51) (pc' := 63) rfl (hb hby at_51) rfl (feq hc51_29).2 (by decide) (by decide) ?_
            show Steps p.tables e below (s₁.setTop (mkF m 63 #[.val (.int p1), .val (.int ((p1 &&& (2147483647 : Int32)) % (6 : Int32))), .unset, .unset] [])) _
            refine XS.iloadN X0.here hx rfl (hb hby at_63) rfl ?_
            show Steps p.tables e below (s₁.setTop (mkF m 64 #[.val (.int p1), .val (.int ((p1 &&& (2147483647 : Int32)) % (6 : Int32))), .unset, .unset] [(.int ((p1 &&& (2147483647 : Int32)) % (6 : Int32)))])) _
            refine XS.iconst X0.here hx rfl (hb hby at_64) ?_
            exact k)
          by_cases hc65_38 : ((p1 &&& (2147483647 : Int32)) % (6 : Int32)) = (4 : Int32)
          · have pre39 : ∀ t, Steps p.tables e below (s₁.setTop (mkF m 68 #[.val (.int p1), .val (.int ((p1 &&& (2147483647 : Int32)) % (6 : Int32))), .unset, .unset] [])) t → Steps p.tables e below (s₁.setTop (entryFrame m #[(.int p1)] maxLocals)) t := fun t k => pre37 t (by
              show Steps p.tables e below (s₁.setTop (mkF m 65 #[.val (.int p1), .val (.int ((p1 &&& (2147483647 : Int32)) % (6 : Int32))), .unset, .unset] [(.int (4 : Int32)), (.int ((p1 &&& (2147483647 : Int32)) % (6 : Int32)))])) _
              refine XS.icmpNo X0.here hx rfl (hb hby at_65) rfl (teq hc65_38).2 ?_
              exact k)
            obtain ⟨T40, X40, e40, st40⟩ := getS2 X0 hx hZ hown (host := "") (Or.inl (hw _ (List.mem_of_getElem? (i := 19) rfl))) Via.refl e0 (Sta.ext O0 S_FILL_OR_KILL) (g := (mkF m 68 #[.val (.int p1), .val (.int ((p1 &&& (2147483647 : Int32)) % (6 : Int32))), .unset, .unset] [])) rfl (hb hby at_68)
            have pre41 : ∀ t, Steps p.tables e below (T40.setTop (mkF m 71 #[.val (.int p1), .val (.int ((p1 &&& (2147483647 : Int32)) % (6 : Int32))), .unset, .unset] [(.ref w_FILL_OR_KILL)])) t → Steps p.tables e below (s₁.setTop (entryFrame m #[(.int p1)] maxLocals)) t := fun t k => pre39 t (st40 t k)
            have pre42 : ∀ t, Steps p.tables e below (T40.setTop (mkF m 84 #[.val (.int p1), .val (.int ((p1 &&& (2147483647 : Int32)) % (6 : Int32))), .val (.ref w_FILL_OR_KILL), .val (.int (0 : Int32))] [(.ref w_FILL_OR_KILL)])) t → Steps p.tables e below (s₁.setTop (entryFrame m #[(.int p1)] maxLocals)) t := fun t k => pre41 t (by
              show Steps p.tables e below (T40.setTop (mkF m 71 #[.val (.int p1), .val (.int ((p1 &&& (2147483647 : Int32)) % (6 : Int32))), .unset, .unset] [(.ref w_FILL_OR_KILL)])) _
              refine XS.astoreN X40.here hx rfl (hb hby at_71) rfl rfl (l' := #[.val (.int p1), .val (.int ((p1 &&& (2147483647 : Int32)) % (6 : Int32))), .val (.ref w_FILL_OR_KILL), .unset]) rfl ?_
              show Steps p.tables e below (T40.setTop (mkF m 72 #[.val (.int p1), .val (.int ((p1 &&& (2147483647 : Int32)) % (6 : Int32))), .val (.ref w_FILL_OR_KILL), .unset] [])) _
              refine XS.iconst X40.here hx rfl (hb hby at_72) ?_
              show Steps p.tables e below (T40.setTop (mkF m 73 #[.val (.int p1), .val (.int ((p1 &&& (2147483647 : Int32)) % (6 : Int32))), .val (.ref w_FILL_OR_KILL), .unset] [(.int (0 : Int32))])) _
              refine XS.istoreN X40.here hx rfl (hb hby at_73) rfl (l' := #[.val (.int p1), .val (.int ((p1 &&& (2147483647 : Int32)) % (6 : Int32))), .val (.ref w_FILL_OR_KILL), .val (.int (0 : Int32))]) rfl ?_
              show Steps p.tables e below (T40.setTop (mkF m 74 #[.val (.int p1), .val (.int ((p1 &&& (2147483647 : Int32)) % (6 : Int32))), .val (.ref w_FILL_OR_KILL), .val (.int (0 : Int32))] [])) _
              refine XS.goto X40.here hx rfl (pc0 := 74) (pc' := 83) rfl (hb hby at_74) (by decide) (by decide) ?_
              show Steps p.tables e below (T40.setTop (mkF m 83 #[.val (.int p1), .val (.int ((p1 &&& (2147483647 : Int32)) % (6 : Int32))), .val (.ref w_FILL_OR_KILL), .val (.int (0 : Int32))] [])) _
              refine XS.aloadN X40.here hx rfl (hb hby at_83) rfl rfl ?_
              exact k)
            obtain ⟨cq43, kq43, q43a, q43b, q43c⟩ := isOf hZ e40 (Exa.ext O0 E_FILL_OR_KILL)
            obtain ⟨_, _, ⟨T43, L43, k43, n43⟩, -, X43, ⟨Lc43, hQ43, l43, y43, z43⟩, st43⟩ := X40.virtualBack hx (y := (⟨"com/example/synallage/synallage/model/TimeInForce", "marketOnly", "()Z"⟩ : MethodName)) (z := (⟨"com/example/synallage/synallage/model/TimeInForce", "marketOnly", "()Z"⟩ : MethodName)) hown (mvT hZ (hw _ (List.mem_of_getElem? (i := 4) rfl))) (mvT hZ (hw _ (List.mem_of_getElem? (i := 5) rfl))) (notFace_of_selects (args := #[]) (mvT hZ (hw _ (List.mem_of_getElem? (i := 7) rfl)))) (mvT hZ (hw _ (List.mem_of_getElem? (i := 7) rfl))) (mvT hZ (hw _ (List.mem_of_getElem? (i := 6) rfl))) (by decide) (backOf (W := 0) (rm_mo l Z a0 hw [] w_FILL_OR_KILL w_DAY w_AT_THE_OPEN w_AT_THE_CLOSE w_IMMEDIATE_OR_CANCEL w_GOOD_TILL_CANCEL w_FILL_OR_KILL h0 n0 Z0 O0 P') hZ (hw _ (List.mem_of_getElem? (i := 8) rfl)) (hw _ (List.mem_of_getElem? (i := 2) rfl)) (by decide) (by decide)) q43a q43c (g := (mkF m 84 #[.val (.int p1), .val (.int ((p1 &&& (2147483647 : Int32)) % (6 : Int32))), .val (.ref w_FILL_OR_KILL), .val (.int (0 : Int32))] [(.ref w_FILL_OR_KILL)])) rfl (by rw [hml]; rfl) (Steps.refl _) (argsL := []) (rest := []) (lenOf pd_0 rfl) rfl (by show 2 * 0 + _ ≤ _; exact Nat.le_of_eq rfl) (hb hby at_84) (fun _ _ => ⟨rfl, e40, (by decide : 0 + 0 ≤ _), (by decide : 0 + 0 ≤ _)⟩)
            dsimp only [Pt.U, Pt.locs, Pt.cells, Pt.slots] at X43 l43 y43 z43 st43 hQ43
            subst l43 y43 z43
            obtain ⟨hv43, N43q, e43⟩ := hQ43
            rw [(show (if w_FILL_OR_KILL = w_AT_THE_OPEN then (1 : Int32) else if w_FILL_OR_KILL = w_AT_THE_CLOSE then (1 : Int32) else (0 : Int32)) = (0 : Int32) from by rw [if_neg (Ne.symm (own_ne_AT_THE_OPEN_FILL_OR_KILL P')), if_neg (Ne.symm (own_ne_AT_THE_CLOSE_FILL_OR_KILL P'))])] at hv43
            subst hv43
            have N43 := Fr.app N0 N43q
            have pre44 : ∀ t, Steps p.tables e below (T43.setTop (mkF m 87 #[.val (.int p1), .val (.int ((p1 &&& (2147483647 : Int32)) % (6 : Int32))), .val (.ref w_FILL_OR_KILL), .val (.int (0 : Int32))] [(.int (0 : Int32))])) t → Steps p.tables e below (s₁.setTop (entryFrame m #[(.int p1)] maxLocals)) t := fun t k => pre42 t (st43.trans k)
            have pre45 : ∀ t, Steps p.tables e below (T43.setTop (mkF m 96 #[.val (.int p1), .val (.int ((p1 &&& (2147483647 : Int32)) % (6 : Int32))), .val (.ref w_FILL_OR_KILL), .val (.int (0 : Int32))] [(.int (1 : Int32))])) t → Steps p.tables e below (s₁.setTop (entryFrame m #[(.int p1)] maxLocals)) t := fun t k => pre44 t (by
              show Steps p.tables e below (T43.setTop (mkF m 87 #[.val (.int p1), .val (.int ((p1 &&& (2147483647 : Int32)) % (6 : Int32))), .val (.ref w_FILL_OR_KILL), .val (.int (0 : Int32))] [(.int (0 : Int32))])) _
              refine XS.iloadN X43.here hx rfl (hb hby at_87) rfl ?_
              show Steps p.tables e below (T43.setTop (mkF m 88 #[.val (.int p1), .val (.int ((p1 &&& (2147483647 : Int32)) % (6 : Int32))), .val (.ref w_FILL_OR_KILL), .val (.int (0 : Int32))] [(.int (0 : Int32)), (.int (0 : Int32))])) _
              refine XS.icmpNo X43.here hx rfl (hb hby at_88) rfl (teq (by decide : (0 : Int32) = (0 : Int32))).2 ?_
              show Steps p.tables e below (T43.setTop (mkF m 91 #[.val (.int p1), .val (.int ((p1 &&& (2147483647 : Int32)) % (6 : Int32))), .val (.ref w_FILL_OR_KILL), .val (.int (0 : Int32))] [])) _
              refine XS.iconst X43.here hx rfl (hb hby at_91) ?_
              show Steps p.tables e below (T43.setTop (mkF m 92 #[.val (.int p1), .val (.int ((p1 &&& (2147483647 : Int32)) % (6 : Int32))), .val (.ref w_FILL_OR_KILL), .val (.int (0 : Int32))] [(.int (1 : Int32))])) _
              refine XS.goto X43.here hx rfl (pc0 := 92) (pc' := 96) rfl (hb hby at_92) (by decide) (by decide) ?_
              exact k)
            obtain ⟨fs, hr, hrun, hended, hW, hsame⟩ := X43.leave (v := some (.int (1 : Int32))) (fun h => by rw [Bd.returns] at h; cases h)
            refine ⟨_, _, pre45 _ ?_, hrun, hended, _, _, rfl, ?_, ⟨_, rfl⟩, hW, hsame.mono (by decide) (by decide)⟩
            · exact retN X43 hx (t := .boolean) Bd.returns (by simp) (hb hby at_96) hr
            · show Q_rm_law Z p1 w_DAY w_AT_THE_OPEN w_AT_THE_CLOSE w_IMMEDIATE_OR_CANCEL w_GOOD_TILL_CANCEL w_FILL_OR_KILL h0 n0 _ T43.heap _
              rw [e43]
              exact ⟨rfl, N43⟩
          · have pre46 : ∀ t, Steps p.tables e below (s₁.setTop (mkF m 77 #[.val (.int p1), .val (.int ((p1 &&& (2147483647 : Int32)) % (6 : Int32))), .unset, .unset] [])) t → Steps p.tables e below (s₁.setTop (entryFrame m #[(.int p1)] maxLocals)) t := fun t k => pre37 t (by
              show Steps p.tables e below (s₁.setTop (mkF m 65 #[.val (.int p1), .val (.int ((p1 &&& (2147483647 : Int32)) % (6 : Int32))), .unset, .unset] [(.int (4 : Int32)), (.int ((p1 &&& (2147483647 : Int32)) % (6 : Int32)))])) _
              refine XS.icmpYes X0.here hx rfl (pc0 := 65) (pc' := 77) rfl (hb hby at_65) rfl (feq hc65_38).2 (by decide) (by decide) ?_
              exact k)
            obtain ⟨T47, X47, e47, st47⟩ := getS2 X0 hx hZ hown (host := "") (Or.inl (hw _ (List.mem_of_getElem? (i := 18) rfl))) Via.refl e0 (Sta.ext O0 S_AT_THE_CLOSE) (g := (mkF m 77 #[.val (.int p1), .val (.int ((p1 &&& (2147483647 : Int32)) % (6 : Int32))), .unset, .unset] [])) rfl (hb hby at_77)
            have pre48 : ∀ t, Steps p.tables e below (T47.setTop (mkF m 80 #[.val (.int p1), .val (.int ((p1 &&& (2147483647 : Int32)) % (6 : Int32))), .unset, .unset] [(.ref w_AT_THE_CLOSE)])) t → Steps p.tables e below (s₁.setTop (entryFrame m #[(.int p1)] maxLocals)) t := fun t k => pre46 t (st47 t k)
            have pre49 : ∀ t, Steps p.tables e below (T47.setTop (mkF m 84 #[.val (.int p1), .val (.int ((p1 &&& (2147483647 : Int32)) % (6 : Int32))), .val (.ref w_AT_THE_CLOSE), .val (.int (1 : Int32))] [(.ref w_AT_THE_CLOSE)])) t → Steps p.tables e below (s₁.setTop (entryFrame m #[(.int p1)] maxLocals)) t := fun t k => pre48 t (by
              show Steps p.tables e below (T47.setTop (mkF m 80 #[.val (.int p1), .val (.int ((p1 &&& (2147483647 : Int32)) % (6 : Int32))), .unset, .unset] [(.ref w_AT_THE_CLOSE)])) _
              refine XS.astoreN X47.here hx rfl (hb hby at_80) rfl rfl (l' := #[.val (.int p1), .val (.int ((p1 &&& (2147483647 : Int32)) % (6 : Int32))), .val (.ref w_AT_THE_CLOSE), .unset]) rfl ?_
              show Steps p.tables e below (T47.setTop (mkF m 81 #[.val (.int p1), .val (.int ((p1 &&& (2147483647 : Int32)) % (6 : Int32))), .val (.ref w_AT_THE_CLOSE), .unset] [])) _
              refine XS.iconst X47.here hx rfl (hb hby at_81) ?_
              show Steps p.tables e below (T47.setTop (mkF m 82 #[.val (.int p1), .val (.int ((p1 &&& (2147483647 : Int32)) % (6 : Int32))), .val (.ref w_AT_THE_CLOSE), .unset] [(.int (1 : Int32))])) _
              refine XS.istoreN X47.here hx rfl (hb hby at_82) rfl (l' := #[.val (.int p1), .val (.int ((p1 &&& (2147483647 : Int32)) % (6 : Int32))), .val (.ref w_AT_THE_CLOSE), .val (.int (1 : Int32))]) rfl ?_
              show Steps p.tables e below (T47.setTop (mkF m 83 #[.val (.int p1), .val (.int ((p1 &&& (2147483647 : Int32)) % (6 : Int32))), .val (.ref w_AT_THE_CLOSE), .val (.int (1 : Int32))] [])) _
              refine XS.aloadN X47.here hx rfl (hb hby at_83) rfl rfl ?_
              exact k)
            obtain ⟨cq50, kq50, q50a, q50b, q50c⟩ := isOf hZ e47 (Exa.ext O0 E_AT_THE_CLOSE)
            obtain ⟨_, _, ⟨T50, L50, k50, n50⟩, -, X50, ⟨Lc50, hQ50, l50, y50, z50⟩, st50⟩ := X47.virtualBack hx (y := (⟨"com/example/synallage/synallage/model/TimeInForce", "marketOnly", "()Z"⟩ : MethodName)) (z := (⟨"com/example/synallage/synallage/model/TimeInForce", "marketOnly", "()Z"⟩ : MethodName)) hown (mvT hZ (hw _ (List.mem_of_getElem? (i := 4) rfl))) (mvT hZ (hw _ (List.mem_of_getElem? (i := 5) rfl))) (notFace_of_selects (args := #[]) (mvT hZ (hw _ (List.mem_of_getElem? (i := 7) rfl)))) (mvT hZ (hw _ (List.mem_of_getElem? (i := 7) rfl))) (mvT hZ (hw _ (List.mem_of_getElem? (i := 6) rfl))) (by decide) (backOf (W := 0) (rm_mo l Z a0 hw [] w_AT_THE_CLOSE w_DAY w_AT_THE_OPEN w_AT_THE_CLOSE w_IMMEDIATE_OR_CANCEL w_GOOD_TILL_CANCEL w_FILL_OR_KILL h0 n0 Z0 O0 P') hZ (hw _ (List.mem_of_getElem? (i := 8) rfl)) (hw _ (List.mem_of_getElem? (i := 2) rfl)) (by decide) (by decide)) q50a q50c (g := (mkF m 84 #[.val (.int p1), .val (.int ((p1 &&& (2147483647 : Int32)) % (6 : Int32))), .val (.ref w_AT_THE_CLOSE), .val (.int (1 : Int32))] [(.ref w_AT_THE_CLOSE)])) rfl (by rw [hml]; rfl) (Steps.refl _) (argsL := []) (rest := []) (lenOf pd_0 rfl) rfl (by show 2 * 0 + _ ≤ _; exact Nat.le_of_eq rfl) (hb hby at_84) (fun _ _ => ⟨rfl, e47, (by decide : 0 + 0 ≤ _), (by decide : 0 + 0 ≤ _)⟩)
            dsimp only [Pt.U, Pt.locs, Pt.cells, Pt.slots] at X50 l50 y50 z50 st50 hQ50
            subst l50 y50 z50
            obtain ⟨hv50, N50q, e50⟩ := hQ50
            rw [(show (if w_AT_THE_CLOSE = w_AT_THE_OPEN then (1 : Int32) else if w_AT_THE_CLOSE = w_AT_THE_CLOSE then (1 : Int32) else (0 : Int32)) = (1 : Int32) from by rw [if_neg (Ne.symm (own_ne_AT_THE_OPEN_AT_THE_CLOSE P')), if_pos rfl])] at hv50
            subst hv50
            have N50 := Fr.app N0 N50q
            have pre51 : ∀ t, Steps p.tables e below (T50.setTop (mkF m 87 #[.val (.int p1), .val (.int ((p1 &&& (2147483647 : Int32)) % (6 : Int32))), .val (.ref w_AT_THE_CLOSE), .val (.int (1 : Int32))] [(.int (1 : Int32))])) t → Steps p.tables e below (s₁.setTop (entryFrame m #[(.int p1)] maxLocals)) t := fun t k => pre49 t (st50.trans k)
            have pre52 : ∀ t, Steps p.tables e below (T50.setTop (mkF m 96 #[.val (.int p1), .val (.int ((p1 &&& (2147483647 : Int32)) % (6 : Int32))), .val (.ref w_AT_THE_CLOSE), .val (.int (1 : Int32))] [(.int (1 : Int32))])) t → Steps p.tables e below (s₁.setTop (entryFrame m #[(.int p1)] maxLocals)) t := fun t k => pre51 t (by
              show Steps p.tables e below (T50.setTop (mkF m 87 #[.val (.int p1), .val (.int ((p1 &&& (2147483647 : Int32)) % (6 : Int32))), .val (.ref w_AT_THE_CLOSE), .val (.int (1 : Int32))] [(.int (1 : Int32))])) _
              refine XS.iloadN X50.here hx rfl (hb hby at_87) rfl ?_
              show Steps p.tables e below (T50.setTop (mkF m 88 #[.val (.int p1), .val (.int ((p1 &&& (2147483647 : Int32)) % (6 : Int32))), .val (.ref w_AT_THE_CLOSE), .val (.int (1 : Int32))] [(.int (1 : Int32)), (.int (1 : Int32))])) _
              refine XS.icmpNo X50.here hx rfl (hb hby at_88) rfl (teq (by decide : (1 : Int32) = (1 : Int32))).2 ?_
              show Steps p.tables e below (T50.setTop (mkF m 91 #[.val (.int p1), .val (.int ((p1 &&& (2147483647 : Int32)) % (6 : Int32))), .val (.ref w_AT_THE_CLOSE), .val (.int (1 : Int32))] [])) _
              refine XS.iconst X50.here hx rfl (hb hby at_91) ?_
              show Steps p.tables e below (T50.setTop (mkF m 92 #[.val (.int p1), .val (.int ((p1 &&& (2147483647 : Int32)) % (6 : Int32))), .val (.ref w_AT_THE_CLOSE), .val (.int (1 : Int32))] [(.int (1 : Int32))])) _
              refine XS.goto X50.here hx rfl (pc0 := 92) (pc' := 96) rfl (hb hby at_92) (by decide) (by decide) ?_
              exact k)
            obtain ⟨fs, hr, hrun, hended, hW, hsame⟩ := X50.leave (v := some (.int (1 : Int32))) (fun h => by rw [Bd.returns] at h; cases h)
            refine ⟨_, _, pre52 _ ?_, hrun, hended, _, _, rfl, ?_, ⟨_, rfl⟩, hW, hsame.mono (by decide) (by decide)⟩
            · exact retN X50 hx (t := .boolean) Bd.returns (by simp) (hb hby at_96) hr
            · show Q_rm_law Z p1 w_DAY w_AT_THE_OPEN w_AT_THE_CLOSE w_IMMEDIATE_OR_CANCEL w_GOOD_TILL_CANCEL w_FILL_OR_KILL h0 n0 _ T50.heap _
              rw [e50]
              exact ⟨rfl, N50⟩
set_option maxRecDepth 65536 in
set_option maxHeartbeats 40000000 in
theorem comes_1 {Post : Tables → Env → Array Value → State → Outcome → State → Prop} (hpost : ∀ tb e args s v u, (limb_1_1.after args s (.returned v) u = true ∧ limb_1_2.after args s (.returned v) u = true ∧ True) → FrameEnd s (.returned v) u (Jvm.fieldLocs frame_1_writes args s ++ Jvm.arrayLocs frame_1_arrays args s ++ Jvm.staticLocs frame_1_statics s) 0 0 → Post tb e args s (.returned v) u) :
    ArmFor flags0 classFile x code maxLocals ret World_1 tables_1 room_1 Calls_1 rest_1 Pre_1 Post := by
  intro l hfl _ _ p e ha hc hk s m args below hf hA hF happ hP0
  obtain ⟨hcalls, hrest, hpre⟩ := hP0
  obtain ⟨-, -, -, hnamed, -, -, -, hat⟩ := (Spec.applies_iff hf).mp happ
  obtain ⟨hg, hn⟩ := and_e (Cond.before_iff.mp (show (Jvm.Cond.and given_1 narrow_1).before args s = true from hpre))
  obtain ⟨g0a, g0b⟩ := and_e hg
  obtain ⟨w0, rfl⟩ : ∃ w0 : Value, args = #[w0] := by
    have hs : args.size = 1 := by simpa [Cond.value, given_1] using g0a
    obtain ⟨L⟩ := args
    match L, hs with
    | [w0], _ => exact ⟨w0, rfl⟩
  have hw := fun d (hd : d ∈ tables_1) => atoms_spec (ws := Jvm.Cond.code x code maxLocals ret :: tables_1) hat d (List.mem_cons_of_mem _ hd)
  have hfit : Fit s := fun {y c} hc i hi => by
    obtain ⟨ha, rfl⟩ := Array.getElem?_eq_some_iff.mp hc
    have q := List.all_eq_true.mp ((Array.all_eq_true_iff_forall_mem.mp hF) _ (Array.getElem_mem ha)) i (List.mem_range.mpr hi)
    simpa [Array.getElem?_eq_getElem hi] using q
  obtain ⟨i0, ei0⟩ := is_v g0b
  obtain rfl : w0 = (.int i0) := Option.some.inj ei0
  have hn' := hn
  obtain ⟨na0, nb0⟩ := and_e hn
  obtain ⟨na1, nb1⟩ := and_e nb0
  obtain ⟨na2, nb2⟩ := and_e nb1
  obtain ⟨na3, nb3⟩ := and_e nb2
  obtain ⟨na4, nb4⟩ := and_e nb3
  obtain ⟨na5, nb5⟩ := and_e nb4
  obtain ⟨na6, nb6⟩ := and_e nb5
  obtain ⟨na7, nb7⟩ := and_e nb6
  obtain ⟨na8, nb8⟩ := and_e nb7
  obtain ⟨na9, nb9⟩ := and_e nb8
  obtain ⟨na10, nb10⟩ := and_e nb9
  obtain ⟨w_DAY, ev_DAY, E_DAY⟩ := own_pin na0
  have S_DAY := Sta.start ev_DAY (Or.inr ⟨(hw _ (List.mem_of_getElem? (i := 2) rfl)), (hw _ (List.mem_of_getElem? (i := 3) rfl))⟩)
  obtain ⟨w_AT_THE_OPEN, ev_AT_THE_OPEN, E_AT_THE_OPEN⟩ := own_pin na1
  have S_AT_THE_OPEN := Sta.start ev_AT_THE_OPEN (Or.inr ⟨(hw _ (List.mem_of_getElem? (i := 2) rfl)), (hw _ (List.mem_of_getElem? (i := 10) rfl))⟩)
  obtain ⟨w_AT_THE_CLOSE, ev_AT_THE_CLOSE, E_AT_THE_CLOSE⟩ := own_pin na4
  have S_AT_THE_CLOSE := Sta.start ev_AT_THE_CLOSE (Or.inr ⟨(hw _ (List.mem_of_getElem? (i := 2) rfl)), (hw _ (List.mem_of_getElem? (i := 12) rfl))⟩)
  obtain ⟨w_IMMEDIATE_OR_CANCEL, ev_IMMEDIATE_OR_CANCEL, E_IMMEDIATE_OR_CANCEL⟩ := own_pin na6
  have S_IMMEDIATE_OR_CANCEL := Sta.start ev_IMMEDIATE_OR_CANCEL (Or.inr ⟨(hw _ (List.mem_of_getElem? (i := 2) rfl)), (hw _ (List.mem_of_getElem? (i := 14) rfl))⟩)
  obtain ⟨w_GOOD_TILL_CANCEL, ev_GOOD_TILL_CANCEL, E_GOOD_TILL_CANCEL⟩ := own_pin na8
  have S_GOOD_TILL_CANCEL := Sta.start ev_GOOD_TILL_CANCEL (Or.inr ⟨(hw _ (List.mem_of_getElem? (i := 2) rfl)), (hw _ (List.mem_of_getElem? (i := 17) rfl))⟩)
  obtain ⟨w_FILL_OR_KILL, ev_FILL_OR_KILL, E_FILL_OR_KILL⟩ := own_pin na10
  have S_FILL_OR_KILL := Sta.start ev_FILL_OR_KILL (Or.inr ⟨(hw _ (List.mem_of_getElem? (i := 2) rfl)), (hw _ (List.mem_of_getElem? (i := 20) rfl))⟩)
  have F_ordinal_DAY := own_fld ev_DAY na2
  have F_ordinal_AT_THE_OPEN := own_fld ev_AT_THE_OPEN na3
  have F_ordinal_AT_THE_CLOSE := own_fld ev_AT_THE_CLOSE na5
  have F_ordinal_IMMEDIATE_OR_CANCEL := own_fld ev_IMMEDIATE_OR_CANCEL na7
  have F_ordinal_GOOD_TILL_CANCEL := own_fld ev_GOOD_TILL_CANCEL na9
  have F_ordinal_FILL_OR_KILL := own_fld ev_FILL_OR_KILL nb10
  have hP : Pins s w_DAY w_AT_THE_OPEN w_AT_THE_CLOSE w_IMMEDIATE_OR_CANCEL w_GOOD_TILL_CANCEL w_FILL_OR_KILL := ⟨S_DAY, S_AT_THE_OPEN, S_AT_THE_CLOSE, S_IMMEDIATE_OR_CANCEL, S_GOOD_TILL_CANCEL, S_FILL_OR_KILL, E_DAY, E_AT_THE_OPEN, E_AT_THE_CLOSE, E_IMMEDIATE_OR_CANCEL, E_GOOD_TILL_CANCEL, E_FILL_OR_KILL, F_ordinal_DAY, F_ordinal_AT_THE_OPEN, F_ordinal_AT_THE_CLOSE, F_ordinal_IMMEDIATE_OR_CANCEL, F_ordinal_GOOD_TILL_CANCEL, F_ordinal_FILL_OR_KILL⟩
  obtain ⟨n, o, h1, h2, h3, _, L, rfl, ⟨rfl, N⟩, hq⟩ := rm_law l s _ hw tables_1 i0 w_DAY w_AT_THE_OPEN w_AT_THE_CLOSE w_IMMEDIATE_OR_CANCEL w_GOOD_TILL_CANCEL w_FILL_OR_KILL s.heap s.heap.size (Nat.le_refl _) (own_ext_refl _) hP p e ha hc hk s m _ below hf ((Spec.applies_iff_loose hf).mp happ).1 ⟨rfl, State.Warmed39.refl s, rfl⟩ trivial
  refine ⟨n, _, h1, h2, h3, hpost _ _ _ _ _ _ ⟨Cond.after_iff.mpr rfl, Cond.after_iff.mpr (eq_i res_at (Term.int_eval (1)) rfl), trivial⟩ ⟨hq.1, hq.2.1, (hq.2.2.sift fun y hy => Or.inr (N y hy)).mono (by decide) (by decide)⟩⟩
theorem main_1_1 : Claimed_1_1 := comes_1 fun _ _ _ _ _ _ h hF => ⟨h.1, hF⟩
theorem main_1_2 : Claimed_1_2 := comes_1 fun _ _ _ _ _ _ h hF => ⟨h.2.1, hF⟩
end Jvm.Pilot.@@N@@
namespace Jvm.Pilot.@@N@@
open Jvm Jvm.ClassFile Sem Op Lib Jvm.Free Jvm.Stand Jvm.Pilot.@@N@@.Jvm.D
/-! MADE BY PROGRAM (witnessworld.py) out of the Statement's table words and the real class files: 12 classes; the members and pool entries that the words name. The judged class is class 1, her method 1. -/
namespace start1
open Jvm.ClassFile
def u (s : String) : CpInfo := .utf8 (stringToUtf16 s)
/-- a pool by its gaps: so many unusable entries, then the entry; so many at the end -/
def gap : Nat → List CpInfo → List CpInfo
  | 0, r => r
  | n + 1, r => .unusable :: gap n r
def poolList (es : List (Nat × CpInfo)) (last : Nat) : List CpInfo := es.foldr (fun e r => gap e.1 (e.2 :: r)) (gap last [])
def pool (es : List (Nat × CpInfo)) (last : Nat) : Array CpInfo := ⟨poolList es last⟩
def fileOf (pool : Array CpInfo) (this : Nat) (attrs : Array Attribute := #[]) (ms : Array MethodInfo := #[]) (fl : Nat := 33) (sup : Nat := 0) (ifs : Array Nat := #[]) (fds : Array FieldInfo := #[]) : ClassFile where
  minorVersion := 0
  majorVersion := 65
  constantPool := pool
  accessFlags := fl
  thisClass := this
  superClass := sup
  interfaces := ifs
  fields := fds
  methods := ms
  attributes := attrs
def plain (name : String) (sup : Option ClassId) : Class where
  name := name
  kind := .ordinary
  loader := none
  accessFlags := 33
  super := sup
  interfaces := #[]
  cf := none
  fields := #[]
  methods := #[]
  instanceTypes := #[]
  staticTypes := #[]
  resolved := #[]
  callSites := []
  init := .initialized
  statics := none
  mirror := none

def pool0 : Array CpInfo := pool [(5, u "<init>"), (0, u "()V"), (1, .class_ 10), (1, u "java/lang/Object")] 113

def k0m0 : Method := { name := "<init>", desc := "()V", sig := { parameters := [], returnType := none }, accessFlags := 1, code := none }
/-- java/lang/Object -/
def k0 : Class := { plain "java/lang/Object" none with
  accessFlags := 33
  interfaces := #[]
  cf := some (fileOf pool0 8 #[] #[{ accessFlags := 1, nameIndex := 5, descriptorIndex := 6, attributes := #[] }] 33 0 #[] #[])
  fields := #[]
  methods := #[k0m0]
  instanceTypes := #[]
  staticTypes := #[]
  resolved := Array.replicate 124 none
  statics := none }

def pool1 : Array CpInfo := pool [(2, .class_ 4), (1, u "java/lang/Object"), (0, u "<init>"), (0, u "()V"), (0, .integer 2147483647), (0, .fieldref 9 10), (0, .class_ 11), (0, .nameAndType 12 13), (0, u "com/example/synallage/synallage/model/TimeInForce"), (0, u "DAY"), (0, u "Lcom/example/synallage/synallage/model/TimeInForce;"), (0, .fieldref 9 15), (0, .nameAndType 16 13), (0, u "GOOD_TILL_CANCEL"), (0, .fieldref 9 18), (0, .nameAndType 19 13), (0, u "AT_THE_OPEN"), (0, .fieldref 9 21), (0, .nameAndType 22 13), (0, u "IMMEDIATE_OR_CANCEL"), (0, .fieldref 9 24), (0, .nameAndType 25 13), (0, u "FILL_OR_KILL"), (0, .fieldref 9 27), (0, .nameAndType 28 13), (0, u "AT_THE_CLOSE"), (0, .methodref 9 30), (0, .nameAndType 31 32), (0, u "marketOnly"), (0, u "()Z"), (0, .class_ 34), (0, u "com/example/synallage/synallage/model/TimeInForceMarketOnlyPinLaw"), (2, u "law"), (0, u "(I)Z")] 3

def k1m0 : Method := { name := "<init>", desc := "()V", sig := { parameters := [], returnType := none }, accessFlags := 1, code := none }
def k1c1 : Code := { maxStack := 2, maxLocals := 4, code := code, exceptionTable := #[], attributes := #[] }
def k1m1 : Method := { name := "law", desc := "(I)Z", sig := { parameters := [.int], returnType := some .boolean }, accessFlags := 9, code := some k1c1 }
/-- com/example/synallage/synallage/model/TimeInForceMarketOnlyPinLaw -/
def k1 : Class := { plain "com/example/synallage/synallage/model/TimeInForceMarketOnlyPinLaw" (some 0) with
  accessFlags := 49
  interfaces := #[]
  cf := some (fileOf pool1 33 #[] #[{ accessFlags := 1, nameIndex := 5, descriptorIndex := 6, attributes := #[] }, { accessFlags := 9, nameIndex := 37, descriptorIndex := 38, attributes := #[] }] 49 2 #[] #[])
  fields := #[]
  methods := #[k1m0, k1m1]
  instanceTypes := #[]
  staticTypes := #[]
  resolved := Array.replicate 42 none
  statics := none }

def pool2 : Array CpInfo := pool [(1, .class_ 2), (0, u "java/lang/constant/Constable"), (0, .class_ 4), (0, u "java/lang/Object")] 6

/-- java/lang/constant/Constable -/
def k2 : Class := { plain "java/lang/constant/Constable" (some 0) with
  accessFlags := 1537
  interfaces := #[]
  cf := some (fileOf pool2 1 #[] #[] 1537 3 #[] #[])
  fields := #[]
  methods := #[]
  instanceTypes := #[]
  staticTypes := #[]
  resolved := Array.replicate 11 none
  statics := none }

def pool3 : Array CpInfo := pool [(1, .class_ 2), (0, u "java/lang/Comparable"), (0, .class_ 4), (0, u "java/lang/Object")] 7

/-- java/lang/Comparable -/
def k3 : Class := { plain "java/lang/Comparable" (some 0) with
  accessFlags := 1537
  interfaces := #[]
  cf := some (fileOf pool3 1 #[] #[] 1537 3 #[] #[])
  fields := #[]
  methods := #[]
  instanceTypes := #[]
  staticTypes := #[]
  resolved := Array.replicate 12 none
  statics := none }

def pool4 : Array CpInfo := pool [(1, .class_ 2), (0, u "java/io/Serializable"), (0, .class_ 4), (0, u "java/lang/Object")] 2

/-- java/io/Serializable -/
def k4 : Class := { plain "java/io/Serializable" (some 0) with
  accessFlags := 1537
  interfaces := #[]
  cf := some (fileOf pool4 1 #[] #[] 1537 3 #[] #[])
  fields := #[]
  methods := #[]
  instanceTypes := #[]
  staticTypes := #[]
  resolved := Array.replicate 7 none
  statics := none }

def pool5 : Array CpInfo := pool [(2, .class_ 4), (1, u "java/lang/Enum"), (0, u "name"), (0, u "Ljava/lang/String;"), (2, u "ordinal"), (0, u "I"), (1, .class_ 14), (1, u "java/lang/Object"), (4, u "hash"), (86, .class_ 108), (1, u "java/lang/Enum$EnumDesc"), (2, .class_ 112), (0, u "java/lang/constant/Constable"), (0, .class_ 114), (0, u "java/lang/Comparable"), (0, .class_ 116), (0, u "java/io/Serializable")] 87

/-- java/lang/Enum -/
def k5 : Class := { plain "java/lang/Enum" (some 0) with
  accessFlags := 1057
  interfaces := #[2, 3, 4]
  cf := some (fileOf pool5 2 #[.nestMembers #[106]] #[] 1057 12 #[111, 113, 115] #[{ accessFlags := 18, nameIndex := 5, descriptorIndex := 6, attributes := #[] }, { accessFlags := 18, nameIndex := 9, descriptorIndex := 10, attributes := #[] }, { accessFlags := 2, nameIndex := 19, descriptorIndex := 10, attributes := #[] }])
  fields := #[{ name := "name", type := (.object "java/lang/String"), accessFlags := 18, slot := 0, constantValue := 0 }, { name := "ordinal", type := .int, accessFlags := 18, slot := 1, constantValue := 0 }, { name := "hash", type := .int, accessFlags := 2, slot := 2, constantValue := 0 }]
  methods := #[]
  instanceTypes := #[(.object "java/lang/String"), .int, .int]
  staticTypes := #[]
  resolved := Array.replicate 204 none
  statics := none }

def pool6 : Array CpInfo := pool [(1, .class_ 2), (0, u "com/example/synallage/synallage/model/TimeInForce"), (2, u "DAY"), (0, u "Lcom/example/synallage/synallage/model/TimeInForce;"), (2, u "GOOD_TILL_CANCEL"), (0, .fieldref 1 11), (0, .nameAndType 12 6), (0, u "AT_THE_OPEN"), (2, u "IMMEDIATE_OR_CANCEL"), (2, u "FILL_OR_KILL"), (0, .fieldref 1 20), (0, .nameAndType 21 6), (0, u "AT_THE_CLOSE"), (2, u "$VALUES"), (0, u "[Lcom/example/synallage/synallage/model/TimeInForce;"), (6, .class_ 34), (1, u "java/lang/Enum"), (24, u "marketOnly"), (0, u "()Z")] 6

def k6c0 : Code := { maxStack := 2, maxLocals := 1, code := prog_76_method_4_code, exceptionTable := #[], attributes := #[] }
def k6m0 : Method := { name := "marketOnly", desc := "()Z", sig := { parameters := [], returnType := some .boolean }, accessFlags := 1, code := some k6c0 }
/-- com/example/synallage/synallage/model/TimeInForce -/
def k6 : Class := { plain "com/example/synallage/synallage/model/TimeInForce" (some 5) with
  accessFlags := 16433
  interfaces := #[]
  cf := some (fileOf pool6 1 #[] #[{ accessFlags := 1, nameIndex := 59, descriptorIndex := 60, attributes := #[] }] 16433 32 #[] #[{ accessFlags := 16409, nameIndex := 5, descriptorIndex := 6, attributes := #[] }, { accessFlags := 16409, nameIndex := 9, descriptorIndex := 6, attributes := #[] }, { accessFlags := 16409, nameIndex := 12, descriptorIndex := 6, attributes := #[] }, { accessFlags := 16409, nameIndex := 15, descriptorIndex := 6, attributes := #[] }, { accessFlags := 16409, nameIndex := 18, descriptorIndex := 6, attributes := #[] }, { accessFlags := 16409, nameIndex := 21, descriptorIndex := 6, attributes := #[] }, { accessFlags := 4122, nameIndex := 24, descriptorIndex := 25, attributes := #[] }])
  fields := #[{ name := "DAY", type := (.object "com/example/synallage/synallage/model/TimeInForce"), accessFlags := 16409, slot := 0, constantValue := 0 }, { name := "GOOD_TILL_CANCEL", type := (.object "com/example/synallage/synallage/model/TimeInForce"), accessFlags := 16409, slot := 1, constantValue := 0 }, { name := "AT_THE_OPEN", type := (.object "com/example/synallage/synallage/model/TimeInForce"), accessFlags := 16409, slot := 2, constantValue := 0 }, { name := "IMMEDIATE_OR_CANCEL", type := (.object "com/example/synallage/synallage/model/TimeInForce"), accessFlags := 16409, slot := 3, constantValue := 0 }, { name := "FILL_OR_KILL", type := (.object "com/example/synallage/synallage/model/TimeInForce"), accessFlags := 16409, slot := 4, constantValue := 0 }, { name := "AT_THE_CLOSE", type := (.object "com/example/synallage/synallage/model/TimeInForce"), accessFlags := 16409, slot := 5, constantValue := 0 }, { name := "$VALUES", type := (.array (.object "com/example/synallage/synallage/model/TimeInForce")), accessFlags := 4122, slot := 6, constantValue := 0 }]
  methods := #[k6m0]
  instanceTypes := #[(.object "java/lang/String"), .int, .int]
  staticTypes := #[(.object "com/example/synallage/synallage/model/TimeInForce"), (.object "com/example/synallage/synallage/model/TimeInForce"), (.object "com/example/synallage/synallage/model/TimeInForce"), (.object "com/example/synallage/synallage/model/TimeInForce"), (.object "com/example/synallage/synallage/model/TimeInForce"), (.object "com/example/synallage/synallage/model/TimeInForce"), (.array (.object "com/example/synallage/synallage/model/TimeInForce"))]
  resolved := Array.replicate 67 none
  statics := some 0 }

def pool7 : Array CpInfo := pool [(1, u "java/lang/Cloneable"), (0, .class_ 1), (0, u "java/lang/Object"), (0, .class_ 3)] 3

/-- java/lang/Cloneable -/
def k7 : Class := { plain "java/lang/Cloneable" (some 0) with
  accessFlags := 1537
  interfaces := #[]
  cf := some (fileOf pool7 2 #[] #[] 1537 4 #[] #[])
  fields := #[]
  methods := #[]
  instanceTypes := #[]
  staticTypes := #[]
  resolved := Array.replicate 8 none
  statics := none }

/-- the primitive byte -/
def k8 : Class := { plain "byte" none with kind := .primitive 'B', accessFlags := 0x411 }
/-- [B -/
def k9 : Class := { plain "[B" (some 0) with kind := .array 8 .byte, interfaces := #[7, 4], accessFlags := 1041 }

/-- the primitive int -/
def k10 : Class := { plain "int" none with kind := .primitive 'I', accessFlags := 0x411 }
/-- [I -/
def k11 : Class := { plain "[I" (some 0) with kind := .array 10 .int, interfaces := #[7, 4], accessFlags := 1041 }

def heap : Heap := #[{ cls := 6, slots := #[.ref 1, .ref 5, .ref 2, .ref 4, .ref 6, .ref 3, .null], vm := .statics 6 },
  { cls := 6, slots := #[.null, .int 0, .int 0], vm := .none },
  { cls := 6, slots := #[.null, .int 2, .int 0], vm := .none },
  { cls := 6, slots := #[.null, .int 5, .int 0], vm := .none },
  { cls := 6, slots := #[.null, .int 3, .int 0], vm := .none },
  { cls := 6, slots := #[.null, .int 1, .int 0], vm := .none },
  { cls := 6, slots := #[.null, .int 4, .int 0], vm := .none }]
def classes : Array Class := #[k0, k1, k2, k3, k4, k5, k6, k7, k8, k9, k10, k11]
def interned : List (Array UInt16 × Addr) := []
def slotsUsed : Nat := 25
def theMethod : MethodId := ⟨1, 1⟩
def args0 : Array Value := #[.int 5]
def aboutOver (below : List Frame) : State where
  vm := { classes := classes, interned := interned.toArray }
  heap := heap
  slotsUsed := slotsUsed
  threads := #[{ frames := .invoking theMethod args0 :: below }]
def below0 : List Frame := [.native { method := ⟨0, 0⟩, args := #[] }]
def about1 : State := aboutOver below0
def p0 : Program := .bare "" "" ""
def e0 : Env := launch0.env 0 0 0
theorem w_frames : about1.frames = Frame.invoking theMethod args0 :: below0 := rfl
set_option maxRecDepth 65536 in
theorem w_args : argsFit about1.vm theMethod args0 = true := by decide +kernel
set_option maxRecDepth 65536 in
theorem w_heap : heapFits about1 = true := by decide +kernel
set_option maxRecDepth 65536 in
theorem w_runnable : about1.curStatus? = some .runnable := by decide +kernel
set_option maxRecDepth 65536 in
theorem w_alone : about1.alone = true := by decide +kernel
set_option maxRecDepth 65536 in
theorem w_named : about1.methodNamed? x = some theMethod := by decide +kernel
set_option maxRecDepth 65536 in
theorem w_hears : about1.hears theMethod below0 = true := by decide +kernel
set_option maxRecDepth 65536 in
theorem w_ripe : about1.ripe theMethod args0 below0 = true := by decide +kernel
theorem w_running : about1.status = .running := rfl
set_option maxRecDepth 65536 in
theorem w_room : about1.hasRoom e0.platform room_1 = true :=
  launch0.hasRoom_least _ room_1 (by decide +kernel) (by decide +kernel) (by decide +kernel) (by decide +kernel) (by decide +kernel) (by decide +kernel)
theorem allAtoms_all (ts : List Jvm.Cond) (a : Array Jvm.Value) (st : Jvm.State) : (allAtoms ts).before a st = ts.all (fun c => c.before a st) := by
  induction ts with
  | nil => rfl
  | cons c t ih =>
    show (Jvm.Cond.and c (allAtoms t)).before a st = _
    rw [Jvm.Cond.before_and, ih, List.all_cons]
def words1 : List Jvm.Cond := Jvm.Cond.code x code maxLocals ret :: tables_1
/-- a 'code' word, met by the world's own term for the bytes: nothing is compared byte by byte -/
theorem code_word {y : MethodName} {bytes : ByteArray} {mx : Nat} {rt : Option FieldType} {a : Array Value} {s : State} {m : MethodId} {meth : Method} {c : Code} (h1 : s.methodNamed? y = some m) (h2 : s.vm.method? m = some meth) (h3 : meth.code = some c) (h4 : c.code = bytes)
    (h5 : (c.maxLocals == mx && c.exceptionTable.isEmpty && decide (c.maxStack ≤ mostOperands) && decide (meth.sig.returnType = rt) && !meth.locks && decide (parseMethodDescriptor y.desc = some meth.sig)) = true) : (Jvm.Cond.code y bytes mx rt).before a s = true := by
  simp only [Bool.and_eq_true, beq_iff_eq, Bool.not_eq_true', decide_eq_true_eq] at h5
  obtain ⟨⟨⟨⟨⟨g1, g2⟩, g3⟩, g4⟩, g5⟩, g6⟩ := h5
  simp [Cond.before, Cond.holds, Cond.value, h1, h2, h3, h4, g1, g2, g3, g4, g5, g6]
def isCode : Jvm.Cond → Bool
  | .code _ _ _ _ => true
  | _ => false
theorem all_split {L : List Jvm.Cond} {P : Jvm.Cond → Bool} (h1 : L.all (fun c => isCode c || P c) = true) (h2 : ∀ c ∈ L.filter isCode, P c = true) : L.all P = true := by
  refine List.all_eq_true.mpr fun c hc => ?_
  have h := List.all_eq_true.mp h1 c hc
  rcases Bool.eq_false_or_eq_true (isCode c) with hi | hi
  · exact h2 c (List.mem_filter.mpr ⟨hc, hi⟩)
  · simpa [hi] using h
set_option maxRecDepth 65536 in
theorem w_c0 : (Jvm.Cond.code x code maxLocals ret).before args0 about1 = true := code_word (m := ⟨1, 1⟩) (meth := k1m1) (c := k1c1) (by decide +kernel) rfl rfl rfl (by decide +kernel)
set_option maxRecDepth 65536 in
theorem w_c1 : (Jvm.Cond.code ({ cls := "com/example/synallage/synallage/model/TimeInForce", name := "marketOnly", desc := "()Z" } : Jvm.MethodName) prog_76_method_4_code (1 : Nat) (Option.some Jvm.ClassFile.FieldType.boolean)).before args0 about1 = true := code_word (m := ⟨6, 0⟩) (meth := k6m0) (c := k6c0) (by decide +kernel) rfl rfl rfl (by decide +kernel)
def codes1 : List Jvm.Cond := [Jvm.Cond.code x code maxLocals ret, Jvm.Cond.code ({ cls := "com/example/synallage/synallage/model/TimeInForce", name := "marketOnly", desc := "()Z" } : Jvm.MethodName) prog_76_method_4_code (1 : Nat) (Option.some Jvm.ClassFile.FieldType.boolean)]
set_option maxRecDepth 65536 in
theorem codes_eq : words1.filter isCode = codes1 := rfl
theorem w_codes : ∀ c ∈ words1.filter isCode, c.before args0 about1 = true := by
  rw [codes_eq]
  intro c hc
  simp only [codes1, List.mem_cons, List.not_mem_nil, or_false] at hc
  rcases hc with rfl | rfl
  · exact w_c0
  · exact w_c1
set_option maxRecDepth 65536 in
theorem w_t1 : words1.all (fun c => isCode c || c.before args0 about1) = true := by decide +kernel
theorem w_tables : (allAtoms (Jvm.Cond.code x code maxLocals ret :: tables_1)).before args0 about1 = true := by
  rw [allAtoms_all]
  show words1.all (fun c => c.before args0 about1) = true
  refine all_split ?_ w_codes
  rw [w_t1]
set_option maxRecDepth 65536 in
theorem w_case : (Jvm.Cond.and given_1 narrow_1).before args0 about1 = true := by decide +kernel
theorem w_applies : (headSpec (Jvm.Cond.code x code maxLocals ret :: tables_1) room_1).applies x e0.platform about1 = true :=
  (Spec.applies_iff w_frames).mpr ⟨w_running, w_runnable, w_alone, w_named, w_hears, w_ripe, w_room, w_tables⟩
theorem atStart : AtStart classFile x code maxLocals ret World_1 tables_1 room_1 Calls_1 rest_1 Pre_1 launch0 p0 e0 about1 theMethod args0 below0 :=
  ⟨lists_1, trivial, launch0.admits_env _ _ _, launch0.least_env, fairChoices_fair.cas, fairChoices_fair.clock, w_frames, w_args, w_heap, w_applies, trivial, trivial, w_case⟩
end start1
theorem witness_1 : WitnessClaimed_1 := ⟨start1.p0, start1.e0, start1.about1, start1.theMethod, start1.args0, start1.below0, start1.atStart⟩
end Jvm.Pilot.@@N@@
